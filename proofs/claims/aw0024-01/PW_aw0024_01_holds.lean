import PyProof.Rows.All
import Wide.All
import OpenK.AllK
import Wide.FinOn
import PySem.Challenge.RW_aw0024_01
section Gq_part
open PySem PySem.W
set_option Elab.async false
namespace Mine
/-- a goal's postcondition as a variable: keeps the terms small -/
theorem wpQ {α : Type} {M : Model} {A : Around} {t : Sem α} {Q : α → Shared → Prop} {E : Value → Shared → Prop} {s : Shared}
    (h : ∀ Q' : α → Shared → Prop, (∀ a s', Q a s' → Q' a s') → wpAny M A t Q' E s) : wpAny M A t Q E s := h Q fun _ _ x => x
theorem wpQE {α : Type} {M : Model} {A : Around} {t : Sem α} {Q : α → Shared → Prop} {E : Value → Shared → Prop} {s : Shared}
    (h : ∀ (Q' : α → Shared → Prop) (E' : Value → Shared → Prop), (∀ a s', Q a s' → Q' a s') → (∀ a s', E a s' → E' a s') → wpAny M A t Q' E' s) : wpAny M A t Q E s := h Q E (fun _ _ x => x) fun _ _ x => x
section
variable {M : Model} {A : Around} {E : Value → Shared → Prop} {s s' : Shared} {env : Env} {test : Expr} {body orelse : List Stmt} {pos : Pos} {Q : Flow → Shared → Prop}
/-- an if whose test's value is known -/
theorem If_f (ht : ∀ Q' : Bool → Shared → Prop, Q' false s' → wpAny M A (isTrue test env (eval test env)) Q' E s) (h : wpAny M A (execs orelse env) Q E s') :
    wpAny M A (exec (.If test body orelse pos) env) Q E s := wpAny_If (ht _ h)
theorem If_t (ht : ∀ Q' : Bool → Shared → Prop, Q' true s' → wpAny M A (isTrue test env (eval test env)) Q' E s) (h : wpAny M A (execs body env) Q E s') :
    wpAny M A (exec (.If test body orelse pos) env) Q E s := wpAny_If (ht _ h)
end
end Mine
end Gq_part
section Gq2_part
open PySem PySem.W
set_option Elab.async false
namespace Mine
theorem list1 {α : Type} {l : List α} (h : l.length = 1) : ∃ x, l = [x] := List.length_eq_one_iff.mp h
theorem arr1 {α : Type} {b : Array α} (h : b.size = 1) : ∃ x, b = #[x] := by
  obtain ⟨l⟩ := b
  obtain ⟨x, rfl⟩ := list1 (l := l) h
  exact ⟨x, rfl⟩
theorem list_pos {α : Type} {l : List α} (h : 1 ≤ l.length) : ∃ x r, l = x :: r := by
  cases l with
  | nil => exact absurd h (by simp)
  | cons x r => exact ⟨x, r, rfl⟩
section
variable {M : Model} {A : Around} {E : Value → Shared → Prop} {s : Shared} {t : Sem Value} {Q : Value → Shared → Prop}
/-- behind a call that keeps all and gives a value of a form -/
theorem mono_k {f : Tok → Value} (c : wpAny M A t (fun r s' => Keeps s s' ∧ ∃ t', r = f t') (fun _ _ => False) s)
    (k : ∀ h' tk t', (∀ b o, s.heap.get? b = some o → h'.get? b = some o) → Q (f t') { s with heap := h', toks := tk }) : wpAny M A t Q E s :=
  wpAny_mono c (fun r s' h => by
    obtain ⟨⟨h', tk, rfl, k1⟩, t', rfl⟩ := h
    exact k h' tk t' k1) fun _ _ h => h.elim
theorem mono_k0 {v : Value} (c : wpAny M A t (fun r s' => Keeps s s' ∧ r = v) (fun _ _ => False) s)
    (k : ∀ h' tk, (∀ b o, s.heap.get? b = some o → h'.get? b = some o) → Q v { s with heap := h', toks := tk }) : wpAny M A t Q E s :=
  wpAny_mono c (fun r s' h => by
    obtain ⟨⟨h', tk, rfl, k1⟩, rfl⟩ := h
    exact k h' tk k1) fun _ _ h => h.elim
end
end Mine
end Gq2_part
section Top1_part
open PySem PySem.W PyProof.Rows
set_option Elab.async false
set_option maxRecDepth 100000
set_option maxHeartbeats 0
namespace Mine
noncomputable abbrev pw : Program := PySem.Challenge.pw_aw0024_01
noncomputable def S0 (w : World) (os : OsState) : Shared := ⟨boot_heap w.params, #[], boot_drawn, boot_toks, os⟩
noncomputable def mT (w : World) : Model := ⟨denote treeTable, pw, w⟩
noncomputable def cCaller : Code := .builtin "claim.caller" {}
noncomputable def preTree : Sem Fin := do
  let code ← moduleCode pw.main
  let frame ← newBodyFrame code mainNs mainNs
  if code == .ref 13 && frame == 14 then (pure (.done .next) : Sem Fin) else unsupported "x"
noncomputable def haltS : Run → Option (Flow × Shared)
  | .halted (.done f) s => some (f, s)
  | _ => none
noncomputable def envB : Env := { scope := pw.main.scope, locals := mainNs, globals := mainNs, cells := [], code := .ref 13, frame := some 14 }
noncomputable def cB : Code := .body pw.main.body envB
noncomputable def S1 (w : World) (os : OsState) : Shared := ((haltS ((mT w).runN 40 (S0 w os) ⟨preTree, cCaller, default, []⟩)).getD (.next, {})).2
noncomputable def kB : Result → Sem Fin
  | .ok .next => .pure (.done .brk)
  | _ => .unsupported "x"
noncomputable def frB (q : Pos) : Frame := .ret kB none false [] cCaller q []
noncomputable def U6 : Sem Fin := (execs (pw.main.body.take 6) envB).bind fun f => .pure (.done f)
noncomputable def ent (P : Params) (n : Str) (t : Tok) (v : Value) : DictEntry := ⟨if n.cps.isEmpty then 0 else reduceHash (P.strHash n.cps), .str n t, v⟩
noncomputable def clsInit (k : Nat) : Arguments × List Stmt × Scope := match pw.main.body[k]? with
  | some (.ClassDef _ _ _ (.FunctionDef _ a b _ _ _ sc _ _ _ :: _) ..) => (a, b, sc)
  | _ => default
noncomputable def initFd (k : Nat) (q : Str) (cell : Addr) (md cd ct : Value) : FuncData :=
  { name := "__init__", qualname := q, params := (clsInit k).1, body := .stmts (clsInit k).2.1, scope := (clsInit k).2.2, globals := mainNs, closure := [("__class__", cell)], defaults := .none, kwdefaults := .none, doc := .none, pyModule := md, annotations := none, code := cd, closureTuple := ct, builtins := builtinsNs }
noncomputable def o2 (P : Params) : Obj := ⟨.none, none, .dict #[ent P "type.__subclasses__.Exception.0" 205 (.int (24) 0), ent P "type.__subclasses__.Exception.n" 206 (.int (1) 0)] 2, #[]⟩
noncomputable def o3 (P : Params) : Obj := ⟨.type "dict", none, .dict #[ent P "__name__" 165 (.str "rlp.utils" 293), ent P "__doc__" 166 (.none), ent P "__package__" 167 (.none), ent P "__loader__" 168 (.builtin "__main__.__loader__#opaque"), ent P "__spec__" 169 (.none), ent P "__annotations__" 170 (.ref 6), ent P "__builtins__" 171 (.ref 4), ent P "__file__" 173 (.str "/claim/cut.py" 172), ent P "__cached__" 174 (.none), ent P "RLPException" 208 (.ref 24), ent P "EncodingError" 236 (.ref 46), ent P "DecodingError" 264 (.ref 67), ent P "SerializationError" 292 (.ref 88)] 13, #[]⟩
noncomputable def o12 (P : Params) : Obj := ⟨.none, none, .fields #[.int (2) 0, .int (0) 0, .ref 20, .int (4) 0, .int (0) 0, .ref 34, .int (9) 0, .int (0) 0, .ref 55, .int (14) 0, .int (0) 0, .ref 76], #[]⟩
noncomputable def o13 (P : Params) : Obj := ⟨.type "code", none, .fields #[.str "<module>" 182, .str "<module>" 183, .str "/claim/cut.py" 184, .int (1) 0, .int (0) 0, .int (0) 0, .int (0) 0, .int (0) 0, .ref 11, .bool false, .int (181) 0, .ref 12, .none, .none, .none, .none, .int (185) 0, .int (1) 0, .str "/claim/cut.py" 186], #[]⟩
noncomputable def o14 (P : Params) : Obj := ⟨.type "frame", none, .plain, #[some (.ref 13), some (.ref 3), some (.ref 3), none, some (.str "__main__" 164), none, some (.ref 0)]⟩
noncomputable def o23 (P : Params) : Obj := ⟨.type "dict", none, .dict #[ent P "__module__" 196 (.str "rlp.exceptions" 187), ent P "__firstlineno__" 200 (.int (2) 199), ent P "__static_attributes__" 201 (.ref 22), ent P "__weakref__" 203 (.ref 25), ent P "__doc__" 204 (.none)] 3, #[]⟩
noncomputable def o24 (P : Params) : Obj := ⟨.type "type", none, .cls ⟨"RLPException", [.type "Exception"], [.ref 24, .type "Exception", .type "BaseException", .type "object"], 23, "RLPException", true, [], [.ref 46, .ref 67, .ref 88], false, none, false⟩, #[some (.ref 15), none, some (.str "RLPException" 189), some (.str "RLPException" 197), some (.builtin "Exception.__new__"), some (.bool true)]⟩
noncomputable def o25 (P : Params) : Obj := ⟨.type "getset_descriptor", none, .fields #[.str "__weakref__" 202, .ref 24, .builtin "ExceptionGroup.__weakref__", .none], #[]⟩
noncomputable def o31 (P : Params) : Obj := ⟨.type "cell", none, .cell (some (.ref 46)), #[]⟩
noncomputable def o42 (P : Params) : Obj := ⟨.type "code", none, .fields #[.str "__init__" 221, .str "EncodingError.__init__" 222, .str "/claim/cut.py" 223, .int (6) 0, .int (3) 0, .int (0) 0, .int (0) 0, .int (3) 0, .ref 37, .bool true, .int (181) 0, .ref 38, .none, .ref 39, .ref 40, .ref 41, .int (228) 0, .int (6) 0, .str "/claim/cut.py" 229], #[]⟩
noncomputable def o43 (P : Params) : Obj := ⟨.type "function", none, .func (initFd 2 "EncodingError.__init__" 31 (.str "rlp.exceptions" 187) (.ref 42) (.ref 36)), #[]⟩
noncomputable def o44 (P : Params) : Obj := ⟨.type "tuple", none, .seq #[.str "obj" 231] 0, #[]⟩
noncomputable def o45 (P : Params) : Obj := ⟨.type "dict", none, .dict #[ent P "__module__" 216 (.str "rlp.exceptions" 187), ent P "__firstlineno__" 220 (.int (4) 219), ent P "__init__" 230 (.ref 43), ent P "__static_attributes__" 232 (.ref 44), ent P "__doc__" 234 (.none)] 3, #[]⟩
noncomputable def o46 (P : Params) : Obj := ⟨.type "type", none, .cls ⟨"EncodingError", [.ref 24], [.ref 46, .ref 24, .type "Exception", .type "BaseException", .type "object"], 45, "EncodingError", true, [], [], false, none, false⟩, #[some (.ref 28), none, some (.str "EncodingError" 209), some (.str "EncodingError" 217), some (.builtin "Exception.__new__"), some (.bool true)]⟩
noncomputable def o73 (P : Params) : Obj := ⟨.type "cell", none, .cell (some (.ref 88)), #[]⟩
noncomputable def o84 (P : Params) : Obj := ⟨.type "code", none, .fields #[.str "__init__" 277, .str "SerializationError.__init__" 278, .str "/claim/cut.py" 279, .int (16) 0, .int (3) 0, .int (0) 0, .int (0) 0, .int (3) 0, .ref 79, .bool true, .int (181) 0, .ref 80, .none, .ref 81, .ref 82, .ref 83, .int (284) 0, .int (16) 0, .str "/claim/cut.py" 285], #[]⟩
noncomputable def o85 (P : Params) : Obj := ⟨.type "function", none, .func (initFd 4 "SerializationError.__init__" 73 (.str "rlp.exceptions" 187) (.ref 84) (.ref 78)), #[]⟩
noncomputable def o86 (P : Params) : Obj := ⟨.type "tuple", none, .seq #[.str "obj" 287] 0, #[]⟩
noncomputable def o87 (P : Params) : Obj := ⟨.type "dict", none, .dict #[ent P "__module__" 272 (.str "rlp.exceptions" 187), ent P "__firstlineno__" 276 (.int (14) 275), ent P "__init__" 286 (.ref 85), ent P "__static_attributes__" 288 (.ref 86), ent P "__doc__" 290 (.none)] 3, #[]⟩
noncomputable def o88 (P : Params) : Obj := ⟨.type "type", none, .cls ⟨"SerializationError", [.ref 24], [.ref 88, .ref 24, .type "Exception", .type "BaseException", .type "object"], 87, "SerializationError", true, [], [], false, none, false⟩, #[some (.ref 70), none, some (.str "SerializationError" 265), some (.str "SerializationError" 273), some (.builtin "Exception.__new__"), some (.bool true)]⟩
noncomputable def oAddrs : List Addr := [2, 3, 12, 13, 14, 23, 24, 25, 31, 42, 43, 44, 45, 46, 73, 84, 85, 86, 87, 88]
noncomputable def oVals (P : Params) : List (Option Obj) := [some (o2 P), some (o3 P), some (o12 P), some (o13 P), some (o14 P), some (o23 P), some (o24 P), some (o25 P), some (o31 P), some (o42 P), some (o43 P), some (o44 P), some (o45 P), some (o46 P), some (o73 P), some (o84 P), some (o85 P), some (o86 P), some (o87 P), some (o88 P)]
noncomputable def oldAddrs : List Addr := [0, 1, 4, 5, 6, 7, 8, 9, 10]
theorem pre1 (w : World) (os : OsState) : (haltS ((mT w).runN 40 (S0 w os) ⟨preTree, cCaller, default, []⟩)).map (fun r => r.1) = some .next := by kernel_rfl
theorem pre6 (w : World) (os : OsState) (p q : Pos) : (haltS ((mT w).runN 1200 (S1 w os) ⟨U6, cB, p, [frB q]⟩)).map (fun r => (r.1, r.2.heap.objs.size, r.2.gens, r.2.os, r.2.heap.life, oAddrs.map r.2.heap.get?, oldAddrs.map r.2.heap.get?)) =
    some (.brk, 91, #[], os, (boot_heap w.params).life, oVals w.params, oldAddrs.map (boot_heap w.params).get?) := by kernel_rfl
end Mine
end Top1_part
section Top2_part
open PySem PySem.W PyProof.Rows
set_option Elab.async false
set_option maxRecDepth 100000
set_option maxHeartbeats 0
namespace Mine
noncomputable abbrev Amax : Around := { handled := none, depth := 900, frames := none, guards := none, units := 9000 }
theorem amax {α : Type} {M : Model} {A : Around} {t : Sem α} {Q : α → Shared → Prop} {E : Value → Shared → Prop} {s : Shared}
    (h : wpAny M Amax t Q E s) (hh : A.handled = none) (hd : A.depth ≤ 900) (hu : A.units ≤ 9000) : wpAny M A t Q E s := fun Γ p hΓ =>
  h Γ p ⟨hΓ.1.trans hh, Nat.le_trans hΓ.2.1 hd, (fun _ e => by cases e), (fun _ e => by cases e), Nat.le_trans hΓ.2.2.2.2 hu⟩

theorem mT_eq (w : World) : mT w = model pw w := by
  unfold mT model
  rw [table_eq_tree]

theorem step_halt_done {den : Code → Sem Fin} {prog : Program} {w : World} {s s' : Shared} {t : Thread} {f : Flow} (h : step den prog w s t = .halt (.done f) s') : s' = s ∧ through t = true := by
  refine ⟨step_halt_same den prog w s s' t _ h, ?_⟩
  obtain ⟨heap, gens, drawn, toks, os⟩ := s
  obtain ⟨cur, code, pos, stack⟩ := t
  cases cur with
  | pure fin =>
    cases fin with
    | done f => cases stack with
      | nil => rfl
      | cons F r => cases F <;> ((unfold step at h; dsimp only at h); cases h)
    | again c =>
      (unfold step at h; dsimp only at h)
      cases h
  | raise e =>
    cases stack with
    | nil =>
      (unfold step finish at h; dsimp only at h)
      split at h <;> (injection h with h _; cases h)
    | cons F r => cases F <;> ((unfold step at h; dsimp only at h); cases h)
  | _ =>
    (unfold step at h; dsimp only at h)
    repeat' (split at h)
    all_goals (first | (cases h; done) | (injection h with h _; cases h))

theorem run_last {den : Code → Sem Fin} {prog : Program} {w : World} {f : Flow} {s' : Shared} : ∀ (n : Nat) (s : Shared) (t : Thread), PySem.runN den prog w n s t = .halted (.done f) s' →
    ∃ m t', PySem.runN den prog w m s t = .running s' t' ∧ through t' = true
  | 0, s, t, h => by simp [PySem.runN] at h
  | n + 1, s, t, h => by
    simp only [PySem.runN] at h
    cases hs : step den prog w s t with
    | go s₁ t₁ =>
      simp only [hs] at h
      obtain ⟨m, t', h1, h2⟩ := run_last n s₁ t₁ h
      exact ⟨m + 1, t', by simp only [PySem.runN, hs]; exact h1, h2⟩
    | halt o s₁ =>
      simp only [hs] at h
      injection h with h1 h2
      subst h1 h2
      obtain ⟨e, ht⟩ := step_halt_done hs
      subst e
      exact ⟨0, t, rfl, ht⟩

/-- what is shown of the top's tree by wp is a run of the machine -/
theorem top_reach {M : Model} {s : Shared} {t : Sem Fin} {P : Shared → Prop} (hz : s.asleep)
    (h : Sem.wp M ⟨cCaller, none, none, [], none⟩ t (Sem.finPost M ⟨cCaller, none, none, [], none⟩ fun r s' => (∃ f, r = .ok f) ∧ s'.gens = #[] ∧ P s') (fun _ _ _ => False) default s) :
    ∃ n t' s', schedN M.den M.prog M.w n (.single s ⟨t, cCaller, default, []⟩) = .running (.single s' t') ∧ through t' = true ∧ P s' ∧ s'.gens = #[] ∧ s'.heap.life = s.heap.life := by
  obtain ⟨n, r, s', hn, ⟨f, rfl⟩, hg, hP⟩ := (wp_iff_halts (M := M) t (fun r s' => (∃ f, r = .ok f) ∧ s'.gens = #[] ∧ P s') default s).mp
    (Sem.wp_mono M _ t (fun fin p s' q => by
      cases fin with
      | done f => exact ⟨q, by obtain ⟨_, hg, _⟩ := q; rw [hg]; simp [leftWithCleanup]⟩
      | again c => exact ⟨q.1, wpCode_mono (fun r s'' q => ⟨q, by obtain ⟨_, hg, _⟩ := q; rw [hg]; simp [leftWithCleanup]⟩) q.2⟩) (fun _ _ _ q => q.elim) _ _ h)
  obtain ⟨s'', hr, hf, hc⟩ := runNI_real M.den M.prog M.w hn (outcomeOf_ends _)
  obtain rfl : s'' = s' := Shared.eq_of_forget_eq hf hg
  have hne : ∀ k s₂, PySem.runN M.den M.prog M.w k s ⟨t, cCaller, default, []⟩ ≠ .halted (.unsupported "lifetime:generator-with-cleanup-left-suspended") s₂ := by
    intro k s₂ hk
    have a := runN_mono M.den M.prog M.w n k s _ _ s'' hr
    have b := runN_mono M.den M.prog M.w k n s _ _ s₂ hk
    rw [Nat.add_comm, b] at a
    injection a with a1 _
    cases a1
  obtain ⟨m, t', hm, ht⟩ := run_last n s _ hr
  exact ⟨m, t', s'', (schedN_eq_runN M.den M.prog M.w s _ hz ⟨hc, hne⟩ m).trans (congrArg Run.lift hm), ht, hP, hg, runN_life _ _ _ hr⟩

theorem execs_append (a b : List Stmt) (env : Env) : execs (a ++ b) env = (execs a env >>= fun f => match f with | .next => execs b env | f => pure f) := by
  induction a with
  | nil => rfl
  | cons st a ih =>
    rw [List.cons_append, execs_cons, execs_cons, bind_assoc]
    refine congrArg _ (funext fun f => ?_)
    cases f with
    | next => exact ih
    | _ => rfl

theorem haltS_some {r : Run} {f : Flow} {s : Shared} (h : haltS r = some (f, s)) : r = .halted (.done f) s := by
  unfold haltS at h
  split at h
  · cases h; rfl
  · cases h

/-- the context of the text's own block -/
noncomputable abbrev ctxB (q : Pos) : Ctx := ⟨cB, none, none, [(cCaller, q)], none⟩
theorem ctxB_in (q : Pos) : (ctxB q).In Amax := by
  refine ⟨rfl, ?_, (fun _ e => by cases e), (fun _ e => by cases e), ?_⟩
  · show frameCount [(cCaller, q)] + cB.weight ≤ 900
    rw [frameCount_cons]
    exact Nat.le_of_ble_eq_true rfl
  · exact Nat.le_of_ble_eq_true rfl
end Mine
end Top2_part
section Top3_part
open PySem PySem.W PyProof.Rows
set_option Elab.async false
set_option maxRecDepth 100000
set_option maxHeartbeats 0
namespace Mine
noncomputable abbrev ctxC : Ctx := ⟨cCaller, none, none, [], none⟩
theorem wp_pre (w : World) (os : OsState) (Q : Value → Addr → Pos → Shared → Prop) (hQ : ∀ p, Q (.ref 13) 14 p (S1 w os)) :
    Sem.wp (model pw w) ctxC (moduleCode pw.main) (fun code p s => Sem.wp (model pw w) ctxC (newBodyFrame code mainNs mainNs) (fun fr p s => Q code fr p s) (fun _ _ _ => False) p s) (fun _ _ _ => False) default (S0 w os) := by
  obtain ⟨⟨f, s'⟩, h1, h2⟩ := Option.map_eq_some_iff.mp (pre1 w os)
  dsimp only at h2
  subst h2
  have hS : S1 w os = s' := by unfold S1; rw [h1]; rfl
  have h3 := haltS_some h1
  rw [mT_eq] at h3
  have h4 := (wp_iff_halts (M := model pw w) (c := cCaller) preTree (fun r s'' => r = .ok .next ∧ s'' = S1 w os) default (S0 w os)).mpr ⟨40, .ok .next, s', h3, rfl, hS.symm⟩
  unfold preTree at h4
  rw [Sem.wp_bind'] at h4
  refine Sem.wp_mono _ _ _ (fun code p s h => ?_) (fun _ _ _ h => by cases h.1.1) _ _ h4
  rw [Sem.wp_bind'] at h
  refine Sem.wp_mono _ _ _ (fun fr p' s'' h' => ?_) (fun _ _ _ h => by cases h.1.1) _ _ h
  by_cases hc : (code == Value.ref 13 && fr == 14) = true
  · rw [if_pos hc, Sem.wp_pure'] at h'
    rw [Bool.and_eq_true, beq_iff_eq, beq_iff_eq] at hc
    obtain ⟨rfl, rfl⟩ := hc
    obtain ⟨⟨_, rfl⟩, _⟩ := h'
    exact hQ p'
  · rw [if_neg hc] at h'
    exact h'.elim

structure F6 (w : World) (os : OsState) (s : Shared) : Prop where
  size : s.heap.objs.size = 91
  gens : s.gens = #[]
  os : s.os = os
  life : s.heap.life = (boot_heap w.params).life
  objs : oAddrs.map s.heap.get? = oVals w.params
  olds : oldAddrs.map s.heap.get? = oldAddrs.map (boot_heap w.params).get?

noncomputable def RetThen (M : Model) (Γ : Ctx) (p : Pos) (t : Sem Fin) (fs : List Frame) (s : Shared) (e : End) (s' : Shared) : Prop :=
  match fs with
  | .ret k h g l c₁ p₁ kp :: rest => rest = [] → (∃ r0, e = .ret r0) → ∃ r s₁, Runs M (Γ.over (.ret k h g l c₁ p₁ kp :: rest)) p t [] s (.ret r) s₁ ∧ Runs M (Γ.goto c₁) p₁ (k r) rest s₁ e s'
  | _ => True
theorem split_ret {k : Result → Sem Fin} {h : Option Value} {g : Bool} {l : List Value} {c : Code} {p : Pos} {kp : List Value} {rest : List Frame} (e : rest = []) : splitAtGen (.ret k h g l c p kp :: rest) = none := by
  subst e; rfl
theorem retThen {M : Model} {Γ : Ctx} {p : Pos} {t : Sem Fin} {fs : List Frame} {s s' : Shared} {e : End} (hr : Runs M Γ p t fs s e s') : RetThen M Γ p t fs s e s' := by
  apply @Runs.casesOn M (fun Γ p t fs s e s' _ => RetThen M Γ p t fs s e s') Γ p t fs s e s' hr
  case segRet => intros; intro _ _; exact ⟨_, _, by assumption, by assumption⟩
  case segSuspOut =>
    intro _ _ _ F; intros
    cases F with
    | ret => exact fun _ h => h.elim fun _ h => End.noConfusion h
    | _ => exact trivial
  case segSuspGen =>
    intro _ _ _ F _ _ _ _ _ _ _ _ _ _ _ _ _ _ _ _ _ _ a; intros
    cases F with
    | ret => exact fun h _ => nomatch (split_ret h).symm.trans a
    | _ => exact trivial
  all_goals (intros; exact trivial)
theorem runs_ret {M : Model} {Γ : Ctx} {p p₁ : Pos} {t : Sem Fin} {k : Result → Sem Fin} {c₁ : Code} {s s' : Shared} {e : End} (hr : Runs M Γ p t [.ret k none false [] c₁ p₁ []] s e s') (he : ∃ r, e = .ret r := by exact ⟨_, rfl⟩) :
    ∃ r s₁, Runs M (Γ.over [.ret k none false [] c₁ p₁ []]) p t [] s (.ret r) s₁ ∧ Runs M (Γ.goto c₁) p₁ (k r) [] s₁ e s' := retThen hr rfl he
theorem wp_six (w : World) (os : OsState) (p q : Pos) :
    Sem.wp (model pw w) (ctxB q) (execs (pw.main.body.take 6) envB) (fun f _ s' => f = .next ∧ F6 w os s') (fun _ _ _ => False) p (S1 w os) := by
  obtain ⟨⟨f, s'⟩, h1, h2⟩ := Option.map_eq_some_iff.mp (pre6 w os p q)
  simp only [Prod.mk.injEq] at h2
  obtain ⟨rfl, a1, a2, a3, a4, a5, a6⟩ := h2
  have F : F6 w os s' := ⟨a1, a2, a3, a4, a5, a6⟩
  have h3 := haltS_some h1
  rw [mT_eq] at h3
  obtain ⟨hr, _⟩ := (halts_iff (M := model pw w) (r := .ok .brk)).mp ⟨1200, h3⟩
  have key : ∃ r s₁, Runs (model pw w) (ctxB q) p U6 [] (S1 w os) (.ret r) s₁ ∧ (r = .ok .next ∧ s₁ = s') := by
    obtain ⟨r, s₁, h5, h6⟩ := runs_ret hr
    refine ⟨r, s₁, h5, ?_⟩
    have h8 := (Sem.wp_iff_runs (model pw w) (Ctx.goto { code := cB, handled := none, own := none, below := [], past := none } cCaller) (kB r) (fun r' s₂ => r' = .ok .brk ∧ s₂ = s') q s₁).mpr ⟨_, _, h6, rfl, rfl⟩
    clear h1 h3 hr h5 a1 a2 a3 a4 a5 a6 F h6
    cases r with
    | error e => exact h8.elim
    | ok f =>
      cases f with
      | next => exact ⟨rfl, h8.2⟩
      | _ => exact h8.elim
  have h7 := (Sem.wp_iff_runs (model pw w) (ctxB q) U6 (fun r s₁ => r = .ok .next ∧ s₁ = s') p (S1 w os)).mpr key
  unfold U6 at h7
  rw [Sem.wp_bind] at h7
  refine Sem.wp_mono _ _ _ (fun f p s h => ?_) (fun _ _ _ h => by cases h.1) _ _ h7
  obtain ⟨e1, rfl⟩ := h
  cases e1
  exact ⟨rfl, F⟩

theorem F6.at {w : World} {os : OsState} {s : Shared} (F : F6 w os s) (i : Nat) {a : Addr} {o : Option Obj} (ha : oAddrs[i]? = some a) (ho : (oVals w.params)[i]? = some o) : s.heap.get? a = o := by
  have h := congrArg (·[i]?) F.objs
  simp only [List.getElem?_map, ha, Option.map_some] at h
  rw [ho] at h
  exact Option.some.inj h
theorem small11 (b : Nat) (h : b < 11) (h2 : b ≠ 2) (h3 : b ≠ 3) : b = 0 ∨ b = 1 ∨ b = 4 ∨ b = 5 ∨ b = 6 ∨ b = 7 ∨ b = 8 ∨ b = 9 ∨ b = 10 := by
  have key : ∀ x : Fin 11, x.val ≠ 2 → x.val ≠ 3 → x.val = 0 ∨ x.val = 1 ∨ x.val = 4 ∨ x.val = 5 ∨ x.val = 6 ∨ x.val = 7 ∨ x.val = 8 ∨ x.val = 9 ∨ x.val = 10 := by decide
  exact key ⟨b, h⟩ h2 h3
theorem F6.keep {w : World} {os : OsState} {s : Shared} (F : F6 w os s) {b : Addr} {o : Obj} (hb : (boot_heap w.params).get? b = some o) (h2 : b ≠ 2) (h3 : b ≠ 3) : s.heap.get? b = some o := by
  have hl : b < 11 := Nat.lt_of_lt_of_le (Heap.lt_size hb) (Nat.le_of_eq (by rfl))
  have hm : b ∈ oldAddrs := by
    simp only [oldAddrs, List.mem_cons, List.not_mem_nil, or_false]
    exact small11 b hl h2 h3
  obtain ⟨i, hi⟩ := List.mem_iff_getElem?.mp hm
  have h := congrArg (·[i]?) F.olds
  simp only [List.getElem?_map, hi, Option.map_some] at h
  rw [Option.some.inj h]
  exact hb
end Mine
end Top3_part
section Top4_part
open PySem PySem.W PyProof.Rows
set_option Elab.async false
set_option maxRecDepth 100000
set_option maxHeartbeats 0
namespace Mine
structure FD where
  name : Str
  params : Arguments
  body : List Stmt
  scope : Scope
  pos : Pos
noncomputable def fd (k : Nat) : FD := match pw.main.body[k]? with
  | some (.FunctionDef n a b _ _ _ sc _ _ p) => ⟨n, a, b, sc, p⟩
  | _ => ⟨default, default, [], default, default⟩
noncomputable abbrev stD (k : Nat) : Stmt := .FunctionDef (fd k).name (fd k).params (fd k).body [] none [] (fd k).scope none (fd k).name (fd k).pos
noncomputable abbrev hashOf (w : World) (n : Str) : Int := if n.cps.isEmpty then 0 else reduceHash (w.params.strHash n.cps)

theorem putL_keys {name : Str} {hsh : Int} {tk : Tok} {v : Value} : ∀ {es : List DictEntry}, (∀ e ∈ es, ∃ n t, e.key = .str n t) → ∀ e ∈ putL name hsh (.str name tk) v es, ∃ n t, e.key = .str n t
  | [], _, e, he => by
    simp only [putL, List.mem_singleton] at he
    subst he
    exact ⟨_, _, rfl⟩
  | x :: r, h, e, he => by
    unfold putL at he
    split at he
    · rcases List.mem_cons.mp he with rfl | he
      · exact h x (.head _)
      · exact h e (.tail _ he)
    · rcases List.mem_cons.mp he with rfl | he
      · exact h _ (.head _)
      · exact putL_keys (fun y hy => h y (.tail _ hy)) e he

noncomputable def lookE (x : Str) (es : List DictEntry) : Option Value := (es.find? fun e => e.key.isStr x).map (·.val)
theorem lookE_putL {name x : Str} {hsh : Int} {tk : Tok} {v : Value} (hne : name ≠ x) : ∀ {es : List DictEntry}, (∀ e ∈ es, ∃ n t, e.key = .str n t) → lookE x (putL name hsh (.str name tk) v es) = lookE x es
  | [], _ => by
    have : (name == x) = false := by simpa using hne
    simp [putL, lookE, Value.isStr, this]
  | y :: r, h => by
    obtain ⟨n, t, hk⟩ := h y (.head _)
    have ih := lookE_putL (tk := tk) (hsh := hsh) (v := v) hne (fun z hz => h z (.tail _ hz))
    unfold putL
    unfold lookE at ih ⊢
    cases hn : y.key.isStr name with
    | true =>
      have e1 : n = name := by rw [hk] at hn; simpa [Value.isStr] using hn
      have e2 : y.key.isStr x = false := by rw [hk, e1]; simpa [Value.isStr] using hne
      simp [e2]
    | false =>
      simp only [Bool.false_eq_true, if_false, List.find?_cons]
      cases hx : y.key.isStr x with
      | true => rfl
      | false => exact ih

theorem ns_of_dict {h : Heap} {a : Addr} {es : List DictEntry} {n : Nat} (ho : h.get? a = some (dictOf es n)) (hk : ∀ e ∈ es, ∃ n t, e.key = .str n t) : h.Ns a (fun x => lookE x es) :=
  ⟨_, es.toArray, n, ho, rfl, (fun e he => hk e (by simpa using he)), fun x => by
    unfold nsFind findBy lookE
    rw [List.find?_toArray]⟩

section
variable {w : World} {A : Around} {E : Value → Shared → Prop} {s : Shared}
theorem nsSet_x {a : Addr} {es : List DictEntry} {n : Nat} {name : Str} {v : Value} {Q : Unit → Shared → Prop} (ho : s.heap.get? a = some (dictOf es n)) (hk : ∀ e ∈ es, ∃ n t, e.key = .str n t)
    (h : ∀ h', h'.get? a = some (dictOf (putL name (hashOf w name) (.str name s.toks) v es) (putN name es n)) → Heap.SameBut a s.heap h' → Q () { s with heap := h', toks := s.toks + 1 }) :
    wpAny (model pw w) A (nsSet a name v) Q E s := fun Γ p _ => by
  simp only [nsSet, strHash, Sem.wp_bind', Sem.wp_cmd_ask, Sem.wp_pure', Sem.wp_cmd_mkText]
  rw [Sem.wp_loadPart_of (model pw w) Γ _ p { s with toks := s.toks + 1 } (o := dictOf es n) _ ho]
  have hany : es.toArray.any (·.refKey) = false := by
    rw [Array.any_eq_false']
    intro e he
    obtain ⟨m, t, h⟩ := hk e (by simpa using he)
    simp [DictEntry.refKey, h]
  simp only [aRefKeyMayBeTheName_eq, aRefKeyMayBeTheNameByArray, hany, Bool.and_false, Bool.false_eq_true, if_false, Sem.wp_cmd_updatePart]
  refine ⟨by rw [ho]; rfl, h _ ?_ (Heap.SameBut.update ..)⟩
  rw [Heap.get?_update_self _ ho (by rw [putName_dict]; rfl), putName_dict]
  rfl
end

structure FnAt (h : Heap) (k : Nat) (a : Addr) : Prop where
  ex : ∃ pm c' doc dV vs P', h.get? a = some { cls := .type "function", data := .func (defFd (fd k).name (fd k).name (fd k).params (fd k).body (fd k).scope mainGlobals dV .none none pm (.ref c') doc) } ∧
    ConstVals (fd k).params.defaults vs ∧ h.DefaultsAt 13 vs dV ∧ h.CodeRec (.ref c') (fd k).name ∧ h.IsCode c' P' #[] ∧ h.TableAt c' P' #[] ∧ 12 < a ∧ 12 < c' ∧ 12 < P'
theorem ne_low {a b : Nat} (h : b < a) : a ≠ b := Nat.ne_of_gt h
theorem FnAt.keeps {h h' : Heap} {k : Nat} {a : Addr} (F : FnAt h k a) (hk : ∀ b o, b ≠ 3 → b ≠ 12 → h.get? b = some o → h'.get? b = some o) : FnAt h' k a := by
  obtain ⟨pm, c', doc, dV, vs, P', h1, h2, h3, h4, h5, h6, l1, l2, l3⟩ := F.ex
  have g (b : Addr) (o : Obj) (l : 12 < b) (e : h.get? b = some o) : h'.get? b = some o := hk b o (ne_low (Nat.lt_trans (by decide) l)) (ne_low l) e
  refine ⟨pm, c', doc, dV, vs, P', g _ _ l1 h1, h2, ?_, ?_, ?_, ?_, l1, l2, l3⟩
  · rcases h3 with h3 | ⟨a1, T, a2, a3, a4⟩
    · exact .inl h3
    · exact .inr ⟨a1, T, a2, a3, g _ _ (Nat.lt_of_succ_le a3) a4⟩
  · obtain ⟨c₂, o₂, vs₂, t₂, e₂, g₂, r₂⟩ := h4
    cases e₂
    exact ⟨_, o₂, vs₂, t₂, rfl, g _ _ l2 g₂, r₂⟩
  · obtain ⟨o, vs, file, tf, flags, tg, inF, text, tt, op, ho, hd, r1, r2, r3, r4, r5, hop, r⟩ := h5
    exact ⟨o, vs, file, tf, flags, tg, inF, text, tt, op, g _ _ l2 ho, hd, r1, r2, r3, r4, r5, g _ _ l3 hop, r⟩
  · obtain ⟨⟨o, vs, ho, r⟩, ht⟩ := h6
    exact ⟨⟨o, vs, g _ _ l2 ho, r⟩, g _ _ l3 ht⟩

/-- the state of the top behind some of its statements -/
structure TS (base : Heap) (os : OsState) (es : List DictEntry) (n : Nat) (l : List (Pos × Addr)) (ln : Nat) (fs : List (Nat × Addr)) (s : Shared) : Prop where
  dict : s.heap.get? 3 = some (dictOf es n)
  keys : ∀ e ∈ es, ∃ n t, e.key = .str n t
  bi : lookE "__builtins__" es = some (.ref 4)
  code : s.heap.IsCode 13 12 (triples l).toArray
  lines : ∀ q ∈ l, q.1.line < ln
  keep : ∀ b o, b ≠ 3 → b ≠ 12 → base.get? b = some o → s.heap.get? b = some o
  fns : ∀ x ∈ fs, FnAt s.heap x.1 x.2
  gens : s.gens = #[]
  os : s.os = os
  b14 : (base.get? 14).isSome = true
  mod4 : s.heap.get? 4 = some ⟨.type "module", some 0, .plain, #[]⟩

theorem TS.step {base : Heap} {os : OsState} {es es' : List DictEntry} {n n' : Nat} {l : List (Pos × Addr)} {ln : Nat} {fs : List (Nat × Addr)} {s s' : Shared} (T : TS base os es n l ln fs s)
    (hd : s'.heap.get? 3 = some (dictOf es' n')) (hk : ∀ e ∈ es', ∃ n t, e.key = .str n t) (hb : lookE "__builtins__" es' = some (.ref 4))
    (hs : ∀ b o, b ≠ 3 → s.heap.get? b = some o → s'.heap.get? b = some o) (hg : s'.gens = s.gens) (ho : s'.os = s.os) : TS base os es' n' l ln fs s' where
  dict := hd
  keys := hk
  bi := hb
  code := by
    obtain ⟨o, vs, file, tf, flags, tg, inF, text, tt, op, a, r1, r2, r3, r4, r5, r6, b, r⟩ := T.code
    exact ⟨o, vs, file, tf, flags, tg, inF, text, tt, op, hs _ _ (by decide) a, r1, r2, r3, r4, r5, r6, hs _ _ (by decide) b, r⟩
  lines := T.lines
  keep := fun b o h1 h2 e => hs b o h1 (T.keep b o h1 h2 e)
  fns := fun x hx => (T.fns x hx).keeps fun b o h1 _ e => hs b o h1 e
  gens := hg.trans T.gens
  os := ho.trans T.os
  b14 := T.b14
  mod4 := hs _ _ (by decide) T.mod4
theorem TS.big {base : Heap} {os : OsState} {es : List DictEntry} {n : Nat} {l : List (Pos × Addr)} {ln : Nat} {fs : List (Nat × Addr)} {s : Shared} (T : TS base os es n l ln fs s) : 14 < s.heap.objs.size := by
  obtain ⟨o, ho⟩ := Option.isSome_iff_exists.mp T.b14
  exact Heap.lt_size (T.keep 14 o (by decide) (by decide) ho)

section
variable {w : World} {E : Value → Shared → Prop} {s : Shared} {base : Heap} {os : OsState} {es : List DictEntry} {n : Nat} {l : List (Pos × Addr)} {ln : Nat} {fs : List (Nat × Addr)}

theorem TS.mg (T : TS base os es n l ln fs s) : s.heap.Ns mainGlobals (fun x => lookE x es) := ns_of_dict T.dict T.keys
theorem TS.bm (T : TS base os es n l ln fs s) : s.heap.BuiltinsAt (fun x => lookE x es) 12 := ⟨4, _, T.bi, by decide, by decide, by decide, T.mod4, rfl, rfl, rfl⟩

/-- a plain binding at the top -/
theorem store_top {x : Str} {v : Value} {Q : Unit → Shared → Prop} (T : TS base os es n l ln fs s) (hx : (envB.kindOf x = some .local)) (hb : x ≠ "__builtins__")
    (h : ∀ s', TS base os (putL x (hashOf w x) (.str x s.toks) v es) (putN x es n) l ln fs s' → (∀ b o, b ≠ 3 → s.heap.get? b = some o → s'.heap.get? b = some o) → Q () s') :
    wpAny (model pw w) Amax (storeName envB x v) Q E s := by
  have e : storeName envB x v = nsSet mainNs x v := storeName_local (env := envB) hx (by rfl) v
  rw [e]
  refine nsSet_x T.dict T.keys fun h' hd hs => h _ (T.step hd (putL_keys T.keys) ((lookE_putL hb T.keys).trans T.bi) (fun b o hb e => (hs.2 b hb).trans e) rfl rfl) fun b o hb e => (hs.2 b hb).trans e

theorem def_top (k : Nat) {Q : Flow → Shared → Prop} (T : TS base os es n l ln fs s)
    (ok : ((fd k).params.kwonlyargs.isEmpty && (fd k).params.kw_defaults.isEmpty && ((fd k).params.defaults.all Expr.isPlainConst) && ((fd k).scope.names.all fun x => x.2 != .free) && (envB.kindOf (fd k).name == some .local) && (fd k).name != "__builtins__" && (qualnameIn envB (fd k).name (fd k).name == (fd k).name)) = true)
    (hann : annTrees (fd k).params none envB = []) (hl : ln ≤ (fd k).pos.line)
    (h : ∀ a c' tk s', TS base os (putL (fd k).name (hashOf w (fd k).name) (.str (fd k).name tk) (.ref a) es) (putN (fd k).name es n) (l ++ [((fd k).pos, c')]) ((fd k).pos.line + 1) ((k, a) :: fs) s' → Q .next s') :
    wpAny (model pw w) Amax (exec (stD k) envB) Q E s := by
  simp only [Bool.and_eq_true, List.isEmpty_iff, List.all_eq_true, beq_iff_eq, bne_iff_ne, ne_eq] at ok
  obtain ⟨⟨⟨⟨⟨⟨h1, h2⟩, h3⟩, h4⟩, h5⟩, h6⟩, h7⟩ := ok
  rw [exec_def, h7, defaultsOf_eq, h2, hann]
  refine wpAny_bind (wpAny_standAt (wpAny_bind (wpAny_holding ?_)))
  refine wpAny_bind (wpAny_evalAll_consts _ _ _ h3 fun vs tk₁ hvs => ?_)
  refine wpAny_bind (wpAny_holding (wpAny_pure ?_))
  refine wpAny_holding ?_
  refine wpAny_bind (wpAny_pure ?_)
  have hnf : codeAmong (fd k).pos (triples l).toArray.toList = none := by
    rw [List.toList_toArray]
    exact codeAmong_triples _ _ fun q hq e => by have := T.lines q hq; (clear h1 h2 h5 hann; omega)
  refine wpAny_makeFunction_d0N (s := { s with toks := tk₁ }) (env := envB) (c := 13) (Pl := 12) (mg := fun x => lookE x es) h1 h4 T.mg rfl T.code hnf (by decide) T.bm
    fun dV c' doc h₂ tk₃ hdef hx hge hlt hok hrec htb => wpAny_bind (wpAny_standAt (wpAny_bind (wpAny_bindName ?_)))
  obtain ⟨P', hP, hi, ht⟩ := htb
  dsimp only at hge hx hdef hP ⊢
  have big := T.big
  generalize hO : ({ cls := Value.type "function", data := Data.func (defFd (fd k).name (fd k).name (fd k).params (fd k).body (fd k).scope envB.globals dV Value.none none ((lookE "__name__" es).getD Value.none) (.ref c') doc) } : Obj) = O
  have hfr : O.isFreed = false := by rw [← hO]; rfl
  have hsz : s.heap.objs.size ≤ h₂.objs.size := Nat.le_trans hge (Nat.le_of_lt hlt)
  have up (b : Addr) (o : Obj) (e : h₂.get? b = some o) : (h₂.push O).get? b = some o := Heap.get?_push_of_some _ e
  have T' : TS base os es n (l ++ [((fd k).pos, c')]) ((fd k).pos.line + 1) ((k, h₂.objs.size) :: fs) { s with heap := h₂.push O, toks := tk₃ } := by
    refine ⟨up _ _ (hx _ _ (by decide) T.dict), T.keys, T.bi, ?_, ?_, fun b o h3 h12 e => up _ _ (hx _ _ h12 (T.keep b o h3 h12 e)), ?_, T.gens, T.os, T.b14, up _ _ (hx _ _ (by decide) T.mod4)⟩
    · have := hok.push O
      rw [triples_append]
      simpa using this
    · intro q hq
      rcases List.mem_append.mp hq with hq | hq
      · exact Nat.lt_succ_of_lt (Nat.lt_of_lt_of_le (T.lines q hq) hl)
      · rw [List.mem_singleton.mp hq]; exact Nat.lt_succ_self _
    · intro x hm
      rcases List.mem_cons.mp hm with rfl | hm
      · refine ⟨_, c', doc, dV, vs, P', (Heap.get?_push_size _ hfr).trans (by rw [← hO]; rfl), hvs, ?_, hrec.push _, hi.push _, ht.push _, Nat.lt_of_lt_of_le (Nat.lt_trans (by decide) big) hsz, Nat.lt_of_lt_of_le (Nat.lt_trans (by decide) big) hge, Nat.lt_of_lt_of_le (Nat.lt_trans (by decide) big) hP⟩
        rcases hdef with hd | ⟨a1, T1, a2, a3, a4⟩
        · exact .inl hd
        · exact .inr ⟨a1, T1, a2, Nat.le_trans (Nat.le_of_lt (Nat.lt_trans (by decide) big)) a3, up _ _ a4⟩
      · exact (T.fns x hm).keeps fun b o h3 h12 e => up _ _ (hx b o h12 e)
  refine store_top T' h5 h6 fun s' T'' _ => wpAny_pure (h h₂.objs.size c' tk₃ s' T'')
end
end Mine
end Top4_part
section Bas_part
open PySem PySem.W PyProof.Rows
set_option Elab.async false
set_option maxRecDepth 100000
set_option maxHeartbeats 0
namespace Mine
/-- a part of a heap that nothing changes any more -/
noncomputable abbrev View := Addr → Option Obj
noncomputable def VLe (V W : View) : Prop := ∀ b o, V b = some o → W b = some o
theorem VLe.refl (V : View) : VLe V V := fun _ _ e => e
theorem VLe.trans {U V W : View} (a : VLe U V) (b : VLe V W) : VLe U W := fun x o e => b x o (a x o e)
/-- V grown to V' over a run from h to h': what is new in V' was not there in h -/
structure Ext (V : View) (h : Heap) (V' : View) (h' : Heap) : Prop where
  le : VLe V V'
  at' : VLe V' h'.get?
  new : ∀ b o, V' b = some o → V b = some o ∨ h.get? b = none
theorem Ext.refl {V : View} {h h' : Heap} (a : VLe V h'.get?) : Ext V h V h' := ⟨VLe.refl V, a, fun _ _ e => .inl e⟩
theorem Ext.trans {V V₁ V₂ : View} {h h₁ h₂ : Heap} (x : Ext V h V₁ h₁) (y : Ext V₁ h₁ V₂ h₂) (hk : ∀ b o, h.get? b = some o → (h₁.get? b).isSome = true) : Ext V h V₂ h₂ where
  le := x.le.trans y.le
  at' := y.at'
  new := fun b o e => by
    rcases y.new b o e with e | e
    · exact x.new b o e
    · refine .inr ?_
      cases q : h.get? b with
      | none => rfl
      | some o' => have := hk b o' q; rw [e] at this; cases this
theorem Ext.off {V V' : View} {h h' : Heap} (x : Ext V h V' h') {b : Addr} {o : Obj} (hb : h.get? b = some o) (hv : V b = none) : V' b = none := by
  cases q : V' b with
  | none => rfl
  | some o' =>
    rcases x.new b o' q with e | e
    · rw [hv] at e; cases e
    · rw [hb] at e; cases e
theorem keeps_of {s s' : Shared} (k : Keeps s s') : ∀ b o, s.heap.get? b = some o → s'.heap.get? b = some o := by
  obtain ⟨h', tk, rfl, hk⟩ := k
  exact hk
theorem keeps_refl (s : Shared) : Keeps s s := ⟨s.heap, s.toks, rfl, fun _ _ e => e⟩
theorem keeps_trans {s s₁ s₂ : Shared} (a : Keeps s s₁) (b : Keeps s₁ s₂) : Keeps s s₂ := by
  obtain ⟨h', tk, rfl, hk⟩ := a
  obtain ⟨h'', tk', rfl, hk'⟩ := b
  exact ⟨h'', tk', rfl, fun b o e => hk' b o (hk b o e)⟩

section
variable {prog : Program} {w : World} {A : Around} {E : Value → Shared → Prop} {Rr : Result → Shared → Prop} {s : Shared}

theorem comp_loopV {elt iter : Expr} {x : Str} {px : Pos} {scope : Scope} {pos : Pos} {I D : Addr} {fp wr : List Addr} {n : Nat} {P : Nat → Value → Prop} {St : Nat → Heap → Prop}
    {cenv : Env} {m : Str → Option Value} {V₀ : View} {R : Nat → View → Value → Prop} (W : Walks prog w A I fp wr n P St) (hmono : ∀ i V V' y, VLe V V' → R i V y → R i V' y)
    (hlive : ∀ i h, St i h → ∀ b ∈ wr, ∃ o, h.get? b = some o)
    (hx : cenv.kindOf x = some .local) (hp : (cenv.scope.kind == .class || (cenv.scope.kind == .module && cenv.locals != cenv.globals)) = false)
    (hDC : D ≠ cenv.locals) (hDf : D ∉ fp) (hCf : cenv.locals ∉ fp)
    (hst : St 0 s.heap) (hacc : s.heap.PlainList D #[]) (hn : s.heap.Ns cenv.locals m)
    (hV : VLe V₀ s.heap.get?) (hoff : ∀ b, b = cenv.locals ∨ b = D ∨ b ∈ wr → V₀ b = none)
    (helt : ∀ i v s₂ m₂ V, i < n → P i v → s₂.heap.Ns cenv.locals m₂ → m₂ x = some v → VLe V₀ V → VLe V s₂.heap.get? → (∀ b, b = cenv.locals ∨ b = D ∨ b ∈ wr → V b = none) →
      wpAny (model prog w) A (eval elt cenv) (fun y s₃ => Keeps s₂ s₃ ∧ ∃ V', Ext V s₂.heap V' s₃.heap ∧ R i V' y) (fun _ _ => False) s₂)
    (hR : ∀ h' tk m' ys V', h'.Ns cenv.locals m' → h'.PlainList D ys → ys.size = n → (∀ i y, ys[i]? = some y → R i V' y) → Ext V₀ s.heap V' h' → (∀ b, b = cenv.locals ∨ b = D ∨ b ∈ wr → V' b = none) →
      (∀ b o, b ≠ cenv.locals → b ≠ D → b ∉ wr → s.heap.get? b = some o → h'.get? b = some o) → Rr (.ok .next) { s with heap := h', toks := tk })
    (hsz : n ≤ sizeLine := by size_fits) :
    codeAny (model prog w) A (.compLoop (.ListComp elt [⟨.Name x px, iter, [], 0⟩] scope pos) 0 (.ref I) (.ref D) cenv) Rr s := by
  have hCw : cenv.locals ∉ wr := fun h => hCf (W.sub _ h)
  have hDw : D ∉ wr := fun h => hDf (W.sub _ h)
  refine codeAny_compLoop_list
    (fun k s' => ∃ h' tk m' ys V, s' = { s with heap := h', toks := tk } ∧ St ys.size h' ∧ h'.PlainList D ys ∧ h'.Ns cenv.locals m' ∧ (∀ i y, ys[i]? = some y → R i V y) ∧ Ext V₀ s.heap V h' ∧
      (∀ b, b = cenv.locals ∨ b = D ∨ b ∈ wr → V b = none) ∧ (∀ b o, s.heap.get? b = some o → (h'.get? b).isSome = true) ∧
      ys.size ≤ n ∧ k = n + 1 - ys.size ∧ (∀ b o, b ≠ cenv.locals → b ≠ D → b ∉ wr → s.heap.get? b = some o → h'.get? b = some o)) ?_ (n + 1)
    ⟨s.heap, s.toks, m, #[], V₀, rfl, hst, hacc, hn, (fun i y h => by simp at h), Ext.refl hV, hoff, (fun b o e => by rw [e]; rfl), Nat.zero_le _, rfl, fun _ _ _ _ _ e => e⟩
  rintro k s' ⟨H, tk, m', ys, V, rfl, hst', hacc', hn', hF, hE, hVo, hsome, hi, rfl, hk⟩
  by_cases hlt : ys.size < n
  · refine W.item ys.size _ _ _ hlt hst' fun v h₁ tk₁ hPv hst₁ hk₁ => ?_
    dsimp only
    refine wpAny_assign_Name (wpAny_storeName_local hx (hn'.at' fun o e => hk₁ _ o hCw e) (fun h₂ hn₂ hs₂ => ?_) hp)
    have up₂ : ∀ b o, b ≠ cenv.locals → b ∉ wr → H.get? b = some o → h₂.get? b = some o := fun b o hbC hbf e => hs₂.extBut b o hbC (hk₁ b o hbf e)
    have hst₂ : St (ys.size + 1) h₂ := W.frame _ _ _ hst₁ fun b hb o e => hs₂.extBut b o (fun h => hCf (h ▸ hb)) e
    have hV₂ : VLe V h₂.get? := fun b o e => up₂ b o (fun h => by rw [hVo b (.inl h)] at e; cases e) (fun h => by rw [hVo b (.inr (.inr h))] at e; cases e) (hE.at' b o e)
    have hsome₂ : ∀ b o, s.heap.get? b = some o → (h₂.get? b).isSome = true := fun b o e => by
      by_cases hbC : b = cenv.locals
      · subst hbC; obtain ⟨o', _, _, ho', _⟩ := hn₂; rw [ho']; rfl
      · by_cases hbw : b ∈ wr
        · obtain ⟨o', ho'⟩ := hlive _ _ hst₂ b hbw; rw [ho']; rfl
        · obtain ⟨o', ho'⟩ := Option.isSome_iff_exists.mp (hsome b o e)
          rw [up₂ b o' hbC hbw ho']; rfl
    refine wpAny_mono (helt ys.size v _ _ V hlt hPv hn₂ (by simp) hE.le hV₂ hVo) (fun y s₃ h₃ => ?_) fun _ _ h => h.elim
    obtain ⟨⟨h₃, tk₃, rfl, hk₃⟩, V', hE', hRy⟩ := h₃
    dsimp only at hk₃ hE' ⊢
    have hacc₃ : h₃.PlainList D ys := hacc'.at fun o e => hk₃ _ o (up₂ D o hDC hDw e)
    refine wpAny_list_append_plain hacc₃ (fun h₅ hl₅ hs₅ => ?_) (hsz := by (clear hDC hi hp hx; omega))
    dsimp only
    have hVo' : ∀ b, b = cenv.locals ∨ b = D ∨ b ∈ wr → V' b = none := by
      rintro b hb
      have hv := hVo b hb
      rcases hb with rfl | rfl | hb
      · obtain ⟨o', _, _, ho', _⟩ := hn₂
        exact hE'.off ho' hv
      · obtain ⟨nn, ho'⟩ := hacc'
        exact hE'.off (up₂ _ _ hDC hDw ho') hv
      · obtain ⟨o', ho'⟩ := hlive _ _ hst₂ b hb
        exact hE'.off ho' hv
    have hV₅ : VLe V' h₅.get? := fun b o e => hs₅.extBut b o (fun h => by rw [hVo' b (.inr (.inl h))] at e; cases e) (hE'.at' b o e)
    refine ⟨n + 1 - (ys.push y).size, by rw [Array.size_push]; (clear hDC hi hp hsz hx; omega), h₅, tk₃, _, ys.push y, V', rfl, ?_, hl₅, (hn₂.keeps hk₃).sameBut hs₅ (Ne.symm hDC), ?_, ?_, hVo', ?_, by rw [Array.size_push]; (clear hDC hi hp hsz hx; omega), rfl, ?_⟩
    · rw [Array.size_push]
      exact W.frame _ _ _ hst₂ fun b hb o e => hs₅.extBut b o (fun h => hDf (h ▸ hb)) (hk₃ b o e)
    · intro i z hz
      rw [Array.getElem?_push] at hz
      split at hz
      · rename_i hi'; cases hz; rw [hi']; exact hRy
      · exact hmono i V V' z hE'.le (hF i z hz)
    · exact ⟨hE.le.trans hE'.le, hV₅, fun b o e => by
        rcases hE'.new b o e with e' | e'
        · exact hE.new b o e'
        · refine .inr ?_
          cases q : s.heap.get? b with
          | none => rfl
          | some o' => have := hsome₂ b o' q; rw [e'] at this; cases this⟩
    · intro b o e
      obtain ⟨o', ho'⟩ := Option.isSome_iff_exists.mp (hsome₂ b o e)
      by_cases hbD : b = D
      · subst hbD; obtain ⟨nn, hl⟩ := hl₅; rw [hl]; rfl
      · rw [hs₅.extBut b o' hbD (hk₃ b o' ho')]; rfl
    · exact fun b o hbC hbD hbw e => hs₅.extBut b o hbD (hk₃ b o (up₂ b o hbC hbw (hk b o hbC hbD hbw e)))
  · have hz : ys.size = n := Nat.le_antisymm hi (Nat.le_of_not_lt hlt)
    refine W.done _ _ _ (hz ▸ hst') fun h₁ tk₁ hk₁ => ?_
    dsimp only
    have hV₁ : VLe V h₁.get? := fun b o e => hk₁ b o (fun h => by rw [hVo b (.inr (.inr h))] at e; cases e) (hE.at' b o e)
    exact hR h₁ tk₁ m' ys V (hn'.at' fun o e => hk₁ _ o hCw e) (hacc'.at fun o e => hk₁ _ o hDw e) hz hF ⟨hE.le, hV₁, hE.new⟩ hVo fun b o hbC hbD hbw e => hk₁ b o hbw (hk b o hbC hbD hbw e)

/-- behind the source's iterator: the list made, frozen -/
theorem comp_blockV {elt iter : Expr} {x : Str} {px : Pos} {scope : Scope} {pos : Pos} {env : Env} {I : Addr} {fp wr : List Addr} {n : Nat} {P : Nat → Value → Prop} {St : Nat → Heap → Prop}
    {V₀ : View} {R : Nat → View → Value → Prop} {RR : Value → Env → Result → Shared → Prop} (W : Walks prog w A I fp wr n P St) (hmono : ∀ i V V' y, VLe V V' → R i V y → R i V' y)
    (hlive : ∀ i h, St i h → ∀ b ∈ wr, ∃ o, h.get? b = some o) (hfp : ∀ b ∈ fp, ∃ o, s.heap.get? b = some o)
    (hcell : ∀ y ∈ scope.names, y.2 ≠ .cell) (hkind : scope.kind = .function) (hx : scope.names.lookup x = some .local)
    (hst : St 0 s.heap) (hV : VLe V₀ s.heap.get?) (hoff : ∀ b ∈ wr, V₀ b = none)
    (helt : ∀ C i v s₂ m₂ V, i < n → P i v → s₂.heap.Ns C m₂ → m₂ x = some v → VLe V₀ V → VLe V s₂.heap.get? → V C = none →
      wpAny (model prog w) A (eval elt (compEnv scope C env)) (fun y s₃ => Keeps s₂ s₃ ∧ ∃ V', Ext V s₂.heap V' s₃.heap ∧ R i V' y) (fun _ _ => False) s₂)
    (hRR : ∀ D C h' tk m' V' ys ep, s.heap.get? D = none → s.heap.get? C = none → D ≠ C → h'.Ns C m' → (∀ b o, b ∉ wr → s.heap.get? b = some o → h'.get? b = some o) →
      Ext V₀ s.heap V' h' → V' C = none → V' D = some { cls := .type "list", data := .seq ys ep } → ys.size = n → (∀ i y, ys[i]? = some y → R i V' y) → RR (.ref D) (compEnv scope C env) (.ok .next) { s with heap := h', toks := tk })
    (hsz : n ≤ sizeLine := by size_fits) :
    wpAny (model prog w) A (newList []) (fun acc s₃ => wpAny (model prog w) A (newFunctionEnv scope env.globals [] [] env.qual none .none (some env)) (fun cenv s₄ =>
      codeAny (model prog w) A (.compStart (.ListComp elt [⟨.Name x px, iter, [], 0⟩] scope pos) 0 (.ref I) acc { cenv with scope := scope }) (RR acc { cenv with scope := scope }) s₄) E s₃) E s := by
  refine wpAny_newObj_type (hd := by size_fits) (wpAny_newFunctionEnv hcell (by intro y hy; simp at hy) (fun h₁ hns₁ hsb₁ => ?_) hkind)
  dsimp only at hns₁ hsb₁ ⊢
  generalize hH2 : s.heap.push { cls := .type "list", dict := none, data := .seq ([] : List Value).toArray } = H2 at hns₁ hsb₁ ⊢
  have hC : H2.objs.size = s.heap.objs.size + 1 := by rw [← hH2, Heap.size_push]
  have hDC : s.heap.objs.size ≠ H2.objs.size := by rw [hC]; exact Nat.ne_of_lt (Nat.lt_succ_self _)
  have below : ∀ b, b < s.heap.objs.size → b ≠ H2.objs.size ∧ b ≠ s.heap.objs.size := fun b hb => ⟨by rw [hC]; exact Nat.ne_of_lt (Nat.lt_succ_of_lt hb), Nat.ne_of_lt hb⟩
  have old : ∀ b o, s.heap.get? b = some o → h₁.get? b = some o := fun b o e =>
    hsb₁.extBut b o (below b (Heap.lt_size e)).1 (Heap.get?_push_of_some _ (hH2 ▸ Heap.get?_push_of_some _ e))
  have hacc : h₁.PlainList s.heap.objs.size #[] := ⟨0, hsb₁.extBut _ _ hDC (Heap.get?_push_of_some _ (hH2 ▸ Heap.get?_push_size _ rfl))⟩
  have hnew : ∀ b, s.heap.objs.size ≤ b → s.heap.get? b = none := fun b hb => by
    cases e : s.heap.get? b with
    | none => rfl
    | some o' => exact absurd (Heap.lt_size e) (Nat.not_lt.mpr hb)
  have hV₁ : VLe V₀ h₁.get? := fun b o e => old b o (hV b o e)
  have voff : ∀ b, s.heap.objs.size ≤ b → V₀ b = none := fun b hb => by
    cases e : V₀ b with
    | none => rfl
    | some o' => have := hV b o' e; rw [hnew b hb] at this; cases this
  have fpoff : ∀ b, s.heap.objs.size ≤ b → b ∉ fp := fun b hb h => by
    obtain ⟨o, ho⟩ := hfp b h
    rw [hnew b hb] at ho; cases ho
  have hst₁ : St 0 h₁ := W.frame _ _ _ hst fun b _ o e => old b o e
  have hCn : s.heap.get? H2.objs.size = none := hnew _ (by rw [hC]; exact Nat.le_succ _)
  have loop : ∀ s₂ : Shared, s₂ = { s with heap := h₁, toks := s.toks + ([] : List (Str × Value)).length } →
      codeAny (model prog w) A (.compLoop (.ListComp elt [⟨.Name x px, iter, [], 0⟩] scope pos) 0 (.ref I) (.ref s.heap.objs.size) (compEnv scope H2.objs.size env))
        (RR (.ref s.heap.objs.size) (compEnv scope H2.objs.size env)) s₂ := by
    rintro s₂ rfl
    refine comp_loopV (hsz := hsz) (cenv := compEnv scope H2.objs.size env) (V₀ := V₀) (R := R) W hmono hlive hx (by simp [compEnv, hkind]) hDC (fpoff _ (Nat.le_refl _)) (fpoff _ (by rw [hC]; exact Nat.le_succ _)) hst₁ hacc hns₁ hV₁ ?_
      (fun i v s₂ m₂ V hi hP hn hm hV0 hVs ho => helt _ i v s₂ m₂ V hi hP hn hm hV0 hVs (ho _ (.inl rfl))) fun h' tk m' ys V' hn hl hz hF hE hVo hk => ?_
    · rintro b (rfl | rfl | hb)
      · exact voff _ (by show s.heap.objs.size ≤ H2.objs.size; rw [hC]; exact Nat.le_succ _)
      · exact voff _ (Nat.le_refl _)
      · exact hoff b hb
    · obtain ⟨ep, hl⟩ := hl
      have hCo : V' H2.objs.size = none := hVo _ (.inl rfl)
      refine hRR s.heap.objs.size _ h' tk m' (fun b => if b = s.heap.objs.size then some { cls := .type "list", data := .seq ys ep } else V' b) ys ep (hnew _ (Nat.le_refl _)) hCn hDC hn (fun b o hb e => ?_) ⟨fun b o e => ?_, fun b o e => ?_, fun b o e => ?_⟩ ?_ (if_pos rfl) hz (fun i y hy => ?_)
      · have hl := below b (Heap.lt_size e)
        exact hk b o hl.1 hl.2 hb (old b o e)
      · (try dsimp only)
        rw [if_neg (fun h => by rw [h, voff _ (Nat.le_refl _)] at e; cases e)]
        exact hE.le b o e
      · (try dsimp only at e)
        split at e
        · rename_i hb; cases e; rw [hb]; exact hl
        · exact hE.at' b o e
      · (try dsimp only at e)
        split at e
        · rename_i hb; rw [hb]; exact .inr (hnew _ (Nat.le_refl _))
        · rcases hE.new b o e with e' | e'
          · exact .inl e'
          · refine .inr ?_
            cases q : s.heap.get? b with
            | none => rfl
            | some o' => have := old b o' q; rw [e'] at this; cases this
      · rw [if_neg hDC.symm]
        exact hCo
      · refine hmono i V' _ y (fun b o e => ?_) (hF i y hy)
        (try dsimp only)
        rw [if_neg (fun h => by rw [h, hVo _ (.inr (.inl rfl))] at e; cases e)]
        exact e
  exact codeAny_compStart_list (loop _ rfl) (W.self 0 _ _ _ hst₁ (loop _ rfl))
theorem comp_restV {elt iter : Expr} {x : Str} {px : Pos} {scope : Scope} {pos : Pos} {env : Env} {I : Addr} {fp wr : List Addr} {n : Nat} {P : Nat → Value → Prop} {St : Nat → Heap → Prop}
    {V₀ : View} {R : Nat → View → Value → Prop} {Q : Value → Shared → Prop} (W : Walks prog w A I fp wr n P St) (hmono : ∀ i V V' y, VLe V V' → R i V y → R i V' y)
    (hlive : ∀ i h, St i h → ∀ b ∈ wr, ∃ o, h.get? b = some o) (hfp : ∀ b ∈ fp, ∃ o, s.heap.get? b = some o)
    (hcell : ∀ y ∈ scope.names, y.2 ≠ .cell) (hkind : scope.kind = .function) (hx : scope.names.lookup x = some .local)
    (hst : St 0 s.heap) (hV : VLe V₀ s.heap.get?) (hoff : ∀ b ∈ wr, V₀ b = none)
    (helt : ∀ C i v s₂ m₂ V, i < n → P i v → s₂.heap.Ns C m₂ → m₂ x = some v → VLe V₀ V → VLe V s₂.heap.get? → V C = none →
      wpAny (model prog w) A (eval elt (compEnv scope C env)) (fun y s₃ => Keeps s₂ s₃ ∧ ∃ V', Ext V s₂.heap V' s₃.heap ∧ R i V' y) (fun _ _ => False) s₂)
    (hQ : ∀ D s' V' ys ep, (∃ h' tk, s' = { s with heap := h', toks := tk }) → (∀ b o, b ∉ wr → s.heap.get? b = some o → s'.heap.get? b = some o) → s.heap.get? D = none →
      Ext V₀ s.heap V' s'.heap → V' D = some { cls := .type "list", data := .seq ys ep } → ys.size = n → (∀ i y, ys[i]? = some y → R i V' y) → Q (.ref D) s')
    (hsz : n ≤ sizeLine := by size_fits) :
    wpAny (model prog w) A (newList []) (fun acc s₃ => wpAny (model prog w) A (newFunctionEnv scope env.globals [] [] env.qual none .none (some env)) (fun cenv s₄ =>
      codeAny (model prog w) A (.compStart (.ListComp elt [⟨.Name x px, iter, [], 0⟩] scope pos) 0 (.ref I) acc { cenv with scope := scope })
        (fun r s' => ∃ m, s'.heap.Ns cenv.locals m ∧ ∀ h', Heap.SameBut cenv.locals s'.heap h' →
          match r with | .ok _ => Q acc { s' with heap := h' } | .error x => wpAny (model prog w) A (passOn "comprehension.variables-let-go" x { cenv with scope := scope }) Q E { s' with heap := h' }) s₄) E s₃) E s := by
  refine comp_blockV (RR := fun acc cenv r s' => ∃ m, s'.heap.Ns cenv.locals m ∧ ∀ h', Heap.SameBut cenv.locals s'.heap h' →
          match r with | .ok _ => Q acc { s' with heap := h' } | .error x => wpAny (model prog w) A (passOn "comprehension.variables-let-go" x cenv) Q E { s' with heap := h' }) W hmono hlive hfp hcell hkind hx hst hV hoff helt ?_ hsz
  intro D C h' tk m' V' ys ep hD hC hDC hn hk hE hVC hVD hz hR
  refine ⟨m', hn, fun h'' hs'' => ?_⟩
  dsimp only at hs'' ⊢
  have up : ∀ b o, V' b = some o → h''.get? b = some o := fun b o e => hs''.extBut b o (fun h => by rw [h, show V' (compEnv scope C env).locals = none from hVC] at e; cases e) (hE.at' b o e)
  refine hQ D _ V' ys ep ⟨_, _, rfl⟩ (fun b o hb e => hs''.extBut b o (fun h => ?_) (hk b o hb e)) hD ⟨hE.le, up, hE.new⟩ hVD hz hR
  rw [h, show s.heap.get? (compEnv scope C env).locals = none from hC] at e
  cases e
end
end Mine
end Bas_part
section Leaf1_part
open PySem PySem.W PySem.W.X PySem.Calls PyProof.Rows
set_option Elab.async false
set_option maxRecDepth 100000
set_option maxHeartbeats 0
namespace Mine
theorem keeps_mem {s h' : Heap} {g : Array GenState} {d : Drawn} {t t' : Nat} {os : OsState} {news : List (Addr × Obj)} (D : Mem s h' [] news) : Keeps ⟨s, g, d, t, os⟩ ⟨h', g, d, t', os⟩ :=
  ⟨h', t', rfl, fun b o e => D.old b o e (by simp [away])⟩
section
variable {prog : Program} {w : World} {h : Heap} {g : Array GenState} {d : Drawn} {t : Nat} {os : OsState}
theorem bytes_one {l : Addr} {i : Int} {tk : Tok} {ep : Nat} (hl : h.get? l = some ⟨.type "list", none, .seq #[.int i tk] ep, #[]⟩) (h0 : 0 ≤ i) (h1 : i < 256) :
    wpAny (model prog w) Amax (call (.type "bytes") [.ref l]) (fun v s' => Keeps ⟨h, g, d, t, os⟩ s' ∧ ∃ tk', v = .bytes #[i.toNat.toUInt8] tk') (fun _ _ => False) ⟨h, g, d, t, os⟩ :=
  call_bytes_ints (s := ⟨h, g, d, t, os⟩) (vs := [.int i tk]) (ns := [i]) ⟨_, hl, rfl, ep, rfl⟩ (.cons _ _ .nil) (fun n hn => by rw [List.mem_singleton.mp hn]; exact ⟨h0, h1⟩) (by show 1 ≤ sizeLine; decide) rfl fun _ t _ hk => ⟨⟨_, _, rfl, hk⟩, t, rfl⟩
end
end Mine
end Leaf1_part
local macro_rules | `(tactic| x_close) => `(tactic| first | exact ⟨Mine.keeps_mem (by assumption), rfl⟩ | exact ⟨⟨_, _, rfl, fun _ _ e => e⟩, rfl⟩ | exact ⟨Mine.keeps_mem (by assumption), _, rfl⟩ | exact ⟨⟨_, _, rfl, fun _ _ e => e⟩, _, rfl⟩ | exact ⟨Mine.keeps_mem (by assumption), _, rfl, PySem.W.X.Mem.at (by assumption) 0 _ _ rfl⟩)
section Top5_part
open PySem PySem.W PySem.Calls PyProof.Rows
set_option Elab.async false
set_option maxRecDepth 100000
set_option maxHeartbeats 0
namespace Mine
noncomputable def dEnts : Data → List DictEntry
  | .dict es _ => es.toList
  | _ => []
noncomputable def dNum : Data → Nat
  | .dict _ n => n
  | _ => 0
noncomputable def bltE (P : Params) : List DictEntry := dEnts (boot_o_0 P).data
noncomputable def bltN (P : Params) : Nat := dNum (boot_o_0 P).data
noncomputable def isStrE (e : DictEntry) : Bool := match e.key with
  | .str _ _ => true
  | _ => false
theorem isStrE_all {es : List DictEntry} (h : es.all isStrE = true) : ∀ e ∈ es, ∃ n t, e.key = .str n t := fun e he => by
  have := List.all_eq_true.mp h e he
  unfold isStrE at this
  split at this
  · exact ⟨_, _, by assumption⟩
  · cases this
theorem blt_at (P : Params) : (boot_heap P).get? 0 = some (dictOf (bltE P) (bltN P)) := by kernel_rfl
theorem blt_keys (P : Params) : ∀ e ∈ bltE P, ∃ n t, e.key = .str n t := isStrE_all (by kernel_rfl)
theorem blt_tuple (P : Params) : lookE "tuple" (bltE P) = some (.type "tuple") := by kernel_rfl
theorem blt_bytes (P : Params) : lookE "bytes" (bltE P) = some (.type "bytes") := by kernel_rfl
theorem blt_range (P : Params) : lookE "range" (bltE P) = some (.type "range") := by kernel_rfl
noncomputable def es6 (P : Params) : List DictEntry := dEnts (o3 P).data
noncomputable def n6 (P : Params) : Nat := dNum (o3 P).data
noncomputable def l6 : List (Pos × Addr) := [(⟨2, 0, 0, 0⟩, 20), (⟨4, 0, 0, 0⟩, 34), (⟨9, 0, 0, 0⟩, 55), (⟨14, 0, 0, 0⟩, 76)]
theorem ts6 {w : World} {os : OsState} {s : Shared} (F : F6 w os s) : TS s.heap os (es6 w.params) (n6 w.params) l6 20 [] s where
  dict := F.at 1 rfl rfl
  keys := isStrE_all (by kernel_rfl)
  bi := by kernel_rfl
  code := ⟨_, _, _, _, _, _, _, _, _, _, F.at 3 rfl rfl, rfl, rfl, rfl, rfl, rfl, rfl, F.at 2 rfl rfl, rfl, True.intro, by decide⟩
  lines := by decide
  keep := fun _ _ _ _ e => e
  fns := by intro x hx; cases hx
  gens := F.gens
  os := F.os
  b14 := by rw [F.at 4 rfl rfl]; rfl
  mod4 := F.keep (by kernel_rfl) (by decide) (by decide)
structure AD where
  name : Str
  np : Pos
  val : Expr
  pos : Pos
noncomputable def ad (k : Nat) : AD := match pw.main.body[k]? with
  | some (.Assign [.Name x p] v q) => ⟨x, p, v, q⟩
  | _ => ⟨default, default, default, default⟩
noncomputable abbrev stA (k : Nat) : Stmt := .Assign [.Name (ad k).name (ad k).np] (ad k).val (ad k).pos
theorem rest_eq : pw.main.body = pw.main.body.take 6 ++ [stA 6, stD 7, stD 8, stD 9, stA 10, stD 11, stD 12, stA 13, stD 14, stA 15, stD 16, stD 17, stD 18, stD 19, stA 20, stD 21, stD 22, stD 23, stA 24, stD 25, stD 26, stD 27, stD 28, stD 29, stD 30, stD 31] := by kernel_rfl
section
variable {w : World} {E : Value → Shared → Prop} {s : Shared} {base : Heap} {os : OsState} {es : List DictEntry} {n : Nat} {l : List (Pos × Addr)} {ln : Nat} {fs : List (Nat × Addr)}
theorem TS.toks (T : TS base os es n l ln fs s) (tk : Nat) : TS base os es n l ln fs { s with toks := tk } := ⟨T.dict, T.keys, T.bi, T.code, T.lines, T.keep, T.fns, T.gens, T.os, T.b14, T.mod4⟩
theorem asg_top (k : Nat) {Q : Flow → Shared → Prop} (T : TS base os es n l ln fs s)
    (h1 : envB.kindOf (ad k).name = some .local) (h2 : (ad k).name ≠ "__builtins__") (h3 : swapsWith (ad k).val (some (.Name (ad k).name (ad k).np)) (ad k).pos.line envB = pure false)
    {V : Value → Prop} (hv : ∀ s₁ : Shared, ∀ Q' : Value → Shared → Prop, TS base os es n l ln fs s₁ → (∀ v s₂, V v → TS base os es n l ln fs s₂ → Q' v s₂) → wpAny (model pw w) Amax (eval (ad k).val envB) Q' E s₁)
    (h : ∀ v tk s', V v → TS base os (putL (ad k).name (hashOf w (ad k).name) (.str (ad k).name tk) v es) (putN (ad k).name es n) l ln fs s' → Q .next s') :
    wpAny (model pw w) Amax (exec (stA k) envB) Q E s := by
  refine wpAny_Assign_Name (hv s _ T fun v s₂ hV T₂ => store_top T₂ h1 h2 fun s' T' _ => h v _ s' hV T') h3
end
end Mine
end Top5_part
section Top6_part
open PySem PySem.W PySem.Calls PyProof.Rows
set_option Elab.async false
set_option maxRecDepth 100000
set_option maxHeartbeats 0
namespace Mine
section
variable {w : World} {E : Value → Shared → Prop} {s : Shared} {base : Heap} {os : OsState} {es : List DictEntry} {n : Nat} {l : List (Pos × Addr)} {ln : Nat} {fs : List (Nat × Addr)}
theorem TS.grow (T : TS base os es n l ln fs s) {s' : Shared} (k : Keeps s s') : TS base os es n l ln fs s' := by
  obtain ⟨h', tk, rfl, hk⟩ := k
  exact T.step (hk _ _ T.dict) T.keys T.bi (fun b o _ e => hk b o e) rfl rfl
theorem keeps_push {s : Shared} (o : Obj) : Keeps s { s with heap := s.heap.push o } := ⟨_, s.toks, rfl, fun _ _ e => Heap.get?_push_of_some _ e⟩
theorem amax_of {prog : Program} {Q : Value → Shared → Prop} {t : Sem Value} (h : wpAny (model prog w) Amax t Q E s) : wpAny (model prog w) Amax t Q E s := h
/-- ALL_BYTES holds a tuple of the 256 one-byte strings -/
noncomputable def IsByteTab (V : View) (a : Addr) : Prop := ∃ vs ep, V a = some ⟨.type "tuple", none, .seq vs ep, #[]⟩ ∧ vs.size = 256 ∧ ∀ (i : Nat) v, vs[i]? = some v → ∃ tk, v = Value.bytes #[i.toUInt8] tk
theorem pow_top {V : Value → Shared → Prop} (T : TS base os es n l ln fs s) (h : ∀ tk s', TS base os es n l ln fs s' → V (.int (256 ^ 8) tk) s') : wpAny (model pw w) Amax (eval (ad 13).val envB) V E s := by
  refine wpAny_BinOp (wpAny_Constant_int (wpAny_Constant_int ?_))
  refine pow_int_small (by decide) (by decide) (by decide) ?_
  exact h _ _ (T.toks _)
theorem add_top {V : Value → Shared → Prop} (T : TS base os es n l ln fs s) (h : ∀ tk s', TS base os es n l ln fs s' → V (.int 184 tk) s') : wpAny (model pw w) Amax (eval (ad 15).val envB) V E s := by
  refine wpAny_BinOp (wpAny_Constant_int (wpAny_Constant_int ?_))
  refine add_int ?_
  exact h _ _ (T.toks _)
theorem name_blt {x : Str} {p : Pos} {v : Value} {Q : Value → Shared → Prop} (T : TS base os es n l ln fs s) (hb : base.get? 0 = some (dictOf (bltE w.params) (bltN w.params))) (h1 : lookE x es = none) (h2 : lookE x (bltE w.params) = some v)
    (hd : (x == ("__debug__" : Str)) = false) (h : Q v s) : wpAny (model pw w) Amax (eval (.Name x p) envB) Q E s :=
  Name_module rfl rfl (loadGlobal_builtin T.mg h1 (ns_of_dict (T.keep 0 _ (by decide) (by decide) hb) (blt_keys _)) h2 h) hd
noncomputable def compArg : Expr := match (ad 6).val with
  | .Call _ (a :: _) _ _ => a
  | _ => default
noncomputable def compParts : Expr × Str × Pos × Expr × Scope × Pos := match compArg with
  | .ListComp e [⟨.Name x px, it, [], 0⟩] sc p => (e, x, px, it, sc, p)
  | _ => default
theorem compArg_eq : compArg = .ListComp compParts.1 [⟨.Name compParts.2.1 compParts.2.2.1, compParts.2.2.2.1, [], 0⟩] compParts.2.2.2.2.1 compParts.2.2.2.2.2 := by kernel_rfl
theorem comp_top {Q : Value → Shared → Prop} (T : TS base os es n l ln fs s) (hb : base.get? 0 = some (dictOf (bltE w.params) (bltN w.params)))
    (h1 : lookE "range" es = none) (h2 : lookE "bytes" es = none)
    (h : ∀ D s' vs ep, TS base os es n l ln fs s' → s'.heap.get? D = some { cls := .type "list", data := .seq vs ep } → vs.size = 256 → (∀ (i : Nat) v, vs[i]? = some v → ∃ tk, v = Value.bytes #[i.toUInt8] tk) → Q (.ref D) s') :
    wpAny (model pw w) Amax (eval compArg envB) Q E s := by
  rw [compArg_eq]
  refine wpAny_ListComp (by decide) rfl (by decide) ?_ (by intro _; rfl)
  refine Call_Name1 (name_blt T hb h1 (blt_range _) rfl ?_) rfl
  refine PyProof.Rows.callWith_type rfl (evalArgs_plain (spliced_cons (wpAny_Constant_int (spliced_nil ?_))))
  refine PySem.call_range_1 ?_
  have hr := IsRange.new s.heap 0 256 1 (s.toks + 1) s.toks (s.toks + 1 + 1)
  refine wpAny_pyIter_range hr (by decide) ?_
  refine comp_restV (env := envB) (V₀ := s.heap.get?) (R := fun i _ y => ∃ tk, y = Value.bytes #[i.toUInt8] tk) (Walks.range rfl _ 0 1 256) (fun _ _ _ _ _ e => e) ?_ ?_ (by decide) rfl rfl ?_ ?_ ?_ ?_ ?_ (by size_fits)
  · intro i h e b hb
    rw [List.mem_singleton.mp hb]
    exact ⟨_, e⟩
  · intro b hb
    rw [List.mem_singleton.mp hb]
    exact ⟨_, Heap.get?_push_size _ rfl⟩
  · exact Heap.get?_push_size _ rfl
  · exact fun b o e => Heap.get?_push_of_some _ (Heap.get?_push_of_some _ e)
  · intro b hb
    rw [List.mem_singleton.mp hb]
    exact Heap.get?_none_of_le (by simp)
  · rintro C i v s₂ m₂ V hi ⟨tk, rfl⟩ hn hm hV0 hV hC
    have kk : ∀ b o, s.heap.get? b = some o → s₂.heap.get? b = some o := fun b o e => hV b o (hV0 b o e)
    refine Call_Name1 (Name_function_global rfl rfl (loadGlobal_builtin (ns_of_dict (kk 3 _ T.dict) T.keys) h2 (ns_of_dict (kk 0 _ (T.keep 0 _ (by decide) (by decide) hb)) (blt_keys _)) (blt_bytes _) ?_)) rfl
    refine PyProof.Rows.callWith_type rfl (evalArgs_plain (spliced_cons (wpAny_List ?_)))
    refine spliced_cons (wpAny_Name (wpAny_loadName_local rfl rfl hn hm ?_) rfl)
    refine spliced_nil ⟨by size_fits, spliced_nil ?_⟩
    have hk := keeps_push (s := s₂) { cls := .type "list", data := .seq [Value.int (0 + (i : Int) * 1) tk].toArray }
    refine wpAny_mono (amax_of (bytes_one (Heap.get?_push_size _ rfl) (by (clear h1 h2 hC hb hm; omega)) (by (clear h1 h2 hC hb hm; omega)))) (fun v s₃ h₃ => ?_) fun _ _ h => h.elim
    obtain ⟨k3, tk', rfl⟩ := h₃
    refine ⟨keeps_trans hk k3, V, Ext.refl fun b o e => keeps_of k3 b o (keeps_of hk b o (hV b o e)), tk', ?_⟩
    rw [show ((0 + (i : Int) * 1)).toNat = i by (clear h1 h2 hC hb hm; omega)]
  · rintro D s' V' ys ep hs' hkeep hD hE hV hsz hR
    refine h D s' ys ep (T.grow ?_) (hE.at' _ _ hV) hsz hR
    obtain ⟨h', tk, rfl⟩ := hs'
    exact ⟨h', tk, rfl, fun b o e => hE.at' b o (hE.le b o e)⟩
end
end Mine
end Top6_part
section Top7_part
open PySem PySem.W PySem.Calls PyProof.Rows
set_option Elab.async false
set_option maxRecDepth 100000
set_option maxHeartbeats 0
namespace Mine
section
variable {w : World} {E : Value → Shared → Prop} {s : Shared} {base : Heap} {os : OsState} {es : List DictEntry} {n : Nat} {l : List (Pos × Addr)} {ln : Nat} {fs : List (Nat × Addr)}
theorem TS.rebase (T : TS base os es n l ln fs s) : TS s.heap os es n l ln fs s :=
  ⟨T.dict, T.keys, T.bi, T.code, T.lines, fun _ _ _ _ e => e, T.fns, T.gens, T.os, by
    obtain ⟨o, ho⟩ := Option.isSome_iff_exists.mp T.b14
    rw [T.keep 14 o (by decide) (by decide) ho]; rfl, T.mod4⟩
noncomputable def tabFn : Str × Pos × Pos := match (ad 6).val with
  | .Call (.Name x p) _ _ q => (x, p, q)
  | _ => default
theorem tab_eq : (ad 6).val = .Call (.Name "tuple" tabFn.2.1) [compArg] [] tabFn.2.2 := by kernel_rfl
theorem tab_top {Q : Value → Shared → Prop} (T : TS base os es n l ln fs s) (hb : base.get? 0 = some (dictOf (bltE w.params) (bltN w.params)))
    (h0 : lookE "tuple" es = none) (h1 : lookE "range" es = none) (h2 : lookE "bytes" es = none)
    (h : ∀ a s', TS base os es n l ln fs s' → IsByteTab s'.heap.get? a → Q (.ref a) s') :
    wpAny (model pw w) Amax (eval (ad 6).val envB) Q E s := by
  rw [tab_eq]
  refine Call_Name1 (name_blt T hb h0 (blt_tuple _) rfl ?_) (by rw [compArg_eq]; rfl)
  refine PyProof.Rows.callWith_type rfl (evalArgs_plain (spliced_cons (comp_top T hb h1 h2 fun D s₁ vs ep T₁ hD hz hR => spliced_nil ?_)))
  refine call_tuple_list ⟨_, hD, rfl, ep, rfl⟩ (fun h' hk => ?_) (by rw [hz]; decide)
  refine h _ _ (T₁.grow ⟨_, _, rfl, fun b o e => Heap.get?_push_of_some _ (hk b o e)⟩) ⟨vs, 0, Heap.get?_push_size _ rfl, hz, hR⟩
end
end Mine
end Top7_part
section Top8_part
open PySem PySem.W PySem.Calls PyProof.Rows
set_option Elab.async false
set_option maxRecDepth 100000
set_option maxHeartbeats 0
namespace Mine
set_option genInjectivity false in
set_option genSizeOf false in
/-- what the top's statements 6 to 31 bind: tokens of the keys, addresses, tokens of the values -/
structure Glo where
  t6 : Tok
  a6 : Addr
  t7 : Tok
  a7 : Addr
  t8 : Tok
  a8 : Addr
  t9 : Tok
  a9 : Addr
  t10 : Tok
  v10 : Tok
  t11 : Tok
  a11 : Addr
  t12 : Tok
  a12 : Addr
  t13 : Tok
  v13 : Tok
  t14 : Tok
  a14 : Addr
  t15 : Tok
  v15 : Tok
  t16 : Tok
  a16 : Addr
  t17 : Tok
  a17 : Addr
  t18 : Tok
  a18 : Addr
  t19 : Tok
  a19 : Addr
  t20 : Tok
  v20 : Tok
  t21 : Tok
  a21 : Addr
  t22 : Tok
  a22 : Addr
  t23 : Tok
  a23 : Addr
  t24 : Tok
  v24 : Tok
  t25 : Tok
  a25 : Addr
  t26 : Tok
  a26 : Addr
  t27 : Tok
  a27 : Addr
  t28 : Tok
  a28 : Addr
  t29 : Tok
  a29 : Addr
  t30 : Tok
  a30 : Addr
  t31 : Tok
  a31 : Addr
namespace Glo
noncomputable abbrev e5 (_G : Glo) (w : World) : List DictEntry := es6 w.params
noncomputable def e6 (G : Glo) (w : World) : List DictEntry := putL (ad 6).name (hashOf w (ad 6).name) (.str (ad 6).name G.t6) (.ref G.a6) (G.e5 w)
noncomputable def e7 (G : Glo) (w : World) : List DictEntry := putL (fd 7).name (hashOf w (fd 7).name) (.str (fd 7).name G.t7) (.ref G.a7) (G.e6 w)
noncomputable def e8 (G : Glo) (w : World) : List DictEntry := putL (fd 8).name (hashOf w (fd 8).name) (.str (fd 8).name G.t8) (.ref G.a8) (G.e7 w)
noncomputable def e9 (G : Glo) (w : World) : List DictEntry := putL (fd 9).name (hashOf w (fd 9).name) (.str (fd 9).name G.t9) (.ref G.a9) (G.e8 w)
noncomputable def e10 (G : Glo) (w : World) : List DictEntry := putL (ad 10).name (hashOf w (ad 10).name) (.str (ad 10).name G.t10) (.str "rlp.codec" G.v10) (G.e9 w)
noncomputable def e11 (G : Glo) (w : World) : List DictEntry := putL (fd 11).name (hashOf w (fd 11).name) (.str (fd 11).name G.t11) (.ref G.a11) (G.e10 w)
noncomputable def e12 (G : Glo) (w : World) : List DictEntry := putL (fd 12).name (hashOf w (fd 12).name) (.str (fd 12).name G.t12) (.ref G.a12) (G.e11 w)
noncomputable def e13 (G : Glo) (w : World) : List DictEntry := putL (ad 13).name (hashOf w (ad 13).name) (.str (ad 13).name G.t13) (.int (256 ^ 8) G.v13) (G.e12 w)
noncomputable def e14 (G : Glo) (w : World) : List DictEntry := putL (fd 14).name (hashOf w (fd 14).name) (.str (fd 14).name G.t14) (.ref G.a14) (G.e13 w)
noncomputable def e15 (G : Glo) (w : World) : List DictEntry := putL (ad 15).name (hashOf w (ad 15).name) (.str (ad 15).name G.t15) (.int 184 G.v15) (G.e14 w)
noncomputable def e16 (G : Glo) (w : World) : List DictEntry := putL (fd 16).name (hashOf w (fd 16).name) (.str (fd 16).name G.t16) (.ref G.a16) (G.e15 w)
noncomputable def e17 (G : Glo) (w : World) : List DictEntry := putL (fd 17).name (hashOf w (fd 17).name) (.str (fd 17).name G.t17) (.ref G.a17) (G.e16 w)
noncomputable def e18 (G : Glo) (w : World) : List DictEntry := putL (fd 18).name (hashOf w (fd 18).name) (.str (fd 18).name G.t18) (.ref G.a18) (G.e17 w)
noncomputable def e19 (G : Glo) (w : World) : List DictEntry := putL (fd 19).name (hashOf w (fd 19).name) (.str (fd 19).name G.t19) (.ref G.a19) (G.e18 w)
noncomputable def e20 (G : Glo) (w : World) : List DictEntry := putL (ad 20).name (hashOf w (ad 20).name) (.str (ad 20).name G.t20) (.str "rlp.sedes.raw" G.v20) (G.e19 w)
noncomputable def e21 (G : Glo) (w : World) : List DictEntry := putL (fd 21).name (hashOf w (fd 21).name) (.str (fd 21).name G.t21) (.ref G.a21) (G.e20 w)
noncomputable def e22 (G : Glo) (w : World) : List DictEntry := putL (fd 22).name (hashOf w (fd 22).name) (.str (fd 22).name G.t22) (.ref G.a22) (G.e21 w)
noncomputable def e23 (G : Glo) (w : World) : List DictEntry := putL (fd 23).name (hashOf w (fd 23).name) (.str (fd 23).name G.t23) (.ref G.a23) (G.e22 w)
noncomputable def e24 (G : Glo) (w : World) : List DictEntry := putL (ad 24).name (hashOf w (ad 24).name) (.str (ad 24).name G.t24) (.str "law_aw0024_01" G.v24) (G.e23 w)
noncomputable def e25 (G : Glo) (w : World) : List DictEntry := putL (fd 25).name (hashOf w (fd 25).name) (.str (fd 25).name G.t25) (.ref G.a25) (G.e24 w)
noncomputable def e26 (G : Glo) (w : World) : List DictEntry := putL (fd 26).name (hashOf w (fd 26).name) (.str (fd 26).name G.t26) (.ref G.a26) (G.e25 w)
noncomputable def e27 (G : Glo) (w : World) : List DictEntry := putL (fd 27).name (hashOf w (fd 27).name) (.str (fd 27).name G.t27) (.ref G.a27) (G.e26 w)
noncomputable def e28 (G : Glo) (w : World) : List DictEntry := putL (fd 28).name (hashOf w (fd 28).name) (.str (fd 28).name G.t28) (.ref G.a28) (G.e27 w)
noncomputable def e29 (G : Glo) (w : World) : List DictEntry := putL (fd 29).name (hashOf w (fd 29).name) (.str (fd 29).name G.t29) (.ref G.a29) (G.e28 w)
noncomputable def e30 (G : Glo) (w : World) : List DictEntry := putL (fd 30).name (hashOf w (fd 30).name) (.str (fd 30).name G.t30) (.ref G.a30) (G.e29 w)
noncomputable def e31 (G : Glo) (w : World) : List DictEntry := putL (fd 31).name (hashOf w (fd 31).name) (.str (fd 31).name G.t31) (.ref G.a31) (G.e30 w)
noncomputable def fns (G : Glo) : List (Nat × Addr) := [(31, G.a31), (30, G.a30), (29, G.a29), (28, G.a28), (27, G.a27), (26, G.a26), (25, G.a25), (23, G.a23), (22, G.a22), (21, G.a21), (19, G.a19), (18, G.a18), (17, G.a17), (16, G.a16), (14, G.a14), (12, G.a12), (11, G.a11), (9, G.a9), (8, G.a8), (7, G.a7)]
theorem m31 (G : Glo) : (31, G.a31) ∈ G.fns := List.mem_of_getElem? (i := 0) rfl
theorem m30 (G : Glo) : (30, G.a30) ∈ G.fns := List.mem_of_getElem? (i := 1) rfl
theorem m29 (G : Glo) : (29, G.a29) ∈ G.fns := List.mem_of_getElem? (i := 2) rfl
theorem m28 (G : Glo) : (28, G.a28) ∈ G.fns := List.mem_of_getElem? (i := 3) rfl
theorem m27 (G : Glo) : (27, G.a27) ∈ G.fns := List.mem_of_getElem? (i := 4) rfl
theorem m26 (G : Glo) : (26, G.a26) ∈ G.fns := List.mem_of_getElem? (i := 5) rfl
theorem m25 (G : Glo) : (25, G.a25) ∈ G.fns := List.mem_of_getElem? (i := 6) rfl
theorem m23 (G : Glo) : (23, G.a23) ∈ G.fns := List.mem_of_getElem? (i := 7) rfl
theorem m22 (G : Glo) : (22, G.a22) ∈ G.fns := List.mem_of_getElem? (i := 8) rfl
theorem m21 (G : Glo) : (21, G.a21) ∈ G.fns := List.mem_of_getElem? (i := 9) rfl
theorem m19 (G : Glo) : (19, G.a19) ∈ G.fns := List.mem_of_getElem? (i := 10) rfl
theorem m18 (G : Glo) : (18, G.a18) ∈ G.fns := List.mem_of_getElem? (i := 11) rfl
theorem m17 (G : Glo) : (17, G.a17) ∈ G.fns := List.mem_of_getElem? (i := 12) rfl
theorem m16 (G : Glo) : (16, G.a16) ∈ G.fns := List.mem_of_getElem? (i := 13) rfl
theorem m14 (G : Glo) : (14, G.a14) ∈ G.fns := List.mem_of_getElem? (i := 14) rfl
theorem m12 (G : Glo) : (12, G.a12) ∈ G.fns := List.mem_of_getElem? (i := 15) rfl
theorem m11 (G : Glo) : (11, G.a11) ∈ G.fns := List.mem_of_getElem? (i := 16) rfl
theorem m9 (G : Glo) : (9, G.a9) ∈ G.fns := List.mem_of_getElem? (i := 17) rfl
theorem m8 (G : Glo) : (8, G.a8) ∈ G.fns := List.mem_of_getElem? (i := 18) rfl
theorem m7 (G : Glo) : (7, G.a7) ∈ G.fns := List.mem_of_getElem? (i := 19) rfl
end Glo
section
variable {w : World} {E : Value → Shared → Prop} {s : Shared} {base : Heap} {os : OsState} {es : List DictEntry} {n : Nat} {l : List (Pos × Addr)} {ln : Nat} {fs : List (Nat × Addr)}
theorem name_top (k : Nat) (x : Str) (hx : (ad k).val.ConstVal = (Expr.ConstVal (.Constant (.str x) 0 default))) (hc : (ad k).val.isPlainConst = true) : ∀ s₁ : Shared, ∀ Q' : Value → Shared → Prop, TS base os es n l ln fs s₁ → (∀ v s₂, (∃ tk, v = .str x tk) → TS base os es n l ln fs s₂ → Q' v s₂) → wpAny (model pw w) Amax (eval (ad k).val envB) Q' E s₁ := by
  intro s₁ Q' T h
  refine wpAny_eval_const hc fun v tk hv => h v _ ?_ (T.toks tk)
  rw [hx] at hv
  exact hv
structure FinTop (w : World) (os : OsState) (b6 : Heap) (G : Glo) (s : Shared) : Prop where
  ts : ∃ base n l ln, TS base os (G.e31 w) n l ln G.fns s ∧ (IsByteTab base.get? G.a6 ∧ G.a6 ≠ 3 ∧ G.a6 ≠ 12) ∧ (∀ b o, b ≠ 3 → b ≠ 12 → b6.get? b = some o → base.get? b = some o) ∧ 91 ≤ b6.objs.size ∧ base.get? 0 = some (dictOf (bltE w.params) (bltN w.params))
/-- what holds of the top's state, without the parts that nothing asks for later -/
noncomputable def TX (base : Heap) (os : OsState) (es : List DictEntry) (fs : List (Nat × Addr)) (lb : Nat) (s : Shared) : Prop := ∃ n l ln, TS base os es n l ln fs s ∧ ln ≤ lb
theorem def_x (k : Nat) {lb : Nat} {rest : List Stmt} {Q : Flow → Shared → Prop} (T : TX base os es fs lb s)
    (ok : ((fd k).params.kwonlyargs.isEmpty && (fd k).params.kw_defaults.isEmpty && ((fd k).params.defaults.all Expr.isPlainConst) && ((fd k).scope.names.all fun x => x.2 != .free) && (envB.kindOf (fd k).name == some .local) && (fd k).name != "__builtins__" && (qualnameIn envB (fd k).name (fd k).name == (fd k).name)) = true)
    (hann : annTrees (fd k).params none envB = []) (hl : lb ≤ (fd k).pos.line)
    (h : ∀ a tk es' fs' s', es' = putL (fd k).name (hashOf w (fd k).name) (.str (fd k).name tk) (.ref a) es → fs' = (k, a) :: fs → TX base os es' fs' ((fd k).pos.line + 1) s' → wpAny (model pw w) Amax (execs rest envB) Q E s') :
    wpAny (model pw w) Amax (execs (stD k :: rest) envB) Q E s := by
  obtain ⟨n, l, ln, T, hln⟩ := T
  exact wpAny_execs_cons (def_top k T ok hann (Nat.le_trans hln hl) fun a c' tk s' T' => h a tk _ _ s' rfl rfl ⟨_, _, _, T', Nat.le_refl _⟩)
theorem asg_x (k : Nat) {lb : Nat} {rest : List Stmt} {Q : Flow → Shared → Prop} (T : TX base os es fs lb s)
    (h1 : envB.kindOf (ad k).name = some .local) (h2 : (ad k).name ≠ "__builtins__") (h3 : swapsWith (ad k).val (some (.Name (ad k).name (ad k).np)) (ad k).pos.line envB = pure false)
    {V : Value → Prop} (hv : ∀ {n : Nat} {l : List (Pos × Addr)} {ln : Nat}, ∀ s₁ : Shared, ∀ Q' : Value → Shared → Prop, TS base os es n l ln fs s₁ → (∀ v s₂, V v → TS base os es n l ln fs s₂ → Q' v s₂) → wpAny (model pw w) Amax (eval (ad k).val envB) Q' E s₁)
    (h : ∀ v tk es' s', V v → es' = putL (ad k).name (hashOf w (ad k).name) (.str (ad k).name tk) v es → TX base os es' fs lb s' → wpAny (model pw w) Amax (execs rest envB) Q E s') :
    wpAny (model pw w) Amax (execs (stA k :: rest) envB) Q E s := by
  obtain ⟨n, l, ln, T, hln⟩ := T
  exact wpAny_execs_cons (asg_top k T h1 h2 h3 (hv (n := n) (l := l) (ln := ln)) fun v tk s' hV T' => h v tk _ s' hV rfl ⟨_, _, _, T', hln⟩)
theorem fin_es {w : World} {t6 : Tok} {a6 : Addr} {t7 : Tok} {a7 : Addr} {t8 : Tok} {a8 : Addr} {t9 : Tok} {a9 : Addr} {t10 : Tok} {v10 : Tok} {t11 : Tok} {a11 : Addr} {t12 : Tok} {a12 : Addr} {t13 : Tok} {v13 : Tok} {t14 : Tok} {a14 : Addr} {t15 : Tok} {v15 : Tok} {t16 : Tok} {a16 : Addr} {t17 : Tok} {a17 : Addr} {t18 : Tok} {a18 : Addr} {t19 : Tok} {a19 : Addr} {t20 : Tok} {v20 : Tok} {t21 : Tok} {a21 : Addr} {t22 : Tok} {a22 : Addr} {t23 : Tok} {a23 : Addr} {t24 : Tok} {v24 : Tok} {t25 : Tok} {a25 : Addr} {t26 : Tok} {a26 : Addr} {t27 : Tok} {a27 : Addr} {t28 : Tok} {a28 : Addr} {t29 : Tok} {a29 : Addr} {t30 : Tok} {a30 : Addr} {t31 : Tok} {a31 : Addr} {e6 e7 e8 e9 e10 e11 e12 e13 e14 e15 e16 e17 e18 e19 e20 e21 e22 e23 e24 e25 e26 e27 e28 e29 e30 e31 : List DictEntry} (h6 : e6 = putL (ad 6).name (hashOf w (ad 6).name) (.str (ad 6).name t6) (.ref a6) (es6 w.params))
    (h7 : e7 = putL (fd 7).name (hashOf w (fd 7).name) (.str (fd 7).name t7) (.ref a7) e6)
    (h8 : e8 = putL (fd 8).name (hashOf w (fd 8).name) (.str (fd 8).name t8) (.ref a8) e7)
    (h9 : e9 = putL (fd 9).name (hashOf w (fd 9).name) (.str (fd 9).name t9) (.ref a9) e8)
    (h10 : e10 = putL (ad 10).name (hashOf w (ad 10).name) (.str (ad 10).name t10) (.str "rlp.codec" v10) e9)
    (h11 : e11 = putL (fd 11).name (hashOf w (fd 11).name) (.str (fd 11).name t11) (.ref a11) e10)
    (h12 : e12 = putL (fd 12).name (hashOf w (fd 12).name) (.str (fd 12).name t12) (.ref a12) e11)
    (h13 : e13 = putL (ad 13).name (hashOf w (ad 13).name) (.str (ad 13).name t13) (.int (256 ^ 8) v13) e12)
    (h14 : e14 = putL (fd 14).name (hashOf w (fd 14).name) (.str (fd 14).name t14) (.ref a14) e13)
    (h15 : e15 = putL (ad 15).name (hashOf w (ad 15).name) (.str (ad 15).name t15) (.int 184 v15) e14)
    (h16 : e16 = putL (fd 16).name (hashOf w (fd 16).name) (.str (fd 16).name t16) (.ref a16) e15)
    (h17 : e17 = putL (fd 17).name (hashOf w (fd 17).name) (.str (fd 17).name t17) (.ref a17) e16)
    (h18 : e18 = putL (fd 18).name (hashOf w (fd 18).name) (.str (fd 18).name t18) (.ref a18) e17)
    (h19 : e19 = putL (fd 19).name (hashOf w (fd 19).name) (.str (fd 19).name t19) (.ref a19) e18)
    (h20 : e20 = putL (ad 20).name (hashOf w (ad 20).name) (.str (ad 20).name t20) (.str "rlp.sedes.raw" v20) e19)
    (h21 : e21 = putL (fd 21).name (hashOf w (fd 21).name) (.str (fd 21).name t21) (.ref a21) e20)
    (h22 : e22 = putL (fd 22).name (hashOf w (fd 22).name) (.str (fd 22).name t22) (.ref a22) e21)
    (h23 : e23 = putL (fd 23).name (hashOf w (fd 23).name) (.str (fd 23).name t23) (.ref a23) e22)
    (h24 : e24 = putL (ad 24).name (hashOf w (ad 24).name) (.str (ad 24).name t24) (.str "law_aw0024_01" v24) e23)
    (h25 : e25 = putL (fd 25).name (hashOf w (fd 25).name) (.str (fd 25).name t25) (.ref a25) e24)
    (h26 : e26 = putL (fd 26).name (hashOf w (fd 26).name) (.str (fd 26).name t26) (.ref a26) e25)
    (h27 : e27 = putL (fd 27).name (hashOf w (fd 27).name) (.str (fd 27).name t27) (.ref a27) e26)
    (h28 : e28 = putL (fd 28).name (hashOf w (fd 28).name) (.str (fd 28).name t28) (.ref a28) e27)
    (h29 : e29 = putL (fd 29).name (hashOf w (fd 29).name) (.str (fd 29).name t29) (.ref a29) e28)
    (h30 : e30 = putL (fd 30).name (hashOf w (fd 30).name) (.str (fd 30).name t30) (.ref a30) e29)
    (h31 : e31 = putL (fd 31).name (hashOf w (fd 31).name) (.str (fd 31).name t31) (.ref a31) e30)
    : e31 = Glo.e31 ⟨t6, a6, t7, a7, t8, a8, t9, a9, t10, v10, t11, a11, t12, a12, t13, v13, t14, a14, t15, v15, t16, a16, t17, a17, t18, a18, t19, a19, t20, v20, t21, a21, t22, a22, t23, a23, t24, v24, t25, a25, t26, a26, t27, a27, t28, a28, t29, a29, t30, a30, t31, a31⟩ w :=
  (h31.trans (congrArg (putL (fd 31).name (hashOf w (fd 31).name) (.str (fd 31).name t31) (.ref a31)) (h30.trans (congrArg (putL (fd 30).name (hashOf w (fd 30).name) (.str (fd 30).name t30) (.ref a30)) (h29.trans (congrArg (putL (fd 29).name (hashOf w (fd 29).name) (.str (fd 29).name t29) (.ref a29)) (h28.trans (congrArg (putL (fd 28).name (hashOf w (fd 28).name) (.str (fd 28).name t28) (.ref a28)) (h27.trans (congrArg (putL (fd 27).name (hashOf w (fd 27).name) (.str (fd 27).name t27) (.ref a27)) (h26.trans (congrArg (putL (fd 26).name (hashOf w (fd 26).name) (.str (fd 26).name t26) (.ref a26)) (h25.trans (congrArg (putL (fd 25).name (hashOf w (fd 25).name) (.str (fd 25).name t25) (.ref a25)) (h24.trans (congrArg (putL (ad 24).name (hashOf w (ad 24).name) (.str (ad 24).name t24) (.str "law_aw0024_01" v24)) (h23.trans (congrArg (putL (fd 23).name (hashOf w (fd 23).name) (.str (fd 23).name t23) (.ref a23)) (h22.trans (congrArg (putL (fd 22).name (hashOf w (fd 22).name) (.str (fd 22).name t22) (.ref a22)) (h21.trans (congrArg (putL (fd 21).name (hashOf w (fd 21).name) (.str (fd 21).name t21) (.ref a21)) (h20.trans (congrArg (putL (ad 20).name (hashOf w (ad 20).name) (.str (ad 20).name t20) (.str "rlp.sedes.raw" v20)) (h19.trans (congrArg (putL (fd 19).name (hashOf w (fd 19).name) (.str (fd 19).name t19) (.ref a19)) (h18.trans (congrArg (putL (fd 18).name (hashOf w (fd 18).name) (.str (fd 18).name t18) (.ref a18)) (h17.trans (congrArg (putL (fd 17).name (hashOf w (fd 17).name) (.str (fd 17).name t17) (.ref a17)) (h16.trans (congrArg (putL (fd 16).name (hashOf w (fd 16).name) (.str (fd 16).name t16) (.ref a16)) (h15.trans (congrArg (putL (ad 15).name (hashOf w (ad 15).name) (.str (ad 15).name t15) (.int 184 v15)) (h14.trans (congrArg (putL (fd 14).name (hashOf w (fd 14).name) (.str (fd 14).name t14) (.ref a14)) (h13.trans (congrArg (putL (ad 13).name (hashOf w (ad 13).name) (.str (ad 13).name t13) (.int (256 ^ 8) v13)) (h12.trans (congrArg (putL (fd 12).name (hashOf w (fd 12).name) (.str (fd 12).name t12) (.ref a12)) (h11.trans (congrArg (putL (fd 11).name (hashOf w (fd 11).name) (.str (fd 11).name t11) (.ref a11)) (h10.trans (congrArg (putL (ad 10).name (hashOf w (ad 10).name) (.str (ad 10).name t10) (.str "rlp.codec" v10)) (h9.trans (congrArg (putL (fd 9).name (hashOf w (fd 9).name) (.str (fd 9).name t9) (.ref a9)) (h8.trans (congrArg (putL (fd 8).name (hashOf w (fd 8).name) (.str (fd 8).name t8) (.ref a8)) (h7.trans (congrArg (putL (fd 7).name (hashOf w (fd 7).name) (.str (fd 7).name t7) (.ref a7)) h6))))))))))))))))))))))))))))))))))))))))))))))))))
theorem fin_fs {a7 : Addr} {a8 : Addr} {a9 : Addr} {a11 : Addr} {a12 : Addr} {a14 : Addr} {a16 : Addr} {a17 : Addr} {a18 : Addr} {a19 : Addr} {a21 : Addr} {a22 : Addr} {a23 : Addr} {a25 : Addr} {a26 : Addr} {a27 : Addr} {a28 : Addr} {a29 : Addr} {a30 : Addr} {a31 : Addr} {f5 f7 f8 f9 f11 f12 f14 f16 f17 f18 f19 f21 f22 f23 f25 f26 f27 f28 f29 f30 f31 : List (Nat × Addr)} (g5 : f5 = [])
    (g7 : f7 = (7, a7) :: f5)
    (g8 : f8 = (8, a8) :: f7)
    (g9 : f9 = (9, a9) :: f8)
    (g11 : f11 = (11, a11) :: f9)
    (g12 : f12 = (12, a12) :: f11)
    (g14 : f14 = (14, a14) :: f12)
    (g16 : f16 = (16, a16) :: f14)
    (g17 : f17 = (17, a17) :: f16)
    (g18 : f18 = (18, a18) :: f17)
    (g19 : f19 = (19, a19) :: f18)
    (g21 : f21 = (21, a21) :: f19)
    (g22 : f22 = (22, a22) :: f21)
    (g23 : f23 = (23, a23) :: f22)
    (g25 : f25 = (25, a25) :: f23)
    (g26 : f26 = (26, a26) :: f25)
    (g27 : f27 = (27, a27) :: f26)
    (g28 : f28 = (28, a28) :: f27)
    (g29 : f29 = (29, a29) :: f28)
    (g30 : f30 = (30, a30) :: f29)
    (g31 : f31 = (31, a31) :: f30)
    : f31 = [(31, a31), (30, a30), (29, a29), (28, a28), (27, a27), (26, a26), (25, a25), (23, a23), (22, a22), (21, a21), (19, a19), (18, a18), (17, a17), (16, a16), (14, a14), (12, a12), (11, a11), (9, a9), (8, a8), (7, a7)] :=
  (g31.trans (congrArg (List.cons (31, a31)) (g30.trans (congrArg (List.cons (30, a30)) (g29.trans (congrArg (List.cons (29, a29)) (g28.trans (congrArg (List.cons (28, a28)) (g27.trans (congrArg (List.cons (27, a27)) (g26.trans (congrArg (List.cons (26, a26)) (g25.trans (congrArg (List.cons (25, a25)) (g23.trans (congrArg (List.cons (23, a23)) (g22.trans (congrArg (List.cons (22, a22)) (g21.trans (congrArg (List.cons (21, a21)) (g19.trans (congrArg (List.cons (19, a19)) (g18.trans (congrArg (List.cons (18, a18)) (g17.trans (congrArg (List.cons (17, a17)) (g16.trans (congrArg (List.cons (16, a16)) (g14.trans (congrArg (List.cons (14, a14)) (g12.trans (congrArg (List.cons (12, a12)) (g11.trans (congrArg (List.cons (11, a11)) (g9.trans (congrArg (List.cons (9, a9)) (g8.trans (congrArg (List.cons (8, a8)) (g7.trans (congrArg (List.cons (7, a7)) g5))))))))))))))))))))))))))))))))))))))))
theorem rest_top (s : Shared) (F : F6 w os s) : wpAny (model pw w) Amax (execs [stA 6, stD 7, stD 8, stD 9, stA 10, stD 11, stD 12, stA 13, stD 14, stA 15, stD 16, stD 17, stD 18, stD 19, stA 20, stD 21, stD 22, stD 23, stA 24, stD 25, stD 26, stD 27, stD 28, stD 29, stD 30, stD 31] envB) (fun f s' => f = .next ∧ ∃ G : Glo, FinTop w os s.heap G s') E s := by
  have T5 := ts6 F
  have hb0 : s.heap.get? 0 = some (dictOf (bltE w.params) (bltN w.params)) := F.keep (blt_at _) (by decide) (by decide)
  have hsz : 91 ≤ s.heap.objs.size := Nat.le_of_eq F.size.symm
  refine wpAny_execs_cons ?_
  refine wpAny_Assign_Name (tab_top T5 hb0 (by kernel_rfl) (by kernel_rfl) (by kernel_rfl) fun a6 sA T6 htab => ?_) (by rfl)
  have hne : a6 ≠ 3 ∧ a6 ≠ 12 := by
    obtain ⟨vs, ep, e, _⟩ := htab
    refine ⟨fun x => ?_, fun x => ?_⟩
    · subst x
      have d := T6.dict
      rw [e] at d
      have := congrArg (fun o => o.map (fun o : Obj => match o.data with | .seq .. => true | _ => false)) d
      simp at this
    · subst x
      obtain ⟨o, vs', file, tf, flags, tg, inF, text, tt, op, a, r1, r2, r3, r4, r5, r6, b, r, _⟩ := T6.code
      rw [e] at b
      have z := Option.some.inj b
      rw [← z] at r
      cases r
  have hkeep := T6.keep
  have T6 := T6.rebase
  generalize hB : sA.heap = base at T6 htab hkeep
  have hb1 : base.get? 0 = some (dictOf (bltE w.params) (bltN w.params)) := hkeep 0 _ (by decide) (by decide) hb0
  generalize ht6 : sA.toks = t6
  refine store_top T6 (by rfl) (by decide) fun s6 T6 _ => ?_
  rw [ht6] at T6
  dsimp only
  obtain ⟨e6, h6, T6⟩ : ∃ e6, e6 = putL (ad 6).name (hashOf w (ad 6).name) (.str (ad 6).name t6) (.ref a6) (es6 w.params) ∧ TX base os e6 [] (fd 7).pos.line s6 := ⟨_, rfl, _, _, _, T6, by decide +kernel⟩
  refine def_x 7 T6 (by kernel_rfl) (by kernel_rfl) (by decide +kernel) fun a7 t7 e7 f7 s7 h7 g7 T7 => ?_
  refine def_x 8 T7 (by kernel_rfl) (by kernel_rfl) (by decide +kernel) fun a8 t8 e8 f8 s8 h8 g8 T8 => ?_
  refine def_x 9 T8 (by kernel_rfl) (by kernel_rfl) (by decide +kernel) fun a9 t9 e9 f9 s9 h9 g9 T9 => ?_
  refine asg_x 10 T9 (by kernel_rfl) (by decide +kernel) (by rfl) (name_top 10 "rlp.codec" (by rfl) (by rfl)) fun v t10 e10 s10 hv10 h10 T10 => ?_
  obtain ⟨v10, rfl⟩ := hv10
  refine def_x 11 T10 (by kernel_rfl) (by kernel_rfl) (by decide +kernel) fun a11 t11 e11 f11 s11 h11 g11 T11 => ?_
  refine def_x 12 T11 (by kernel_rfl) (by kernel_rfl) (by decide +kernel) fun a12 t12 e12 f12 s12 h12 g12 T12 => ?_
  refine asg_x 13 T12 (by kernel_rfl) (by decide +kernel) (by rfl) (V := fun v => ∃ tk, v = .int (256 ^ 8) tk) (fun s₁ Q' T h => pow_top T fun tk s' T' => h _ _ ⟨tk, rfl⟩ T') fun v t13 e13 s13 hv13 h13 T13 => ?_
  obtain ⟨v13, rfl⟩ := hv13
  refine def_x 14 T13 (by kernel_rfl) (by kernel_rfl) (by decide +kernel) fun a14 t14 e14 f14 s14 h14 g14 T14 => ?_
  refine asg_x 15 T14 (by kernel_rfl) (by decide +kernel) (by rfl) (V := fun v => ∃ tk, v = .int 184 tk) (fun s₁ Q' T h => add_top T fun tk s' T' => h _ _ ⟨tk, rfl⟩ T') fun v t15 e15 s15 hv15 h15 T15 => ?_
  obtain ⟨v15, rfl⟩ := hv15
  refine def_x 16 T15 (by kernel_rfl) (by kernel_rfl) (by decide +kernel) fun a16 t16 e16 f16 s16 h16 g16 T16 => ?_
  refine def_x 17 T16 (by kernel_rfl) (by kernel_rfl) (by decide +kernel) fun a17 t17 e17 f17 s17 h17 g17 T17 => ?_
  refine def_x 18 T17 (by kernel_rfl) (by kernel_rfl) (by decide +kernel) fun a18 t18 e18 f18 s18 h18 g18 T18 => ?_
  refine def_x 19 T18 (by kernel_rfl) (by kernel_rfl) (by decide +kernel) fun a19 t19 e19 f19 s19 h19 g19 T19 => ?_
  refine asg_x 20 T19 (by kernel_rfl) (by decide +kernel) (by rfl) (name_top 20 "rlp.sedes.raw" (by rfl) (by rfl)) fun v t20 e20 s20 hv20 h20 T20 => ?_
  obtain ⟨v20, rfl⟩ := hv20
  refine def_x 21 T20 (by kernel_rfl) (by kernel_rfl) (by decide +kernel) fun a21 t21 e21 f21 s21 h21 g21 T21 => ?_
  refine def_x 22 T21 (by kernel_rfl) (by kernel_rfl) (by decide +kernel) fun a22 t22 e22 f22 s22 h22 g22 T22 => ?_
  refine def_x 23 T22 (by kernel_rfl) (by kernel_rfl) (by decide +kernel) fun a23 t23 e23 f23 s23 h23 g23 T23 => ?_
  refine asg_x 24 T23 (by kernel_rfl) (by decide +kernel) (by rfl) (name_top 24 "law_aw0024_01" (by rfl) (by rfl)) fun v t24 e24 s24 hv24 h24 T24 => ?_
  obtain ⟨v24, rfl⟩ := hv24
  refine def_x 25 T24 (by kernel_rfl) (by kernel_rfl) (by decide +kernel) fun a25 t25 e25 f25 s25 h25 g25 T25 => ?_
  refine def_x 26 T25 (by kernel_rfl) (by kernel_rfl) (by decide +kernel) fun a26 t26 e26 f26 s26 h26 g26 T26 => ?_
  refine def_x 27 T26 (by kernel_rfl) (by kernel_rfl) (by decide +kernel) fun a27 t27 e27 f27 s27 h27 g27 T27 => ?_
  refine def_x 28 T27 (by kernel_rfl) (by kernel_rfl) (by decide +kernel) fun a28 t28 e28 f28 s28 h28 g28 T28 => ?_
  refine def_x 29 T28 (by kernel_rfl) (by kernel_rfl) (by decide +kernel) fun a29 t29 e29 f29 s29 h29 g29 T29 => ?_
  refine def_x 30 T29 (by kernel_rfl) (by kernel_rfl) (by decide +kernel) fun a30 t30 e30 f30 s30 h30 g30 T30 => ?_
  refine def_x 31 T30 (by kernel_rfl) (by kernel_rfl) (by decide +kernel) fun a31 t31 e31 f31 s31 h31 g31 T31 => ?_
  obtain ⟨n, l, ln, T, _⟩ := T31
  rw [fin_es h6 h7 h8 h9 h10 h11 h12 h13 h14 h15 h16 h17 h18 h19 h20 h21 h22 h23 h24 h25 h26 h27 h28 h29 h30 h31, fin_fs rfl g7 g8 g9 g11 g12 g14 g16 g17 g18 g19 g21 g22 g23 g25 g26 g27 g28 g29 g30 g31] at T
  exact wpAny_execs_nil ⟨rfl, ⟨t6, a6, t7, a7, t8, a8, t9, a9, t10, v10, t11, a11, t12, a12, t13, v13, t14, a14, t15, v15, t16, a16, t17, a17, t18, a18, t19, a19, t20, v20, t21, a21, t22, a22, t23, a23, t24, v24, t25, a25, t26, a26, t27, a27, t28, a28, t29, a29, t30, a30, t31, a31⟩, ⟨_, _, _, _, T, ⟨htab, hne⟩, hkeep, hsz, hb1⟩⟩
end
end Mine
end Top8_part
section Top9_part
open PySem PySem.W PySem.Calls PyProof.Rows
set_option Elab.async false
set_option maxRecDepth 100000
set_option maxHeartbeats 0
namespace Mine
structure EndTop (w : World) (os : OsState) (s : Shared) : Prop where
  fin : ∃ b6 G, F6 w os b6 ∧ FinTop w os b6.heap G s
theorem wp_body (w : World) (os : OsState) (p q : Pos) :
    Sem.wp (model pw w) (ctxB q) (execs pw.main.body envB) (fun f _ s' => f = .next ∧ EndTop w os s') (fun _ _ _ => False) p (S1 w os) := by
  rw [rest_eq, execs_append, Sem.wp_bind']
  refine Sem.wp_mono _ _ _ (fun f p' s' h => ?_) (fun _ _ _ h => h) _ _ (wp_six w os p q)
  obtain ⟨rfl, F⟩ := h
  dsimp only
  exact Sem.wp_mono _ _ _ (fun f p'' s'' h => ⟨h.1, let ⟨G, g⟩ := h.2; ⟨s', G, F, g⟩⟩) (fun _ _ _ h => h) _ _ (rest_top (E := fun _ _ => False) s' F (ctxB q) p' (ctxB_in q))
theorem bs_pure : blockStart pw.main.body envB = pure () := by
  unfold blockStart
  rw [show hasAnns pw.main.body = false by kernel_rfl, show interactive envB = false by kernel_rfl, show docOf pw.main.body = none by kernel_rfl]
  rfl
theorem behind_eq : behindTheImports pw = pw.main.body := by kernel_rfl
theorem top_wp (w : World) (os : OsState) : Sem.wp (model pw w) ⟨cCaller, none, none, [], none⟩ (topStub pw).cur
    (Sem.finPost (model pw w) ⟨cCaller, none, none, [], none⟩ fun r s' => (∃ f, r = .ok f) ∧ s'.gens = #[] ∧ EndTop w os s') (fun _ _ _ => False) default (S0 w os) := by
  unfold topStub
  rw [behind_eq]
  dsimp only
  rw [Sem.wp_bind']
  have h0 := wp_pre w os (fun code fr p s => Sem.wp (model pw w) ctxC (do
      let _ ← run (.body pw.main.body { scope := pw.main.scope, locals := mainNs, globals := mainNs, cells := [], code, frame := some fr })
      ret .none) (Sem.finPost (model pw w) ctxC fun r s' => (∃ f, r = .ok f) ∧ s'.gens = #[] ∧ EndTop w os s') (fun _ _ _ => False) p s) ?_
  · refine Sem.wp_mono _ _ _ (fun code p s h => ?_) (fun _ _ _ h => h) _ _ h0
    rw [Sem.wp_bind']
    exact Sem.wp_mono _ _ _ (fun fr p s h => h) (fun _ _ _ h => h.elim) _ _ h
  · intro p
    rw [Sem.wp_bind', Sem.wp_run, wpCode_iff_wp]
    show Sem.wp (model pw w) (ctxB p) (do blockStart pw.main.body envB; let f ← (execs pw.main.body envB).onRaise (leaving envB); return Fin.done f) _ _ p (S1 w os)
    rw [bs_pure, pure_bind, Sem.wp_bind', Sem.wp_onRaise]
    refine Sem.wp_mono _ _ _ (fun f p' s' h => ?_) (fun _ _ _ h => h.elim) _ _ (wp_body w os p p)
    obtain ⟨rfl, h⟩ := h
    obtain ⟨b6, G, F, ⟨base, n, l, ln, T, r⟩⟩ := id h.fin
    exact ⟨⟨_, rfl⟩, T.gens, h⟩
end Mine
end Top9_part
section Top10_part
open PySem PySem.W PySem.Calls PyProof.Rows
set_option Elab.async false
set_option maxRecDepth 100000
set_option maxHeartbeats 0
namespace Mine
theorem acc_congr {h h' : Heap} {m : List Str} (e : h.get? cStatics = h'.get? cStatics) : h.accountedOkI m = h'.accountedOkI m := by
  unfold Heap.accountedOkI Heap.isNs Heap.nsKeys Heap.nsMap
  rw [e]
theorem stat_congr {h₀ h h' : Heap} {m : List Str} (e : h.get? cStatics = h'.get? cStatics) : staticsOk m h₀ h = staticsOk m h₀ h' := by
  unfold staticsOk Heap.isNs Heap.nsKeys Heap.nsMap
  rw [e]
theorem bound_congr {p : Program} {h h' : Heap} (e : h.get? mainGlobals = h'.get? mainGlobals) : namesBound p h = namesBound p h' := by
  unfold namesBound Heap.isNs Heap.nsKeys
  rw [e]
theorem laid_congr {h₀ h h' : Heap} (e : h.get? mainGlobals = h'.get? mainGlobals) : laidKept h₀ h = laidKept h₀ h' := by
  unfold laidKept Heap.isNs Heap.nsMap
  rw [e]
noncomputable def hp2 (P : Params) : Heap := (((({} : Heap).push default).push default).push (o2 P)).push default
noncomputable def hp3 (G : Glo) (w : World) (n : Nat) : Heap := (((({} : Heap).push default).push default).push default).push (dictOf (G.e31 w) n)
theorem boot_pw (w : World) : (importEnds treeTable (opening pw) w 600 (start (opening pw)).1 (start (opening pw)).2).map (fun s => (s.heap, s.gens, s.drawn, s.toks)) = some (boot_heap w.params, #[], boot_drawn, boot_toks) := by kernel_rfl
theorem fence_eq (s : Shared) : fenceModules? pw s = some s := by kernel_rfl
theorem mods_eq : importedModules pw.main.body = [] := by kernel_rfl
theorem acc2 (P : Params) : (hp2 P).accountedOkI [] = true := by kernel_rfl
theorem stat2 (P : Params) : staticsOk [] (boot_heap P) (hp2 P) = true := by kernel_rfl
theorem bound3 (G : Glo) (w : World) (n : Nat) : namesBound pw (hp3 G w n) = true := by kernel_rfl
theorem laid3 (G : Glo) (w : World) (n : Nat) : laidKept (boot_heap w.params) (hp3 G w n) = true := by kernel_rfl
theorem get2 (P : Params) : (hp2 P).get? cStatics = some (o2 P) := by kernel_rfl
theorem get3 (G : Glo) (w : World) (n : Nat) : (hp3 G w n).get? mainGlobals = some (dictOf (G.e31 w) n) := by kernel_rfl
end Mine
end Top10_part
section Top11_part
open PySem PySem.W PySem.Calls PyProof.Rows
set_option Elab.async false
set_option maxRecDepth 100000
set_option maxHeartbeats 0
namespace Mine
theorem bltView_congr {h h' : Heap} (e : h.get? builtinsNs = h'.get? builtinsNs) : h.bltView = h'.bltView := by
  unfold Heap.bltView Heap.nsPairs
  rw [e]
theorem blt_boot (P : Params) : (boot_heap P).bltView = bltViewBooted := by kernel_rfl
theorem EndTop.two {w : World} {os : OsState} {s : Shared} (T : EndTop w os s) : s.heap.get? 2 = some (o2 w.params) := by
  obtain ⟨b6, G, F, ⟨base, n, l, ln, T, _, hk, _, _⟩⟩ := T.fin
  exact T.keep 2 _ (by decide) (by decide) (hk 2 _ (by decide) (by decide) (F.at 0 rfl rfl))
theorem EndTop.old {w : World} {os : OsState} {s : Shared} (T : EndTop w os s) {b : Addr} {o : Obj} (hb : (boot_heap w.params).get? b = some o) (h2 : b ≠ 2) (h3 : b ≠ 3) : s.heap.get? b = some o := by
  obtain ⟨b6, G, F, ⟨base, n, l, ln, T, _, hk, _, _⟩⟩ := T.fin
  have h12 : b ≠ 12 := by
    have : b < 11 := Nat.lt_of_lt_of_le (Heap.lt_size hb) (Nat.le_of_eq (by rfl))
    intro e; subst e; revert this; decide
  exact T.keep b _ h3 h12 (hk b _ h3 h12 (F.keep hb h2 h3))
theorem boot_z (w : World) : ∃ s, AfterRun (opening pw) w s := by
  obtain ⟨s, h, _⟩ := Option.map_eq_some_iff.mp (boot_pw w)
  rw [← table_eq_tree] at h
  exact ⟨s, AfterImport.of_importEnds h⟩
theorem behind (w : World) (s : Shared) (hs : AfterRun (opening pw) w s) : ∃ s₀, fenceModules? pw s = some s₀ ∧ s₀.gens = #[] ∧ ∃ s₁, TopRan pw w s₀ s₁ ∧ s₁.asleep ∧ s₁.gens = #[] ∧ EndTop w s₁.os s₁ := by
  obtain ⟨s', h, hv⟩ := Option.map_eq_some_iff.mp (boot_pw w)
  rw [← table_eq_tree] at h
  have A := AfterImport.of_importEnds h
  obtain rfl : s = s' := AfterImport.unique hs A
  simp only [Prod.mk.injEq] at hv
  obtain ⟨v1, v2, v3, v4⟩ := hv
  have hS : s = S0 w s.os := by
    unfold S0
    rw [← v1, ← v2, ← v3, ← v4]
  have z : s.asleep := Shared.asleep_of_life (fence_lifeW (fence_eq s)) A.life
  refine ⟨s, fence_eq s, v2, ?_⟩
  have tw := top_wp w s.os
  rw [← hS] at tw
  obtain ⟨n, t', s₁, hrun, hthr, T, hg, hlife⟩ := top_reach z tw
  have hos : s₁.os = s.os := by
    obtain ⟨b6, G, F, ⟨base, n, l, ln, T, _⟩⟩ := T.fin
    exact T.os
  have h2 : s₁.heap.get? cStatics = (hp2 w.params).get? cStatics := T.two.trans (get2 _).symm
  obtain ⟨b6, G, F, ⟨base, n3, l, ln, T3, _⟩⟩ := id T.fin
  have e3 : s₁.heap.get? mainGlobals = (hp3 G w n3).get? mainGlobals := T3.dict.trans (get3 G w n3).symm
  refine ⟨s₁, ⟨⟨n, t', hrun, hthr⟩, hlife, Shared.rest_eq hos, fun b o hb hn => ?_, ?_, ?_, ?_, ?_, ?_, ?_, ?_, ?_⟩, Shared.asleep_of_life hlife z, hg, hos ▸ T⟩
  · rw [hS] at hb
    exact T.old hb (fun q => hn (.inr (.inl q))) (fun q => hn (.inl q))
  · rw [mods_eq]
    exact Heap.accountedI_of_ok ((acc_congr h2).trans (acc2 _))
  · rw [mods_eq]
    refine statics_of_ok ((stat_congr h2).trans ?_)
    rw [v1]
    exact stat2 _
  · exact ⟨_, _, _, T3.dict, rfl, fun e he => T3.keys e (by simpa using he)⟩
  · have hb := (T.old (blt_at _) (by decide) (by decide))
    have hi : s₁.heap.isNs builtinsNs = true := by
      unfold Heap.isNs
      rw [show s₁.heap.get? builtinsNs = _ from hb]
      kernel_rfl
    exact fun x hx => (Pin.builtinOf_eq hi x).trans (Heap.of_bltView hi ((bltView_congr (hb.trans (blt_at _).symm)).trans (blt_boot _)) x hx)
  · refine ⟨4, _, ?_, T3.mod4, rfl, rfl⟩
    unfold globalOf
    rw [show s₁.heap.get? mainNs = _ from T3.dict]
    have := T3.bi
    unfold lookE at this
    rw [← this]
    show Option.map (fun x => x.val) (Array.find? _ (G.e31 w).toArray) = _
    rw [List.find?_toArray]
  · rw [hg]
    intro g h; simp at h
  · exact names_of_bound ((bound_congr e3).trans (bound3 G w n3))
  · refine laid_of_kept ((laid_congr e3).trans ?_)
    rw [v1]
    exact laid3 G w n3
end Mine
end Top11_part
section Dat_part
open PySem PySem.W PySem.Calls PyProof.Rows
set_option Elab.async false
set_option maxRecDepth 100000
set_option maxHeartbeats 0
namespace Mine
/-- what the law builds -/
inductive T where
  | byt (b : Array UInt8)
  | ba (b : Array UInt8)
  | lst (xs : List T)
  | tup (xs : List T)
  | non
  | boo (b : Bool)
  | num (i : Int)
noncomputable abbrev listO (vs : Array Value) (ep : Nat) : Obj := ⟨.type "list", none, .seq vs ep, #[]⟩
noncomputable abbrev tupO (vs : Array Value) (ep : Nat) : Obj := ⟨.type "tuple", none, .seq vs ep, #[]⟩
noncomputable abbrev baO (b : Array UInt8) : Obj := ⟨.type "bytearray", none, .bytearray b, #[]⟩
mutual
noncomputable def Has (V : View) : T → Value → Prop
  | .byt b, v => b.size ≤ 1000 ∧ ∃ tk, v = .bytes b tk
  | .ba b, v => b.size ≤ 1000 ∧ ∃ a, v = .ref a ∧ V a = some (baO b)
  | .lst xs, v => ∃ a vs ep, v = .ref a ∧ V a = some (listO vs ep) ∧ vs.size ≤ 1000 ∧ HasAll V xs vs.toList
  | .tup xs, v => ∃ a vs ep, v = .ref a ∧ V a = some (tupO vs ep) ∧ vs.size ≤ 1000 ∧ HasAll V xs vs.toList
  | .non, v => v = .none
  | .boo b, v => v = .bool b
  | .num i, v => ∃ tk, v = .int i tk
noncomputable def HasAll (V : View) : List T → List Value → Prop
  | [], [] => True
  | x :: xs, v :: vs => Has V x v ∧ HasAll V xs vs
  | _, _ => False
end
mutual
theorem Has.mono {V W : View} (h : VLe V W) : ∀ (t : T) (v : Value), Has V t v → Has W t v
  | .byt b, v, x => by unfold Has at x ⊢; exact x
  | .ba b, v, x => by unfold Has at x ⊢; obtain ⟨z, a, e, y⟩ := x; exact ⟨z, a, e, h _ _ y⟩
  | .lst xs, v, x => by unfold Has at x ⊢; obtain ⟨a, vs, ep, e, y, z, r⟩ := x; exact ⟨a, vs, ep, e, h _ _ y, z, HasAll.mono h xs _ r⟩
  | .tup xs, v, x => by unfold Has at x ⊢; obtain ⟨a, vs, ep, e, y, z, r⟩ := x; exact ⟨a, vs, ep, e, h _ _ y, z, HasAll.mono h xs _ r⟩
  | .non, v, x => by unfold Has at x ⊢; exact x
  | .boo b, v, x => by unfold Has at x ⊢; exact x
  | .num i, v, x => by unfold Has at x ⊢; exact x
theorem HasAll.mono {V W : View} (h : VLe V W) : ∀ (ts : List T) (vs : List Value), HasAll V ts vs → HasAll W ts vs
  | [], [], _ => by unfold HasAll; trivial
  | [], _ :: _, x => by unfold HasAll at x; exact x.elim
  | _ :: _, [], x => by unfold HasAll at x; exact x.elim
  | t :: ts, v :: vs, x => by unfold HasAll at x ⊢; exact ⟨Has.mono h t v x.1, HasAll.mono h ts vs x.2⟩
end
theorem HasAll.length {V : View} : ∀ {ts : List T} {vs : List Value}, HasAll V ts vs → vs.length = ts.length
  | [], [], _ => rfl
  | [], _ :: _, x => by unfold HasAll at x; exact x.elim
  | _ :: _, [], x => by unfold HasAll at x; exact x.elim
  | t :: ts, v :: vs, x => by unfold HasAll at x; simp [x.2.length]
theorem HasAll.get {V : View} : ∀ {ts : List T} {vs : List Value}, HasAll V ts vs → ∀ (i : Nat) v, vs[i]? = some v → ∃ t, ts[i]? = some t ∧ Has V t v
  | [], [], _, i, v, e => by simp at e
  | [], _ :: _, x, _, _, _ => by unfold HasAll at x; exact x.elim
  | _ :: _, [], x, _, _, _ => by unfold HasAll at x; exact x.elim
  | t :: ts, w :: vs, x, i, v, e => by
    unfold HasAll at x
    cases i with
    | zero => simp at e; subst e; exact ⟨t, rfl, x.1⟩
    | succ i => simpa using x.2.get i v (by simpa using e)
theorem HasAll.of_get {V : View} : ∀ {ts : List T} {vs : List Value}, vs.length = ts.length → (∀ (i : Nat) t v, ts[i]? = some t → vs[i]? = some v → Has V t v) → HasAll V ts vs
  | [], [], _, _ => by unfold HasAll; trivial
  | [], _ :: _, x, _ => by simp at x
  | _ :: _, [], x, _ => by simp at x
  | t :: ts, w :: vs, x, h => by
    unfold HasAll
    exact ⟨h 0 t w rfl rfl, HasAll.of_get (by simpa using x) fun i t' v' h1 h2 => h (i + 1) t' v' (by simpa using h1) (by simpa using h2)⟩
theorem HasAll.snoc {V : View} : ∀ {ts : List T} {vs : List Value} {t : T} {v : Value}, HasAll V ts vs → Has V t v → HasAll V (ts ++ [t]) (vs ++ [v])
  | [], [], _, _, _, h => by simp only [List.nil_append]; unfold HasAll; exact ⟨h, by unfold HasAll; trivial⟩
  | [], _ :: _, _, _, x, _ => by unfold HasAll at x; exact x.elim
  | _ :: _, [], _, _, x, _ => by unfold HasAll at x; exact x.elim
  | t :: ts, w :: vs, _, _, x, h => by
    unfold HasAll at x
    simp only [List.cons_append]
    unfold HasAll
    exact ⟨x.1, HasAll.snoc x.2 h⟩

/-- a list or a tuple -/
inductive IsSeq (h : Heap) (a : Addr) (vs : Array Value) : Prop
  | l (ep : Nat) (e : h.get? a = some (listO vs ep))
  | t (ep : Nat) (e : h.get? a = some (tupO vs ep))
theorem IsSeq.lt {h : Heap} {a : Addr} {vs : Array Value} (x : IsSeq h a vs) : a < h.objs.size := by
  cases x with
  | l ep e => exact Heap.lt_size e
  | t ep e => exact Heap.lt_size e
section
variable {prog : Program} {w : World} {A : Around} {E : Value → Shared → Prop} {s : Shared}
theorem seq_src {a : Addr} {vs : Array Value} (hh : A.handled = none) (x : IsSeq s.heap a vs) {Q : Value → Shared → Prop}
    (h : ∀ o St, (∀ i h, St i h → ∃ o, h.get? s.heap.objs.size = some o) → Walks prog w A s.heap.objs.size [s.heap.objs.size, a] [s.heap.objs.size] vs.size (fun i v => vs[i]? = some v) St → St 0 (s.heap.push o) → (s.heap.push o).get? s.heap.objs.size = some o → Q (.ref s.heap.objs.size) { s with heap := s.heap.push o }) :
    wpAny (model prog w) A (pyIter (.ref a)) Q E s := by
  have hne : a ≠ s.heap.objs.size := Nat.ne_of_lt x.lt
  cases x with
  | l ep e =>
    refine wpAny_pyIter_list ⟨_, e, rfl, ep, rfl⟩ (h _ _ ?_ (Walks.list hh _ a hne vs) ⟨⟨_, Heap.get?_push_size _ rfl, rfl, rfl⟩, ⟨_, Heap.get?_push_of_some _ e, rfl, ep, rfl⟩⟩ (Heap.get?_push_size _ rfl))
    rintro i h' ⟨⟨o, ho, _⟩, _⟩
    exact ⟨o, ho⟩
  | t ep e =>
    refine wpAny_pyIter_tuple ⟨_, e, rfl, ep, rfl⟩ (h _ _ ?_ (Walks.tuple hh _ a hne vs) ⟨⟨_, Heap.get?_push_size _ rfl, rfl, rfl⟩, ⟨_, Heap.get?_push_of_some _ e, rfl, ep, rfl⟩⟩ (Heap.get?_push_size _ rfl))
    rintro i h' ⟨⟨o, ho, _⟩, _⟩
    exact ⟨o, ho⟩
/-- a list comprehension over a list or a tuple -/
theorem comp_seq {elt iter : Expr} {x : Str} {px : Pos} {scope : Scope} {pos : Pos} {env : Env} {a : Addr} {vs : Array Value} {V₀ : View} {R : Nat → View → Value → Prop} {Q : Value → Shared → Prop}
    (hh : A.handled = none) (hV₀ : VLe V₀ s.heap.get?) (hsrc : IsSeq s.heap a vs) (hiter : ∀ Q' : Value → Shared → Prop, Q' (.ref a) s → wpAny (model prog w) A (eval iter env) Q' E s)
    (hmono : ∀ i V V' y, VLe V V' → R i V y → R i V' y) (hfree : ∀ x ∈ scope.names, x.2 ≠ .free) (hcell : ∀ y ∈ scope.names, y.2 ≠ .cell) (hkind : scope.kind = .function)
    (hnames : ∀ x ∈ scope.names, x.2 = .local → scope.names.lookup x.1 = some .local) (hx : scope.names.lookup x = some .local) (hsz : vs.size ≤ sizeLine)
    (helt : ∀ C i v s₂ m₂ V, vs[i]? = some v → s₂.heap.Ns C m₂ → m₂ x = some v → VLe V₀ V → VLe V s₂.heap.get? → V C = none →
      wpAny (model prog w) A (eval elt (compEnv scope C env)) (fun y s₃ => Keeps s₂ s₃ ∧ ∃ V', Ext V s₂.heap V' s₃.heap ∧ R i V' y) (fun _ _ => False) s₂)
    (hQ : ∀ D s' V' ys ep, Keeps s s' → Ext V₀ s.heap V' s'.heap → V' D = some (listO ys ep) → s.heap.get? D = none → ys.size = vs.size → (∀ i y, ys[i]? = some y → R i V' y) → Q (.ref D) s')
    (hs : ∀ x, foldedSetIterable iter env x = pure x := by intro _; rfl) :
    wpAny (model prog w) A (eval (.ListComp elt [⟨.Name x px, iter, [], 0⟩] scope pos) env) Q E s := by
  refine wpAny_ListComp hfree hkind hnames (hiter _ (seq_src hh hsrc fun o St hlive W hst ho => ?_)) hs
  have hup : ∀ b o', s.heap.get? b = some o' → (s.heap.push o).get? b = some o' := fun b o' e => Heap.get?_push_of_some _ e
  have hIn : s.heap.get? s.heap.objs.size = none := Heap.get?_none_of_le (by simp)
  refine comp_restV (env := env) (V₀ := V₀) (R := R) W hmono ?_ ?_ hcell hkind hx hst (fun b o e => hup b o (hV₀ b o e)) ?_ ?_ ?_ hsz
  · intro i h st b hb
    rw [List.mem_singleton.mp hb]
    exact hlive i h st
  · intro b hb
    rcases List.mem_cons.mp hb with rfl | hb
    · exact ⟨_, ho⟩
    · rw [List.mem_singleton.mp hb]
      cases hsrc with
      | l ep e => exact ⟨_, hup _ _ e⟩
      | t ep e => exact ⟨_, hup _ _ e⟩
  · intro b hb
    rw [List.mem_singleton.mp hb]
    cases q : V₀ s.heap.objs.size with
    | none => rfl
    | some o' => have := hV₀ _ _ q; rw [hIn] at this; cases this
  · intro C i v s₂ m₂ V hi hP hn hm hV0 hV hC
    exact helt C i v s₂ m₂ V hP hn hm hV0 hV hC
  · rintro D s' V' ys ep ⟨h', tk, rfl⟩ hkeep hD hE hVD hsz hR
    refine hQ D _ V' ys ep ⟨h', tk, rfl, fun b o' e => hkeep b o' ?_ (hup b o' e)⟩ ⟨hE.le, hE.at', fun b o' e => ?_⟩ hVD ?_ hsz hR
    · intro hb
      rw [List.mem_singleton.mp hb, hIn] at e
      cases e
    · rcases hE.new b o' e with e' | e'
      · exact .inl e'
      · refine .inr ?_
        cases q : s.heap.get? b with
        | none => rfl
        | some o'' => rw [hup b o'' q] at e'; cases e'
    · cases q : s.heap.get? D with
      | none => rfl
      | some o'' => rw [hup D o'' q] at hD; cases hD
/-- the same, its list bound to a name -/
theorem assign_comp_seq {elt iter : Expr} {x y : Str} {px py : Pos} {scope : Scope} {pos spos : Pos} {env : Env} {a : Addr} {vs : Array Value} {V₀ : View} {R : Nat → View → Value → Prop} {Q : Flow → Shared → Prop} {m : Str → Option Value}
    (hsw : swapsWith (.ListComp elt [⟨.Name x px, iter, [], 0⟩] scope pos) (some (.Name y py)) spos.line env = pure true)
    (hh : A.handled = none) (hV₀ : VLe V₀ s.heap.get?) (hsrc : IsSeq s.heap a vs) (hiter : ∀ Q' : Value → Shared → Prop, Q' (.ref a) s → wpAny (model prog w) A (eval iter env) Q' E s)
    (hmono : ∀ i V V' y, VLe V V' → R i V y → R i V' y) (hfree : ∀ x ∈ scope.names, x.2 ≠ .free) (hcell : ∀ y ∈ scope.names, y.2 ≠ .cell) (hkind : scope.kind = .function)
    (hnames : ∀ x ∈ scope.names, x.2 = .local → scope.names.lookup x.1 = some .local) (hx : scope.names.lookup x = some .local) (hsz : vs.size ≤ sizeLine)
    (hy : env.kindOf y = some .local) (hp : (env.scope.kind == .class || (env.scope.kind == .module && env.locals != env.globals)) = false)
    (hn : s.heap.Ns env.locals m) (hL : V₀ env.locals = none)
    (helt : ∀ C i v s₂ m₂ V, vs[i]? = some v → s₂.heap.Ns C m₂ → m₂ x = some v → VLe V₀ V → VLe V s₂.heap.get? → V C = none →
      wpAny (model prog w) A (eval elt (compEnv scope C env)) (fun y s₃ => Keeps s₂ s₃ ∧ ∃ V', Ext V s₂.heap V' s₃.heap ∧ R i V' y) (fun _ _ => False) s₂)
    (hQ : ∀ D h' tk V' ys ep, h'.Ns env.locals (fun z => if z = y then some (.ref D) else m z) → (∀ b o, b ≠ env.locals → s.heap.get? b = some o → h'.get? b = some o) → Ext V₀ s.heap V' h' → V' D = some (listO ys ep) → s.heap.get? D = none →
      ys.size = vs.size → (∀ i y, ys[i]? = some y → R i V' y) → Q .next { s with heap := h', toks := tk })
    (hs : ∀ x, foldedSetIterable iter env x = pure x := by intro _; rfl) :
    wpAny (model prog w) A (exec (.Assign [.Name y py] (.ListComp elt [⟨.Name x px, iter, [], 0⟩] scope pos) spos) env) Q E s := by
  rw [exec_Assign_Name_used _ _ _ _ hsw]
  refine wpAny_bind (wpAny_standAt (wpAny_bind ?_))
  show wpAny _ A (do let _ ← comprehension (.ListComp elt [⟨.Name x px, iter, [], 0⟩] scope pos) scope env _ (newList []) false (eval iter env) (some (assign (.Name y py) env))) _ _ s
  refine wpAny_bind (wpAny_mono (wpAny_comprehension_use (Q := fun _ s' => Q .next s') rfl hs hfree hkind hnames (hiter _ (seq_src hh hsrc fun o St hlive W hst ho => ?_)))
    (fun _ s' hq => wpAny_pure (wpAny_pure hq)) fun _ _ e => e)
  have hup : ∀ b o', s.heap.get? b = some o' → (s.heap.push o).get? b = some o' := fun b o' e => Heap.get?_push_of_some _ e
  have hIn : s.heap.get? s.heap.objs.size = none := Heap.get?_none_of_le (by simp)
  have hdn : ∀ b, (s.heap.push o).get? b = none → s.heap.get? b = none := fun b q => by
    cases e : s.heap.get? b with
    | none => rfl
    | some o'' => rw [hup b o'' e] at q; cases q
  refine comp_blockV (env := env) (V₀ := V₀) (R := R) (RR := fun acc cenv r s' => match r with
      | .ok _ => wpAny (model prog w) A (assign (.Name y py) env acc) (fun _ s'' => ∃ m, s''.heap.Ns cenv.locals m ∧ ∀ h', Heap.SameBut cenv.locals s''.heap h' → Q .next { s'' with heap := h' }) E s'
      | .error x => ∃ m, s'.heap.Ns cenv.locals m ∧ ∀ h', Heap.SameBut cenv.locals s'.heap h' → wpAny (model prog w) A (passOn "comprehension.variables-let-go" x cenv) (fun _ s' => Q .next s') E { s' with heap := h' })
      W hmono ?_ ?_ hcell hkind hx hst (fun b o e => hup b o (hV₀ b o e)) ?_ ?_ ?_ hsz
  · intro i h st b hb
    rw [List.mem_singleton.mp hb]
    exact hlive i h st
  · intro b hb
    rcases List.mem_cons.mp hb with rfl | hb
    · exact ⟨_, ho⟩
    · rw [List.mem_singleton.mp hb]
      cases hsrc with
      | l ep e => exact ⟨_, hup _ _ e⟩
      | t ep e => exact ⟨_, hup _ _ e⟩
  · intro b hb
    rw [List.mem_singleton.mp hb]
    cases q : V₀ s.heap.objs.size with
    | none => rfl
    | some o' => have := hV₀ _ _ q; rw [hIn] at this; cases this
  · intro C i v s₂ m₂ V hi hP hn hm hV0 hV hC
    exact helt C i v s₂ m₂ V hP hn hm hV0 hV hC
  · intro D C h' tk m' V' ys ep hD hC hDC hnC hk hE hVC hVD hz hR
    dsimp only
    have hkk : ∀ b o', s.heap.get? b = some o' → h'.get? b = some o' := fun b o' e => hk b o' (fun hb => by rw [List.mem_singleton.mp hb, hIn] at e; cases e) (hup b o' e)
    obtain ⟨oL, _, _, hoL, _⟩ := id hn
    have hLC : env.locals ≠ C := by rintro rfl; rw [hdn _ hC] at hoL; cases hoL
    have hLD : env.locals ≠ D := by rintro rfl; rw [hdn _ hD] at hoL; cases hoL
    have hVL : V' env.locals = none := hE.off (hup _ _ hoL) hL
    refine wpAny_assign_Name (wpAny_storeName_local hy (hn.keeps hkk) (fun h₂ hn₂ hs₂ => ?_) hp)
    refine ⟨m', hnC.sameBut hs₂ (Ne.symm hLC), fun h₃ hs₃ => ?_⟩
    have up : ∀ b o, V' b = some o → h₃.get? b = some o := fun b o e => hs₃.extBut b o (fun h => by rw [h, show V' (compEnv scope C env).locals = none from hVC] at e; cases e) (hs₂.extBut b o (fun h => by rw [h, hVL] at e; cases e) (hE.at' b o e))
    refine hQ D h₃ _ V' ys ep (hn₂.sameBut hs₃ hLC) (fun b o hbL e => hs₃.extBut b o (fun h => ?_) (hs₂.extBut b o hbL (hkk b o e))) ⟨hE.le, up, fun b o' e => ?_⟩ hVD (hdn _ hD) hz hR
    · rw [h, show s.heap.get? (compEnv scope C env).locals = none from hdn _ hC] at e
      cases e
    · rcases hE.new b o' e with e' | e'
      · exact .inl e'
      · exact .inr (hdn _ e')
end
end Mine
end Dat_part
section Leaf2_part
open PySem PySem.W PySem.W.X PySem.Calls PyProof.Rows
set_option Elab.async false
set_option maxRecDepth 100000
set_option maxHeartbeats 0
namespace Mine
noncomputable def T.isB : T → Bool
  | .byt _ | .ba _ => true
  | _ => false
noncomputable def T.isS : T → Bool
  | .lst _ | .tup _ => true
  | _ => false
section
variable {prog : Program} {w : World} {h : Heap} {g : Array GenState} {d : Drawn} {tk : Nat} {os : OsState} {V : View} {v : Value}
theorem isi_two {s : Shared} {x : Value} {Tx : String} {tp : Addr} {cs : List Value} {vs : List Bool} (ha : AnswersAll (fun s => s.TypeIs x Tx) x cs vs) (hx : s.TypeIs x Tx) (hp : s.heap.get? tp = some ⟨.type "tuple", none, .seq cs.toArray 0, #[]⟩) :
    wpAny (model prog w) Amax (call (.builtin "isinstance") [x, .ref tp]) (fun r s' => Keeps s s' ∧ r = .bool (vs.any id)) (fun _ _ => False) s :=
  call_isinstance (isinstance_tuple ha) ⟨hx, hp, fun _ => ⟨⟨_, _, rfl, fun _ _ e => e⟩, rfl⟩⟩
theorem ans_by {b : Array UInt8} {t : Tok} {T : String} (hne : (Value.type "bytes" == Value.type T) = false) (hty : typeOf (.type T) = pure (.type "type")) (hsub : isSubtype (.type "bytes") (.type T) = pure false) :
    Answers (fun s => s.TypeIs (.bytes b t) "bytes") (.bytes b t) (.type T) false :=
  fun _ _ _ _ _ _ s hs => by
    obtain ⟨h, g, d, t, os⟩ := s
    exact PySem.isinstance_nested_false_bytes hne hty hsub (hs.2 (t + 1))
section
open PySem.F
theorem isi_bb {p : Addr} (hV : VLe V h.get?) (hp : h.get? p = some ⟨.type "tuple", none, .seq #[.type "bytes", .type "bytearray"] 0, #[]⟩) : ∀ t : T, Has V t v →
    wpAny (model prog w) Amax (call (.builtin "isinstance") [v, .ref p]) (fun r s' => Keeps ⟨h, g, d, tk, os⟩ s' ∧ r = .bool t.isB) (fun _ _ => False) ⟨h, g, d, tk, os⟩ := by
  intro t H
  cases t with
  | byt b => unfold Has at H; obtain ⟨_, t0, rfl⟩ := H; exact isi_two (s := ⟨h, g, d, tk, os⟩) (cs := [.type "bytes", .type "bytearray"]) (vs := [true, false]) ⟨Answers.of_true isi_meta_bytes PySem.F.sub_bytes_bytes, ans_by (by decide +kernel) isi_meta_bytearray PySem.F.sub_bytes_bytearray, trivial⟩ (PySem.W.typeIs_bytes _ _ _) hp
  | ba b => unfold Has at H; obtain ⟨_, a, rfl, e⟩ := H; have e : h.get? a = some ⟨.type "bytearray", none, .bytearray b, #[]⟩ := hV _ _ e; x_run
  | lst xs => unfold Has at H; obtain ⟨a, vs, ep, rfl, e, _⟩ := H; exact isi_two (s := ⟨h, g, d, tk, os⟩) (cs := [.type "bytes", .type "bytearray"]) (vs := [false, false]) ⟨Answers.of_false_list (by decide +kernel) isi_meta_bytes PySem.F.sub_list_bytes, Answers.of_false_list (by decide +kernel) isi_meta_bytearray PySem.F.sub_list_bytearray, trivial⟩ ⟨_, hV _ _ e, rfl⟩ hp
  | tup xs => unfold Has at H; obtain ⟨a, vs, ep, rfl, e, _⟩ := H; exact isi_two (s := ⟨h, g, d, tk, os⟩) (cs := [.type "bytes", .type "bytearray"]) (vs := [false, false]) ⟨Answers.of_false_tuple (by decide +kernel) isi_meta_bytes PySem.F.sub_tuple_bytes, Answers.of_false_tuple (by decide +kernel) isi_meta_bytearray PySem.F.sub_tuple_bytearray, trivial⟩ ⟨_, hV _ _ e, rfl⟩ hp
  | non => unfold Has at H; subst H; exact isi_two (s := ⟨h, g, d, tk, os⟩) (cs := [.type "bytes", .type "bytearray"]) (vs := [false, false]) ⟨Answers.of_false_none (by decide +kernel) isi_meta_bytes PySem.F.sub_NoneType_bytes, Answers.of_false_none (by decide +kernel) isi_meta_bytearray PySem.F.sub_NoneType_bytearray, trivial⟩ rfl hp
  | boo b => unfold Has at H; subst H; exact isi_two (s := ⟨h, g, d, tk, os⟩) (cs := [.type "bytes", .type "bytearray"]) (vs := [false, false]) ⟨Answers.of_false_bool (by decide +kernel) isi_meta_bytes PySem.F.sub_bool_bytes, Answers.of_false_bool (by decide +kernel) isi_meta_bytearray PySem.F.sub_bool_bytearray, trivial⟩ rfl hp
  | num i => unfold Has at H; obtain ⟨t0, rfl⟩ := H; exact isi_two (s := ⟨h, g, d, tk, os⟩) (cs := [.type "bytes", .type "bytearray"]) (vs := [false, false]) ⟨Answers.of_false_int (by decide +kernel) isi_meta_bytes PySem.F.sub_int_bytes, Answers.of_false_int (by decide +kernel) isi_meta_bytearray PySem.F.sub_int_bytearray, trivial⟩ rfl hp
theorem isi_lt {p : Addr} (hV : VLe V h.get?) (hp : h.get? p = some ⟨.type "tuple", none, .seq #[.type "list", .type "tuple"] 0, #[]⟩) : ∀ t : T, Has V t v →
    wpAny (model prog w) Amax (call (.builtin "isinstance") [v, .ref p]) (fun r s' => Keeps ⟨h, g, d, tk, os⟩ s' ∧ r = .bool t.isS) (fun _ _ => False) ⟨h, g, d, tk, os⟩ := by
  intro t H
  cases t with
  | byt b => unfold Has at H; obtain ⟨_, t0, rfl⟩ := H; exact isi_two (s := ⟨h, g, d, tk, os⟩) (cs := [.type "list", .type "tuple"]) (vs := [false, false]) ⟨ans_by (by decide +kernel) isi_meta_list PySem.F.sub_bytes_list, ans_by (by decide +kernel) isi_meta_tuple PySem.F.sub_bytes_tuple, trivial⟩ (PySem.W.typeIs_bytes _ _ _) hp
  | ba b => unfold Has at H; obtain ⟨_, a, rfl, e⟩ := H; have e : h.get? a = some ⟨.type "bytearray", none, .bytearray b, #[]⟩ := hV _ _ e; x_run
  | lst xs => unfold Has at H; obtain ⟨a, vs, ep, rfl, e, _⟩ := H; exact isi_two (s := ⟨h, g, d, tk, os⟩) (cs := [.type "list", .type "tuple"]) (vs := [true, false]) ⟨Answers.of_true isi_meta_list PySem.F.sub_list_list, Answers.of_false_list (by decide +kernel) isi_meta_tuple PySem.F.sub_list_tuple, trivial⟩ ⟨_, hV _ _ e, rfl⟩ hp
  | tup xs => unfold Has at H; obtain ⟨a, vs, ep, rfl, e, _⟩ := H; exact isi_two (s := ⟨h, g, d, tk, os⟩) (cs := [.type "list", .type "tuple"]) (vs := [false, true]) ⟨Answers.of_false_tuple (by decide +kernel) isi_meta_list PySem.F.sub_tuple_list, Answers.of_true isi_meta_tuple PySem.F.sub_tuple_tuple, trivial⟩ ⟨_, hV _ _ e, rfl⟩ hp
  | non => unfold Has at H; subst H; exact isi_two (s := ⟨h, g, d, tk, os⟩) (cs := [.type "list", .type "tuple"]) (vs := [false, false]) ⟨Answers.of_false_none (by decide +kernel) isi_meta_list PySem.F.sub_NoneType_list, Answers.of_false_none (by decide +kernel) isi_meta_tuple PySem.F.sub_NoneType_tuple, trivial⟩ rfl hp
  | boo b => unfold Has at H; subst H; exact isi_two (s := ⟨h, g, d, tk, os⟩) (cs := [.type "list", .type "tuple"]) (vs := [false, false]) ⟨Answers.of_false_bool (by decide +kernel) isi_meta_list PySem.F.sub_bool_list, Answers.of_false_bool (by decide +kernel) isi_meta_tuple PySem.F.sub_bool_tuple, trivial⟩ rfl hp
  | num i => unfold Has at H; obtain ⟨t0, rfl⟩ := H; exact isi_two (s := ⟨h, g, d, tk, os⟩) (cs := [.type "list", .type "tuple"]) (vs := [false, false]) ⟨Answers.of_false_int (by decide +kernel) isi_meta_list PySem.F.sub_int_list, Answers.of_false_int (by decide +kernel) isi_meta_tuple PySem.F.sub_int_tuple, trivial⟩ rfl hp
end
end
end Mine
end Leaf2_part
section Leaf3_part
open PySem PySem.W PySem.W.X PySem.Calls PyProof.Rows
set_option Elab.async false
set_option maxRecDepth 100000
set_option maxHeartbeats 20000000
namespace Mine
section
variable {prog : Program} {w : World} {h : Heap} {g : Array GenState} {d : Drawn} {tk : Nat} {os : OsState}
theorem bytes_of_bytes {b : Array UInt8} {t0 : Tok} : wpAny (model prog w) Amax (call (.type "bytes") [.bytes b t0]) (fun r s' => Keeps ⟨h, g, d, tk, os⟩ s' ∧ ∃ t', r = .bytes b t') (fun _ _ => False) ⟨h, g, d, tk, os⟩ := by
  x_run
theorem bytes_of_ba {b : Array UInt8} {a : Addr} (hz : b.size ≤ 100000) (ha : h.get? a = some ⟨.type "bytearray", none, .bytearray b, #[]⟩) : wpAny (model prog w) Amax (call (.type "bytes") [.ref a]) (fun r s' => Keeps ⟨h, g, d, tk, os⟩ s' ∧ ∃ t', r = .bytes b t') (fun _ _ => False) ⟨h, g, d, tk, os⟩ := by
  x_run
theorem len_bytes {b : Array UInt8} {t0 : Tok} (hz : b.size ≤ 100000) : wpAny (model prog w) Amax (call (.builtin "len") [.bytes b t0]) (fun r s' => Keeps ⟨h, g, d, tk, os⟩ s' ∧ ∃ t', r = .int b.size t') (fun _ _ => False) ⟨h, g, d, tk, os⟩ :=
  PySem.W.len_bytes (s := ⟨h, g, d, tk, os⟩) (by omega) ⟨⟨_, _, rfl, fun _ _ e => e⟩, _, rfl⟩
theorem len_ba {b : Array UInt8} {a : Addr} (hz : b.size ≤ 100000) (ha : h.get? a = some ⟨.type "bytearray", none, .bytearray b, #[]⟩) : wpAny (model prog w) Amax (call (.builtin "len") [.ref a]) (fun r s' => Keeps ⟨h, g, d, tk, os⟩ s' ∧ ∃ t', r = .int b.size t') (fun _ _ => False) ⟨h, g, d, tk, os⟩ := by
  x_run
end
end Mine
end Leaf3_part
section Fun_part
open PySem PySem.W PySem.Calls PyProof.Rows
set_option Elab.async false
set_option maxRecDepth 100000
set_option maxHeartbeats 0
namespace Mine
/-- the text's function k at a, with its code object -/
noncomputable def FnR (h : View) (k : Nat) (a : Addr) : Prop :=
  ∃ pm c doc dV vs dict cvs sl qt, h a = some { cls := .type "function", data := .func (defFd (fd k).name (fd k).name (fd k).params (fd k).body (fd k).scope mainGlobals dV .none none pm (.ref c) doc) } ∧
    ConstVals (fd k).params.defaults vs ∧ ((vs = [] ∧ dV = .none) ∨ (vs ≠ [] ∧ ∃ T, dV = .ref T ∧ h T = some { cls := .type "tuple", data := .seq vs.toArray })) ∧
    h c = some ⟨.type "code", dict, .fields cvs, sl⟩ ∧ cvs[1]? = some (.str (fd k).name qt)
theorem FnR.keeps {h h' : View} {k : Nat} {a : Addr} (F : FnR h k a) (hk : ∀ b o, o.cls ≠ .none → h b = some o → h' b = some o) : FnR h' k a := by
  obtain ⟨pm, c, doc, dV, vs, dict, cvs, sl, qt, h1, h2, h3, h4, h5⟩ := F
  refine ⟨pm, c, doc, dV, vs, dict, cvs, sl, qt, hk _ _ (by simp) h1, h2, h3.imp id fun ⟨z, T, e, g⟩ => ⟨z, T, e, hk _ _ (by simp) g⟩, hk _ _ (by simp) h4, h5⟩
theorem FnAt.toR {h : Heap} {k : Nat} {a : Addr} (F : FnAt h k a) : FnR h.get? k a := by
  obtain ⟨pm, c, doc, dV, vs, P', h1, h2, h3, h4, h5, h6, _⟩ := F.ex
  obtain ⟨⟨⟨cls, dict, dat, sl⟩, cvs, t1, t2, t3, t4⟩, t5⟩ := h6
  obtain ⟨c₂, o₂, vs₂, t₂, e₂, g₂, r₂, r₃⟩ := h4
  cases e₂
  dsimp only at t2 t3
  subst t2 t3
  rw [t1] at g₂
  cases g₂
  cases r₂
  refine ⟨pm, c, doc, dV, vs, dict, cvs, sl, t₂, h1, h2, ?_, t1, r₃⟩
  rcases h3 with ⟨e1, e2⟩ | ⟨a1, T, a2, a3, a4⟩
  · exact .inl ⟨e1, e2⟩
  · exact .inr ⟨a1, T, a2, a4⟩
structure Wld (w : World) (G : Glo) (h : View) : Prop where
  glob : ∃ n, h 3 = some (dictOf (G.e31 w) n)
  keys : ∀ e ∈ G.e31 w, ∃ n t, e.key = .str n t
  blt : h 0 = some (dictOf (bltE w.params) (bltN w.params))
  stat : h 2 = some (o2 w.params)
  fns : ∀ x ∈ G.fns, FnR h x.1 x.2
  tab : IsByteTab h G.a6
  c24 : h 24 = some (o24 w.params)
  c23 : h 23 = some (o23 w.params)
  c25 : h 25 = some (o25 w.params)
  c46 : h 46 = some (o46 w.params)
  c45 : h 45 = some (o45 w.params)
  c44 : h 44 = some (o44 w.params)
  c43 : h 43 = some (o43 w.params)
  c42 : h 42 = some (o42 w.params)
  c31 : h 31 = some (o31 w.params)
  c88 : h 88 = some (o88 w.params)
  c87 : h 87 = some (o87 w.params)
  c86 : h 86 = some (o86 w.params)
  c85 : h 85 = some (o85 w.params)
  c84 : h 84 = some (o84 w.params)
  c73 : h 73 = some (o73 w.params)
theorem Wld.keepsC {w : World} {G : Glo} {h h' : View} (W : Wld w G h) (hk : ∀ b o, o.cls ≠ .none → h b = some o → h' b = some o) (h2 : h' 2 = h 2) : Wld w G h' := by
  obtain ⟨⟨n, e1⟩, e2, e3, e4, e5, ⟨vs, ep, e6, e7⟩, c24, c23, c25, c46, c45, c44, c43, c42, c31, c88, c87, c86, c85, c84, c73⟩ := W
  exact ⟨⟨n, hk _ _ (by simp) e1⟩, e2, hk _ _ (by simp) e3, h2.trans e4, fun x hx => (e5 x hx).keeps hk, ⟨vs, ep, hk _ _ (by simp) e6, e7⟩,
    hk _ _ (by simp [o24]) c24, hk _ _ (by simp [o23]) c23, hk _ _ (by simp [o25]) c25, hk _ _ (by simp [o46]) c46, hk _ _ (by simp [o45]) c45, hk _ _ (by simp [o44]) c44, hk _ _ (by simp [o43]) c43, hk _ _ (by simp [o42]) c42, hk _ _ (by simp [o31]) c31,
    hk _ _ (by simp [o88]) c88, hk _ _ (by simp [o87]) c87, hk _ _ (by simp [o86]) c86, hk _ _ (by simp [o85]) c85, hk _ _ (by simp [o84]) c84, hk _ _ (by simp [o73]) c73⟩
theorem Wld.keeps {w : World} {G : Glo} {h h' : View} (W : Wld w G h) (hk : ∀ b o, h b = some o → h' b = some o) : Wld w G h' :=
  W.keepsC (fun b o _ e => hk b o e) ((hk _ _ W.stat).trans W.stat.symm)
theorem Wld.limit {w : World} {G : Glo} {h : Heap} (W : Wld w G h.get?) : h.NoLimit := by
  refine ⟨_, ⟨_, (dEnts (o2 w.params).data).toArray, 2, W.stat, rfl, ?_, fun _ => rfl⟩, ?_⟩
  · intro e he
    exact isStrE_all (es := dEnts (o2 w.params).data) (by kernel_rfl) e (by simpa using he)
  · kernel_rfl
theorem Wld.mg {w : World} {G : Glo} {h : Heap} (W : Wld w G h.get?) : h.Ns mainGlobals (fun x => lookE x (G.e31 w)) := by
  obtain ⟨n, e⟩ := W.glob
  exact ns_of_dict e W.keys
theorem Wld.mb {w : World} {G : Glo} {h : Heap} (W : Wld w G h.get?) : h.Ns builtinsNs (fun x => lookE x (bltE w.params)) := ns_of_dict W.blt (blt_keys _)
theorem EndTop.wld {w : World} {os : OsState} {s : Shared} (T : EndTop w os s) : ∃ G, Wld w G s.heap.get? ∧ FnAt s.heap 11 G.a11 := by
  obtain ⟨b6, G, F, ⟨base, n, l, ln, T3, ⟨⟨vs, ep, t1, t2⟩, n3, n12⟩, hk, _, hb⟩⟩ := T.fin
  have up (b : Addr) (o : Obj) (h3 : b ≠ 3) (h12 : b ≠ 12) (e : b6.heap.get? b = some o) : s.heap.get? b = some o := T3.keep b o h3 h12 (hk b o h3 h12 e)
  refine ⟨G, ⟨⟨n, T3.dict⟩, T3.keys, T3.keep 0 _ (by decide) (by decide) hb, up 2 _ (by decide) (by decide) (F.at 0 rfl rfl), fun x hx => (T3.fns x hx).toR, ⟨vs, ep, T3.keep _ _ n3 n12 t1, t2⟩,
    up 24 _ (by decide) (by decide) (F.at 6 rfl rfl), up 23 _ (by decide) (by decide) (F.at 5 rfl rfl), up 25 _ (by decide) (by decide) (F.at 7 rfl rfl), up 46 _ (by decide) (by decide) (F.at 13 rfl rfl),
    up 45 _ (by decide) (by decide) (F.at 12 rfl rfl), up 44 _ (by decide) (by decide) (F.at 11 rfl rfl), up 43 _ (by decide) (by decide) (F.at 10 rfl rfl), up 42 _ (by decide) (by decide) (F.at 9 rfl rfl), up 31 _ (by decide) (by decide) (F.at 8 rfl rfl),
    up 88 _ (by decide) (by decide) (F.at 19 rfl rfl), up 87 _ (by decide) (by decide) (F.at 18 rfl rfl), up 86 _ (by decide) (by decide) (F.at 17 rfl rfl), up 85 _ (by decide) (by decide) (F.at 16 rfl rfl), up 84 _ (by decide) (by decide) (F.at 15 rfl rfl), up 73 _ (by decide) (by decide) (F.at 14 rfl rfl)⟩, T3.fns (11, G.a11) (Glo.m11 _)⟩
noncomputable def AT (n : Nat) : Around := { handled := none, depth := 880 - 8 * n, frames := none, guards := none, units := 8800 - 80 * n }
section
variable {w : World} {E : Value → Shared → Prop} {s : Shared} {G : Glo}
theorem at_le {α : Type} {M : Model} {A : Around} {n : Nat} {t : Sem α} {Q : α → Shared → Prop} {E : Value → Shared → Prop} (h : wpAny M (AT n) t Q E s) (hh : A.handled = none) (hd : A.depth ≤ 880 - 8 * n) (hu : A.units ≤ 8800 - 80 * n) : wpAny M A t Q E s := fun Γ p hΓ =>
  h Γ p ⟨hΓ.1.trans hh, Nat.le_trans hΓ.2.1 hd, (fun _ e => by cases e), (fun _ e => by cases e), Nat.le_trans hΓ.2.2.2.2 hu⟩
theorem at_max {α : Type} {M : Model} {n : Nat} {t : Sem α} {Q : α → Shared → Prop} {E : Value → Shared → Prop} (h : wpAny M Amax t Q E s) : wpAny M (AT n) t Q E s :=
  amax h rfl (by show 880 - 8 * n ≤ 900; omega) (by show 8800 - 80 * n ≤ 9000; omega)
theorem call_fn {n k : Nat} {a : Addr} {args : List Value} {binds : List (Str × Value)} {Q : Value → Shared → Prop} (hn : n < 100) (W : Wld w G s.heap.get?) (hF : (k, a) ∈ G.fns) (hdef : (fd k).params.defaults.isEmpty = true)
    (hbind : ∀ pm cd doc, bindArgs (docDef (fd k).name (fd k).params (fd k).body (fd k).scope pm cd doc) ⟨args, []⟩ = pure binds)
    (hok : ((binds.all fun x => decide ((fd k).scope.names.lookup x.1 = some .local)) && !(fd k).scope.isCoroutine && !(fd k).scope.isGenerator && ((fd k).scope.kind == .function) && (fd k).scope.names.all fun x => x.2 != .cell) = true)
    (h : ∀ h₁ cd, Fr s.heap s.heap.objs.size h₁ (fun x => binds.reverse.lookup x) →
      wpAny (model pw w) (AT n) (execs (fd k).body (envOf (fd k).name (fd k).scope s.heap.objs.size a cd)) (fun f s' => Q (match f with | .ret v => v | _ => .none) s') (fun _ _ => False) { s with heap := h₁, toks := s.toks + binds.length }) :
    wpAny (model pw w) (AT (n + 1)) (call (.ref a) args) Q E s := by
  obtain ⟨pm, c, doc, dV, vs, dict, cvs, sl, qt, h1, h2, h3, h4, h5⟩ := W.fns _ hF
  simp only [Bool.and_eq_true, List.all_eq_true, decide_eq_true_eq, Bool.not_eq_true', beq_iff_eq, bne_iff_ne, ne_eq] at hok
  obtain ⟨⟨⟨⟨k1, k2⟩, k3⟩, k4⟩, k5⟩ := hok
  have hvs : vs = [] := by
    rw [List.isEmpty_iff] at hdef
    dsimp only at h2
    rw [hdef] at h2
    cases vs with
    | nil => rfl
    | cons v r => exact h2.elim
  have hdV : dV = .none := by
    rcases h3 with ⟨_, e⟩ | z
    · exact e
    · exact absurd hvs z.1
  subst hdV
  refine wpAny_call (call_plain_ret (by show 880 - 8 * (n + 1) < 1000; (clear h1 h3 h4 h5 hdef hvs k2 k3; omega)) h1 rfl W.limit ⟨c, _, cvs, qt, rfl, h4, rfl, h5⟩ (hbind _ _ _) k1 (fun h₁ F => ?_) k2 k3 k4 k5)
  refine at_le (n := n) (wpAny_mono (h h₁ (.ref c) F) (fun f s' q => ?_) fun _ _ q => q) rfl (by show 880 - 8 * (n + 1) + 1 ≤ 880 - 8 * n; (clear h1 h3 h4 h5 hdef hvs k2 k3; omega)) (by show 8800 - 80 * (n + 1) + 3 ≤ 8800 - 80 * n; (clear h1 h3 h4 h5 hdef hvs k2 k3; omega))
  exact q
end
end Mine
end Fun_part
section Facts_part
open PySem PySem.W PySem.Calls PyProof.Rows
set_option Elab.async false
set_option maxRecDepth 100000
set_option maxHeartbeats 0
namespace Mine
theorem blt_isinstance (P : Params) : lookE "isinstance" (bltE P) = some (.builtin "isinstance") := by kernel_rfl
theorem blt_bytearray (P : Params) : lookE "bytearray" (bltE P) = some (.type "bytearray") := by kernel_rfl
theorem blt_list (P : Params) : lookE "list" (bltE P) = some (.type "list") := by kernel_rfl
theorem blt_len (P : Params) : lookE "len" (bltE P) = some (.builtin "len") := by kernel_rfl
theorem blt_all (P : Params) : lookE "all" (bltE P) = some (.builtin "all") := by kernel_rfl
theorem blt_ValueError (P : Params) : lookE "ValueError" (bltE P) = some (.type "ValueError") := by kernel_rfl
theorem blt_IndexError (P : Params) : lookE "IndexError" (bltE P) = some (.type "IndexError") := by kernel_rfl
theorem blt_TypeError (P : Params) : lookE "TypeError" (bltE P) = some (.type "TypeError") := by kernel_rfl
theorem blt_int (P : Params) : lookE "int" (bltE P) = some (.type "int") := by kernel_rfl
theorem glo_isinstance (G : Glo) (w : World) : lookE "isinstance" (G.e31 w) = none := by kernel_rfl
theorem glo_bytearray (G : Glo) (w : World) : lookE "bytearray" (G.e31 w) = none := by kernel_rfl
theorem glo_list (G : Glo) (w : World) : lookE "list" (G.e31 w) = none := by kernel_rfl
theorem glo_len (G : Glo) (w : World) : lookE "len" (G.e31 w) = none := by kernel_rfl
theorem glo_all (G : Glo) (w : World) : lookE "all" (G.e31 w) = none := by kernel_rfl
theorem glo_ValueError (G : Glo) (w : World) : lookE "ValueError" (G.e31 w) = none := by kernel_rfl
theorem glo_IndexError (G : Glo) (w : World) : lookE "IndexError" (G.e31 w) = none := by kernel_rfl
theorem glo_TypeError (G : Glo) (w : World) : lookE "TypeError" (G.e31 w) = none := by kernel_rfl
theorem glo_int (G : Glo) (w : World) : lookE "int" (G.e31 w) = none := by kernel_rfl
theorem glo_tuple (G : Glo) (w : World) : lookE "tuple" (G.e31 w) = none := by kernel_rfl
theorem glo_bytes (G : Glo) (w : World) : lookE "bytes" (G.e31 w) = none := by kernel_rfl
theorem glo_range (G : Glo) (w : World) : lookE "range" (G.e31 w) = none := by kernel_rfl
theorem lk_is_bytes (G : Glo) (w : World) : lookE "is_bytes" (G.e31 w) = some (.ref G.a7) := by kernel_rfl
theorem lk_big_endian_to_int (G : Glo) (w : World) : lookE "big_endian_to_int" (G.e31 w) = some (.ref G.a8) := by kernel_rfl
theorem lk_int_to_big_endian (G : Glo) (w : World) : lookE "int_to_big_endian" (G.e31 w) = some (.ref G.a9) := by kernel_rfl
theorem lk_encode_raw (G : Glo) (w : World) : lookE "encode_raw" (G.e31 w) = some (.ref G.a11) := by kernel_rfl
theorem lk_decode_raw (G : Glo) (w : World) : lookE "decode_raw" (G.e31 w) = some (.ref G.a12) := by kernel_rfl
theorem lk_length_prefix (G : Glo) (w : World) : lookE "length_prefix" (G.e31 w) = some (.ref G.a14) := by kernel_rfl
theorem lk_consume_length_prefix (G : Glo) (w : World) : lookE "consume_length_prefix" (G.e31 w) = some (.ref G.a16) := by kernel_rfl
theorem lk_consume_payload (G : Glo) (w : World) : lookE "consume_payload" (G.e31 w) = some (.ref G.a17) := by kernel_rfl
theorem lk_consume_item (G : Glo) (w : World) : lookE "consume_item" (G.e31 w) = some (.ref G.a18) := by kernel_rfl
theorem lk_decode (G : Glo) (w : World) : lookE "decode" (G.e31 w) = some (.ref G.a19) := by kernel_rfl
theorem lk_serializable (G : Glo) (w : World) : lookE "serializable" (G.e31 w) = some (.ref G.a21) := by kernel_rfl
theorem lk_serialize (G : Glo) (w : World) : lookE "serialize" (G.e31 w) = some (.ref G.a22) := by kernel_rfl
theorem lk_deserialize (G : Glo) (w : World) : lookE "deserialize" (G.e31 w) = some (.ref G.a23) := by kernel_rfl
theorem lk_law_octets (G : Glo) (w : World) : lookE "_law_octets" (G.e31 w) = some (.ref G.a25) := by kernel_rfl
theorem lk_law_thing (G : Glo) (w : World) : lookE "_law_thing" (G.e31 w) = some (.ref G.a26) := by kernel_rfl
theorem lk_law_plain (G : Glo) (w : World) : lookE "_law_plain" (G.e31 w) = some (.ref G.a28) := by kernel_rfl
theorem lk_law_head (G : Glo) (w : World) : lookE "_law_head" (G.e31 w) = some (.ref G.a29) := by kernel_rfl
theorem lk_law_put (G : Glo) (w : World) : lookE "_law_put" (G.e31 w) = some (.ref G.a30) := by kernel_rfl
theorem lk_law (G : Glo) (w : World) : lookE "law" (G.e31 w) = some (.ref G.a31) := by kernel_rfl
theorem lk_ALL_BYTES (G : Glo) (w : World) : lookE "ALL_BYTES" (G.e31 w) = some (.ref G.a6) := by kernel_rfl
theorem lk_EncodingError (G : Glo) (w : World) : lookE "EncodingError" (G.e31 w) = some (.ref 46) := by kernel_rfl
theorem lk_SerializationError (G : Glo) (w : World) : lookE "SerializationError" (G.e31 w) = some (.ref 88) := by kernel_rfl
end Mine
end Facts_part
section Ser_part
open PySem PySem.W PySem.Calls PyProof.Rows
set_option Elab.async false
set_option maxRecDepth 100000
set_option maxHeartbeats 2000000
namespace Mine
section
variable {w : World} {A : Around} {E : Value → Shared → Prop} {s : Shared} {G : Glo} {env : Env}
structure FEnv (env : Env) : Prop where
  kind : env.scope.kind = .function
  glob : env.globals = mainGlobals
  blt : env.builtins = builtinsNs
theorem gname {x : Str} {p : Pos} {v : Value} {Q : Value → Shared → Prop} (W : Wld w G s.heap.get?) (fe : FEnv env) (hx : env.kindOf x = some .globalImplicit) (hv : lookE x (G.e31 w) = some v) (h : Q v s)
    (hd : (x == ("__debug__" : Str)) = false := by decide) : wpAny (model pw w) A (eval (.Name x p) env) Q E s :=
  Name_function_global fe.kind hx (loadGlobal_global (mg := fun x => lookE x (G.e31 w)) (by rw [fe.glob]; exact W.mg) hv h) hd
theorem bname {x : Str} {p : Pos} {v : Value} {Q : Value → Shared → Prop} (W : Wld w G s.heap.get?) (fe : FEnv env) (hx : env.kindOf x = some .globalImplicit) (hn : lookE x (G.e31 w) = none) (hv : lookE x (bltE w.params) = some v) (h : Q v s)
    (hd : (x == ("__debug__" : Str)) = false := by decide) : wpAny (model pw w) A (eval (.Name x p) env) Q E s :=
  Name_function_global fe.kind hx (loadGlobal_builtin (mg := fun x => lookE x (G.e31 w)) (mb := fun x => lookE x (bltE w.params)) (by rw [fe.glob]; exact W.mg) hn (by rw [fe.blt]; exact W.mb) hv h) hd
theorem callWith_g {pos : Pos} {k : Nat} {a : Addr} {x : Sem Value} {rest : List (Bool × Sem Value)} {Q : Value → Shared → Prop} (W : Wld w G s.heap.get?) (hF : (k, a) ∈ G.fns)
    (h : wpAny (model pw w) A (spliced ((false, x) :: rest)) (fun vs s₁ => (∀ b o, o.cls ≠ .none → s.heap.get? b = some o → s₁.heap.get? b = some o) ∧ wpAny (model pw w) A (call (.ref a) vs) Q E s₁) E s) :
    wpAny (model pw w) A (callWith pos (.ref a) [] ((false, x) :: rest) []) Q E s := by
  obtain ⟨pm, c, doc, dV, vs, dict, cvs, sl, qt, h1, _⟩ := W.fns _ hF
  refine callWith_function_kw (o := _) (fd := _) (evalArgs_plain (wpAny_mono h (fun vs s₁ h => ⟨⟨h.1 _ _ (by simp) h1, rfl⟩, h.2⟩) fun _ _ h => h))
theorem isi_test_b {n : Nat} {x : Str} {p px p1 p2 p3 pos : Pos} {k : Nat} {t : T} {v : Value} (W : Wld w G s.heap.get?) (fe : FEnv env)
    (hk : (["isinstance", "bytes", "bytearray"] : List Str).all (fun x => env.kindOf x == some .globalImplicit) = true)
    (hx : ∀ Q' : Value → Shared → Prop, ∀ s', Keeps s s' → Q' v s' → wpAny (model pw w) (AT n) (eval (.Name x px) env) Q' (fun _ _ => False) s')
    (H : Has s.heap.get? t v) :
    wpAny (model pw w) (AT n) (eval (.Call (.Name "isinstance" p) [.Name x px, .Tuple [.Name "bytes" p1, .Name "bytearray" p2] k p3] [] pos) env) (fun r s' => Keeps s s' ∧ r = .bool t.isB) (fun _ _ => False) s := by
  simp only [List.all_cons, List.all_nil, Bool.and_true, Bool.and_eq_true, beq_iff_eq] at hk
  obtain ⟨k1, k2, k3⟩ := hk
  refine Call_Name2 (bname W fe k1 (glo_isinstance _ _) (blt_isinstance _) ?_) rfl
  refine callWith_builtin rfl (evalArgs_plain (spliced_cons (hx _ _ (keeps_refl s) (spliced_cons (wpAny_Tuple ?_)))))
  refine spliced_cons (bname W fe k2 (glo_bytes _ _) (blt_bytes _) (spliced_cons (bname W fe k3 (glo_bytearray _ _) (blt_bytearray _) (spliced_nil ⟨by size_fits, spliced_nil ?_⟩))))
  have kp := keeps_push (s := s) { cls := .type "tuple", data := .seq [Value.type "bytes", .type "bytearray"].toArray }
  refine wpAny_mono (at_max (isi_bb (V := s.heap.get?) (fun b o e => keeps_of kp b o e) (Heap.get?_push_size _ rfl) t H)) (fun r s' h => ⟨keeps_trans kp h.1, h.2⟩) fun _ _ h => h
theorem isi_test_s {n : Nat} {x : Str} {p px p1 p2 p3 pos : Pos} {k : Nat} {t : T} {v : Value} (W : Wld w G s.heap.get?) (fe : FEnv env)
    (hk : (["isinstance", "list", "tuple"] : List Str).all (fun x => env.kindOf x == some .globalImplicit) = true)
    (hx : ∀ Q' : Value → Shared → Prop, ∀ s', Keeps s s' → Q' v s' → wpAny (model pw w) (AT n) (eval (.Name x px) env) Q' (fun _ _ => False) s')
    (H : Has s.heap.get? t v) :
    wpAny (model pw w) (AT n) (eval (.Call (.Name "isinstance" p) [.Name x px, .Tuple [.Name "list" p1, .Name "tuple" p2] k p3] [] pos) env) (fun r s' => Keeps s s' ∧ r = .bool t.isS) (fun _ _ => False) s := by
  simp only [List.all_cons, List.all_nil, Bool.and_true, Bool.and_eq_true, beq_iff_eq] at hk
  obtain ⟨k1, k2, k3⟩ := hk
  refine Call_Name2 (bname W fe k1 (glo_isinstance _ _) (blt_isinstance _) ?_) rfl
  refine callWith_builtin rfl (evalArgs_plain (spliced_cons (hx _ _ (keeps_refl s) (spliced_cons (wpAny_Tuple ?_)))))
  refine spliced_cons (bname W fe k2 (glo_list _ _) (blt_list _) (spliced_cons (bname W fe k3 (glo_tuple _ _) (blt_tuple _) (spliced_nil ⟨by size_fits, spliced_nil ?_⟩))))
  have kp := keeps_push (s := s) { cls := .type "tuple", data := .seq [Value.type "list", .type "tuple"].toArray }
  refine wpAny_mono (at_max (isi_lt (V := s.heap.get?) (fun b o e => keeps_of kp b o e) (Heap.get?_push_size _ rfl) t H)) (fun r s' h => ⟨keeps_trans kp h.1, h.2⟩) fun _ _ h => h
end
mutual
noncomputable def T.ht : T → Nat
  | .lst xs => T.hts xs + 1
  | .tup xs => T.hts xs + 1
  | _ => 0
noncomputable def T.hts : List T → Nat
  | [] => 0
  | x :: xs => max (T.ht x) (T.hts xs)
end
theorem T.ht_mem : ∀ {xs : List T} {i : Nat} {t : T}, xs[i]? = some t → t.ht ≤ T.hts xs
  | [], i, t, h => by simp at h
  | x :: xs, 0, t, h => by simp at h; subst h; unfold T.hts; omega
  | x :: xs, i + 1, t, h => by have := T.ht_mem (xs := xs) (i := i) (t := t) (by simpa using h); unfold T.hts; (clear h; omega)
mutual
noncomputable def T.ser : T → Bool
  | .byt _ => true
  | .ba _ => true
  | .lst xs => T.sers xs
  | .tup xs => T.sers xs
  | _ => false
noncomputable def T.sers : List T → Bool
  | [] => true
  | x :: xs => T.ser x && T.sers xs
end
noncomputable def T.serAt (ts : List T) (i : Nat) : Bool := match ts[i]? with
  | some t => t.ser
  | none => false
theorem T.sers_eq : ∀ (xs : List T), T.sers xs = (List.range xs.length).all (T.serAt xs)
  | [] => by rw [T.sers]; rfl
  | x :: xs => by
    rw [T.sers, T.sers_eq xs, List.length_cons, List.range_succ_eq_map, List.all_cons, List.all_map]
    congr 1
/-- the items of a list or a tuple -/
noncomputable def T.kids : T → List T
  | .lst xs => xs
  | .tup xs => xs
  | _ => []
theorem T.kids_ht {t : T} (h : t.isS = true) : t.ht = T.hts t.kids + 1 := by cases t <;> simp_all [T.isS, T.kids, T.ht]
theorem Has.seqV {V : View} {t : T} {v : Value} (H : Has V t v) (hs : t.isS = true) : ∃ a vs, v = .ref a ∧ (∀ h : Heap, VLe V h.get? → IsSeq h a vs) ∧ vs.size ≤ 1000 ∧ HasAll V t.kids vs.toList := by
  cases t with
  | lst xs => unfold Has at H; obtain ⟨a, vs, ep, e, y, z, r⟩ := H; exact ⟨a, vs, e, fun h l => .l ep (l _ _ y), z, r⟩
  | tup xs => unfold Has at H; obtain ⟨a, vs, ep, e, y, z, r⟩ := H; exact ⟨a, vs, e, fun h l => .t ep (l _ _ y), z, r⟩
  | _ => cases hs
theorem Has.notBu {V : View} : ∀ {p : T} {r : Value}, Has V p r → ∀ id, r ≠ .builtin id
  | .byt b, r, H, id => by unfold Has at H; obtain ⟨_, _, rfl⟩ := H; simp
  | .ba b, r, H, id => by unfold Has at H; obtain ⟨_, _, rfl, _⟩ := H; simp
  | .lst b, r, H, id => by unfold Has at H; obtain ⟨_, _, _, rfl, _⟩ := H; simp
  | .tup b, r, H, id => by unfold Has at H; obtain ⟨_, _, _, rfl, _⟩ := H; simp
  | .boo b, r, H, id => by unfold Has at H; subst H; simp
  | .num b, r, H, id => by unfold Has at H; obtain ⟨_, rfl⟩ := H; simp
  | .non, r, H, id => by unfold Has at H; subst H; simp
theorem Has.seq {h : Heap} {t : T} {v : Value} (H : Has h.get? t v) (hs : t.isS = true) : ∃ a vs, v = .ref a ∧ IsSeq h a vs ∧ vs.size ≤ 1000 ∧ HasAll h.get? t.kids vs.toList := by
  cases t with
  | lst xs => unfold Has at H; obtain ⟨a, vs, ep, e, y, z, r⟩ := H; exact ⟨a, vs, e, .l ep y, z, r⟩
  | tup xs => unfold Has at H; obtain ⟨a, vs, ep, e, y, z, r⟩ := H; exact ⟨a, vs, e, .t ep y, z, r⟩
  | _ => cases hs
end Mine
end Ser_part
section Ser2_part
open PySem PySem.W PySem.Calls PyProof.Rows
set_option Elab.async false
set_option maxRecDepth 100000
set_option maxHeartbeats 2000000
namespace Mine
theorem keeps_fr {s : Shared} {L : Addr} {h' : Heap} {tk : Nat} {m : Str → Option Value} (F : Fr s.heap L h' m) : Keeps s { s with heap := h', toks := tk } := ⟨h', tk, rfl, F.keep⟩
theorem T.kids_ser {t : T} (h : t.isS = true) : t.ser = T.sers t.kids := by cases t <;> simp_all [T.isS, T.kids, T.ser]
theorem T.ser_b {t : T} (h : t.isB = true) : t.ser = true := by cases t <;> simp_all [T.isB, T.ser]
theorem T.ser_n {t : T} (h : t.isB = false) (h' : t.isS = false) : t.ser = false := by cases t <;> simp_all [T.isB, T.isS, T.ser]
noncomputable def SerC (w : World) (G : Glo) (n : Nat) (t : T) : Prop := t.ht ≤ n → n ≤ 60 → ∀ (s : Shared) (v : Value), Wld w G s.heap.get? → Has s.heap.get? t v →
    wpAny (model pw w) (AT (n + 1)) (call (.ref G.a21) [v]) (fun r s' => Keeps s s' ∧ r = .bool t.ser) (fun _ _ => False) s
theorem ser_ok_step {w : World} {G : Glo} {n : Nat} {t : T} (IH0 : ∀ m, n = m + 1 → ∀ t', SerC w G m t') : SerC w G n t := by
  intro hn hn' s v W H
  refine call_fn (k := 21) (binds := [("obj", v)]) (by (clear hn; omega)) W (Glo.m21 _) (by kernel_rfl) (fun pm cd doc => by kernel_rfl) (by kernel_rfl) fun h₁ cd F => ?_
  refine wpAny_execs_cons ?_
  refine wpAny_If (isTrue_plain ?_)
  have W1 : Wld w G h₁.get? := W.keeps F.keep
  have H1 : Has h₁.get? t v := Has.mono F.keep t v H
  refine wpAny_mono (isi_test_b W1 ⟨rfl, rfl, rfl⟩ (by rfl) (fun Q' s' k q => ld (F.keeps (keeps_of k)) rfl q) H1) (fun r s₁ h => ?_) fun _ _ h => h.elim
  obtain ⟨K1, rfl⟩ := h
  refine wpAny_truthy_bool ?_
  have K0 : Keeps s s₁ := keeps_trans (keeps_fr F) K1
  cases hb : t.isB with
  | true =>
    refine wpAny_execs_cons (wpAny_Return_some ?_)
    exact (fun _ _ _ => ⟨K0, by rw [T.ser_b hb]⟩)
  | false =>
    refine wpAny_execs_cons (wpAny_If (isTrue_plain ?_))
    have F1 := F.keeps (keeps_of K1)
    have W2 := W.keeps (keeps_of K0)
    have H2 := Has.mono (keeps_of K0) t v H
    refine wpAny_mono (isi_test_s W2 ⟨rfl, rfl, rfl⟩ (by rfl) (fun Q' s' k q => ld (F1.keeps (keeps_of k)) rfl q) H2) (fun r s₂ h => ?_) fun _ _ h => h.elim
    obtain ⟨K2, rfl⟩ := h
    refine wpAny_truthy_bool ?_
    have K3 : Keeps s s₂ := keeps_trans K0 K2
    cases hs : t.isS with
    | false =>
      refine wpAny_execs_cons (wpAny_Return_some ?_)
      exact (fun _ _ _ => ⟨K3, by rw [T.ser_n hb hs]⟩)
    | true =>
      refine wpAny_execs_cons (wpAny_Return_some ?_)
      have W3 := W.keeps (keeps_of K3)
      have H3 := Has.mono (keeps_of K3) t v H
      have F2 := F1.keeps (keeps_of K2)
      obtain ⟨a, vs, rfl, hsq, hz, hall⟩ := H3.seq hs
      refine Call_Name1 (bname W3 ⟨rfl, rfl, rfl⟩ rfl (glo_all _ _) (blt_all _) ?_) rfl
      refine callWith_builtin rfl (evalArgs_plain (spliced_cons ?_))
      refine comp_seq (V₀ := s₂.heap.get?) (R := fun i _ y => ∃ t', t.kids[i]? = some t' ∧ y = .bool t'.ser) rfl (fun _ _ e => e) hsq (fun Q' q => ld F2 rfl q) (fun _ _ _ _ _ e => e) (by decide) (by decide) rfl (by decide) rfl (Nat.le_trans hz (by decide)) ?_ ?_ (by intro _; rfl)
      · intro C i v s₃ m₂ V hv hns hm hV0 hV hC
        have up : ∀ b o, s₂.heap.get? b = some o → s₃.heap.get? b = some o := fun b o e => hV b o (hV0 b o e)
        obtain ⟨t', ht', Hv⟩ := hall.get i v (by simpa using hv)
        refine Call_Name1 (gname (W3.keeps up) ⟨rfl, rfl, rfl⟩ rfl (lk_serializable _ _) ?_) rfl
        refine callWith_g (k := 21) (W3.keeps up) (Glo.m21 _) (spliced_cons (wpAny_Name (wpAny_loadName_local rfl rfl hns hm (spliced_nil ⟨fun _ _ _ e => e, ?_⟩))))
        cases n with
        | zero => rw [T.kids_ht hs] at hn; (clear hC hb hm hn' hs ht' hv hz; omega)
        | succ n =>
          have := T.ht_mem ht'
          rw [T.kids_ht hs] at hn
          refine wpAny_mono (IH0 n rfl t' (by (clear hC hb hm hn' hs ht' hv hz; omega)) (by (clear hC hb hm hn hs ht' hv hz this; omega)) s₃ v (W3.keeps up) (Has.mono up t' v Hv)) (fun r s₄ h => ?_) fun _ _ h => h.elim
          exact ⟨h.1, V, Ext.refl fun b o e => keeps_of h.1 b o (hV b o e), t', ht', h.2⟩
      · intro D s' V' ys ep K E' hD hDn hz' hR
        refine spliced_nil ?_
        refine call_all_walk (seq_src (vs := ys) rfl (.l ep (E'.at' _ _ hD)) fun o St hlive WW hst ho => ?_)
        refine ⟨_, _, _, _, _, St, T.serAt t.kids, rfl, WW, hst, ?_, fun h' tk hk => ?_⟩
        · intro i v s₅ Q' E'' hv q
          obtain ⟨t', ht', rfl⟩ := hR i v hv
          unfold T.serAt at q
          rw [ht'] at q
          exact wpAny_truthy_bool q
        · refine ⟨keeps_trans K3 (keeps_trans K ⟨h', tk, rfl, fun b o' e => hk b o' ?_ (Heap.get?_push_of_some _ e)⟩), ?_⟩
          · intro hm
            have hb : b = s'.heap.objs.size := by simpa using hm
            rw [hb] at e
            exact Nat.lt_irrefl _ (Heap.lt_size e)
          · rw [T.kids_ser hs, T.sers_eq, hz', ← HasAll.length hall, Array.length_toList]
theorem ser_ok (w : World) (G : Glo) (n : Nat) : ∀ t : T, SerC w G n t := by
  induction n with
  | zero => exact fun t => ser_ok_step fun m e => by cases e
  | succ n ih => exact fun t => ser_ok_step fun m e => by cases e; exact ih
end Mine
end Ser2_part
section Plain_part
open PySem PySem.W PySem.Calls PyProof.Rows
set_option Elab.async false
set_option maxRecDepth 100000
set_option maxHeartbeats 2000000
namespace Mine
mutual
noncomputable def T.plain : T → Option T
  | .byt b => some (.byt b)
  | .ba b => some (.byt b)
  | .lst xs => (T.plains xs).map .lst
  | .tup xs => (T.plains xs).map .lst
  | _ => none
noncomputable def T.plains : List T → Option (List T)
  | [] => some []
  | x :: xs => (T.plain x).bind fun y => (T.plains xs).map fun ys => y :: ys
end
noncomputable def RP (V : View) (t : T) (r : Value) : Prop := match t.plain with
  | some p => Has V p r
  | none => r = .none
theorem RP.mono {V W : View} (h : VLe V W) {t : T} {r : Value} (x : RP V t r) : RP W t r := by
  unfold RP at x ⊢
  cases q : t.plain with
  | none => rw [q] at x; exact x
  | some p => rw [q] at x; exact Has.mono h p r x
noncomputable def isN (v : Value) : Bool := v == .none
theorem Has.notN {V : View} : ∀ {t : T} {p : T} {r : Value}, t.plain = some p → Has V p r → isN r = false
  | t, .byt b, r, _, H => by unfold Has at H; obtain ⟨_, _, rfl⟩ := H; rfl
  | t, .ba b, r, _, H => by unfold Has at H; obtain ⟨_, _, rfl, _⟩ := H; rfl
  | t, .lst b, r, _, H => by unfold Has at H; obtain ⟨_, _, _, rfl, _⟩ := H; rfl
  | t, .tup b, r, _, H => by unfold Has at H; obtain ⟨_, _, _, rfl, _⟩ := H; rfl
  | t, .boo b, r, _, H => by unfold Has at H; subst H; rfl
  | t, .num b, r, _, H => by unfold Has at H; obtain ⟨_, rfl⟩ := H; rfl
  | t, .non, r, h, _ => by
    cases t <;> simp [T.plain] at h
theorem plains_some {V : View} : ∀ {ts ps : List T} {vs : List Value}, T.plains ts = some ps → vs.length = ts.length → (∀ (i : Nat) t v, ts[i]? = some t → vs[i]? = some v → RP V t v) → HasAll V ps vs ∧ vs.filter isN = []
  | [], ps, vs, h, hl, _ => by
    unfold T.plains at h
    cases h
    cases vs with
    | nil => exact ⟨by unfold HasAll; trivial, rfl⟩
    | cons v r => simp at hl
  | t :: ts, ps, [], h, hl, _ => by simp at hl
  | t :: ts, ps, v :: vs, h, hl, H => by
    unfold T.plains at h
    obtain ⟨y, hy, h⟩ := Option.bind_eq_some_iff.mp h
    obtain ⟨ys, hys, rfl⟩ := Option.map_eq_some_iff.mp h
    have h0 := H 0 t v rfl rfl
    unfold RP at h0
    rw [hy] at h0
    have ih := plains_some hys (by simpa using hl) fun i t' v' h1 h2 => H (i + 1) t' v' (by simpa using h1) (by simpa using h2)
    refine ⟨?_, ?_⟩
    · unfold HasAll; exact ⟨h0, ih.1⟩
    · rw [List.filter_cons, Has.notN hy h0, ih.2]; rfl
theorem plains_none {V : View} : ∀ {ts : List T} {vs : List Value}, T.plains ts = none → vs.length = ts.length → (∀ (i : Nat) t v, ts[i]? = some t → vs[i]? = some v → RP V t v) → vs.filter isN ≠ []
  | [], vs, h, hl, _ => by unfold T.plains at h; cases h
  | t :: ts, [], h, hl, _ => by simp at hl
  | t :: ts, v :: vs, h, hl, H => by
    unfold T.plains at h
    have h0 := H 0 t v rfl rfl
    unfold RP at h0
    cases hy : t.plain with
    | none =>
      rw [hy] at h0
      subst h0
      rw [List.filter_cons]
      simp [isN]
    | some y =>
      rw [hy] at h
      cases hys : T.plains ts with
      | some ys => rw [hys] at h; simp at h
      | none =>
        have ih := plains_none hys (by simpa using hl) fun i t' v' h1 h2 => H (i + 1) t' v' (by simpa using h1) (by simpa using h2)
        rw [List.filter_cons]
        split
        · simp
        · exact ih
theorem T.plain_kids {t : T} (h : t.isS = true) : t.plain = (T.plains t.kids).map .lst := by cases t <;> simp_all [T.isS, T.kids, T.plain]
theorem T.plain_n {t : T} (h : t.isS = false) (h' : t.isB = false) : t.plain = none := by cases t <;> simp_all [T.isS, T.isB, T.plain]
theorem Paired.self {α : Type} {l l' : List α} (h : Paired (fun a b => b = a) l l') : l' = l := by
  induction h with
  | nil => rfl
  | cons e _ ih => rw [e, ih]
end Mine
end Plain_part
section Plain2_part
open PySem PySem.W PySem.Calls PyProof.Rows
set_option Elab.async false
set_option maxRecDepth 100000
set_option maxHeartbeats 2000000
namespace Mine
theorem filter_name {prog : Program} {w : World} {A : Around} {E : Value → Shared → Prop} {s : Shared} {env : Env} {C : Addr} {scope : Scope} {c : Expr} {b : Bool}
    (h : wpAny (model prog w) A (isTrue c (compEnv scope C env) (eval c (compEnv scope C env))) (fun r s' => r = b ∧ Keeps s s') E s) :
    wpAny (model prog w) A (forIn [c] true fun c r => if r = true then do let ok ← isTrue c (compEnv scope C env) (eval c (compEnv scope C env)); pure (ForInStep.yield ok) else pure (ForInStep.yield r)) (fun ok s₃ => ok = b ∧ Keeps s s₃) E s := by
  rw [List.forIn_cons]
  refine wpAny_bind ?_
  simp only [if_true]
  refine wpAny_bind (wpAny_mono h (fun r s' h => ?_) fun _ _ h => h)
  refine wpAny_pure ?_
  dsimp only
  rw [List.forIn_nil]
  exact wpAny_pure h
theorem is_none {M : Model} {A : Around} {E : Value → Shared → Prop} {s : Shared} {v : Value} {Q : Value → Shared → Prop} (hv : ∀ id, v ≠ .builtin id) (h : Q (.bool (isN v)) s) : wpAny M A (compareOp .Is v .none) Q E s := by
  refine wpAny_is_plain ?_ h
  cases v <;> first | rfl | exact absurd rfl (hv _)
theorem RP.notB {V : View} {t : T} {r : Value} (x : RP V t r) : ∀ id, r ≠ .builtin id := by
  unfold RP at x
  cases q : t.plain with
  | none => rw [q] at x; subst x; intro id; simp
  | some p => rw [q] at x; exact Has.notBu x
theorem plains_size {ts ps : List T} (h : T.plains ts = some ps) : ps.length = ts.length := by
  induction ts generalizing ps with
  | nil => unfold T.plains at h; cases h; rfl
  | cons t ts ih =>
    unfold T.plains at h
    obtain ⟨y, hy, h⟩ := Option.bind_eq_some_iff.mp h
    obtain ⟨ys, hys, rfl⟩ := Option.map_eq_some_iff.mp h
    simp [ih hys]
noncomputable def PlainC (w : World) (G : Glo) (n : Nat) (t : T) : Prop := t.ht ≤ n → n ≤ 60 → ∀ (s : Shared) (V : View) (v : Value), VLe V s.heap.get? → Wld w G V → Has V t v →
    wpAny (model pw w) (AT (n + 1)) (call (.ref G.a28) [v]) (fun r s' => Keeps s s' ∧ ∃ V', Ext V s.heap V' s'.heap ∧ RP V' t r) (fun _ _ => False) s
theorem plain_ok_step {w : World} {G : Glo} {n : Nat} {t : T} (IH0 : ∀ m, n = m + 1 → ∀ t', PlainC w G m t') : PlainC w G n t := by
  intro hn hn' s V v hVs WV HV
  have W := WV.keeps hVs
  have H := Has.mono hVs t v HV
  have res : ∀ {s' : Shared} {r : Value}, Keeps s s' → RP V t r → Keeps s s' ∧ ∃ V', Ext V s.heap V' s'.heap ∧ RP V' t r := fun k x => ⟨k, V, Ext.refl fun b o e => keeps_of k b o (hVs b o e), x⟩
  refine call_fn (k := 28) (binds := [("thing", v)]) (by (clear hn; omega)) W (Glo.m28 _) (by kernel_rfl) (fun pm cd doc => by kernel_rfl) (by kernel_rfl) fun h₁ cd F => ?_
  refine wpAny_execs_cons ?_
  refine wpAny_If (isTrue_plain ?_)
  have W1 : Wld w G h₁.get? := W.keeps F.keep
  have H1 : Has h₁.get? t v := Has.mono F.keep t v H
  refine wpAny_mono (isi_test_s W1 ⟨rfl, rfl, rfl⟩ (by rfl) (fun Q' s' k q => ld (F.keeps (keeps_of k)) rfl q) H1) (fun r s₁ h => ?_) fun _ _ h => h.elim
  obtain ⟨K1, rfl⟩ := h
  refine wpAny_truthy_bool ?_
  have K0 : Keeps s s₁ := keeps_trans (keeps_fr F) K1
  have F1 := F.keeps (keeps_of K1)
  have W2 := W.keeps (keeps_of K0)
  have H2 := Has.mono (keeps_of K0) t v H
  cases hs : t.isS with
  | false =>
    refine wpAny_execs_nil ?_
    dsimp only
    refine wpAny_execs_cons (wpAny_Return_some (wpAny_IfExp (isTrue_plain ?_)))
    refine wpAny_mono (isi_test_b W2 ⟨rfl, rfl, rfl⟩ (by rfl) (fun Q' s' k q => ld (F1.keeps (keeps_of k)) rfl q) H2) (fun r s₂ h => ?_) fun _ _ h => h.elim
    obtain ⟨K2, rfl⟩ := h
    refine wpAny_truthy_bool ?_
    have K3 : Keeps s s₂ := keeps_trans K0 K2
    have F2 := F1.keeps (keeps_of K2)
    cases hb : t.isB with
    | false =>
      refine PyProof.Rows.Constant_none ?_
      refine res K3 ?_
      unfold RP; rw [T.plain_n hs hb]
    | true =>
      refine Call_Name1 (bname (W.keeps (keeps_of K3)) ⟨rfl, rfl, rfl⟩ rfl (glo_bytes _ _) (blt_bytes _) ?_) rfl
      refine PyProof.Rows.callWith_type rfl (evalArgs_plain (spliced_cons (ld F2 rfl (spliced_nil ?_))))
      cases t with
      | byt b =>
        unfold Has at H
        obtain ⟨hz, tk, rfl⟩ := H
        refine wpAny_mono (at_max (bytes_of_bytes)) (fun r s₄ h => ?_) fun _ _ h => h.elim
        obtain ⟨K4, t', rfl⟩ := h
        refine res (keeps_trans K3 K4) ?_
        unfold RP Has; exact ⟨hz, t', rfl⟩
      | ba b =>
        unfold Has at H
        obtain ⟨hz, a, rfl, e⟩ := H
        refine wpAny_mono (at_max (bytes_of_ba (by (clear e hb hn hn' hs; omega)) (keeps_of K3 _ _ e))) (fun r s₄ h => ?_) fun _ _ h => h.elim
        obtain ⟨K4, t', rfl⟩ := h
        refine res (keeps_trans K3 K4) ?_
        unfold RP Has; exact ⟨hz, t', rfl⟩
      | _ => cases hb
  | true =>
    obtain ⟨a, vs, rfl, hsq, hz, hall'⟩ := HV.seqV hs
    have hsq := hsq s₁.heap fun b o e => keeps_of K0 b o (hVs b o e)
    have hLn : s.heap.get? s.heap.objs.size = none := Heap.get?_none_of_le (by simp)
    have hVL : V s.heap.objs.size = none := by
      cases q : V s.heap.objs.size with
      | none => rfl
      | some o' => have := hVs _ _ q; rw [hLn] at this; cases this
    refine wpAny_execs_cons ?_
    refine assign_comp_seq (V₀ := V) (R := fun i V y => ∃ t', t.kids[i]? = some t' ∧ RP V t' y) (by rfl) rfl (fun b o e => keeps_of K0 b o (hVs b o e)) hsq (fun Q' q => ld F1 rfl q) (fun _ _ _ _ l ⟨t', e, x⟩ => ⟨t', e, x.mono l⟩) (by decide) (by decide) rfl (by decide) rfl (Nat.le_trans hz (by decide)) rfl rfl F1.ns hVL ?_ ?_ (by intro _; rfl)
    · intro C i v s₃ m₂ V₃ hv hns hm hV0 hV hC
      obtain ⟨t', ht', Hv⟩ := hall'.get i v (by simpa using hv)
      have W3 := (WV.keeps hV0).keeps hV
      refine Call_Name1 (gname W3 ⟨rfl, rfl, rfl⟩ rfl (lk_law_plain _ _) ?_) rfl
      refine callWith_g (k := 28) W3 (Glo.m28 _) (spliced_cons (wpAny_Name (wpAny_loadName_local rfl rfl hns hm (spliced_nil ⟨fun _ _ _ e => e, ?_⟩))))
      cases n with
      | zero => rw [T.kids_ht hs] at hn; (clear hC hLn hVL hm hn' hs ht' hv hz; omega)
      | succ n =>
        have := T.ht_mem ht'
        rw [T.kids_ht hs] at hn
        refine wpAny_mono (IH0 n rfl t' (by (clear hC hLn hVL hm hn' hs ht' hv hz; omega)) (by (clear hC hLn hVL hm hn hs ht' hv hz this; omega)) s₃ V₃ v hV (WV.keeps hV0) (Has.mono hV0 t' v Hv)) (fun r s₄ h => ?_) fun _ _ h => h.elim
        obtain ⟨k4, V4, X4, r4⟩ := h
        exact ⟨k4, V4, X4, t', ht', r4⟩
    · intro D h' tk V' ys ep hns hk E' hD hDn hz' hR
      dsimp only
      obtain ⟨h0, tk0, e0, kk0⟩ := K0
      have hkS : ∀ b o, s.heap.get? b = some o → h'.get? b = some o := fun b o e => hk b o (Nat.ne_of_lt (Heap.lt_size e)) (by rw [e0]; exact kk0 b o e)
      have F3 : Fr s.heap s.heap.objs.size h' _ := ⟨hns, hkS, Nat.le_refl _⟩
      have hDh : h'.get? D = some (listO ys ep) := E'.at' _ _ hD
      have hget : ∀ (i : Nat) t' v', t.kids[i]? = some t' → ys.toList[i]? = some v' → RP V' t' v' := fun i t' v' h1 h2 => by
        obtain ⟨t'', h3, h4⟩ := hR i v' (by simpa using h2)
        rw [h1] at h3
        cases h3
        exact h4
      have hlen : ys.toList.length = t.kids.length := by rw [Array.length_toList, hz', ← Array.length_toList, HasAll.length hall']
      have hys : ys.size ≤ 1000 := by (clear hD hDh hDn hLn hVL hlen hn hn' hs; omega)
      subst e0
      refine wpAny_execs_cons (wpAny_Return_some (wpAny_IfExp (wpAny_isTrue_Compare1 ?_ (by rfl))))
      refine wpAny_ListComp_map isN (fun v y => y = v) rfl (by decide) (by decide) rfl (by decide) rfl ?_ (by intro _; rfl)
      refine ld F3 rfl ⟨D, ys, rfl, ⟨_, hDh, rfl, ep, rfl⟩, Nat.le_trans hys (by decide), ?_, ?_, ?_⟩
      · intro C v s₅ m₅ E₅ hv hns5 hm5 _
        refine filter_name (wpAny_isTrue_Compare1 (wpAny_Name (wpAny_loadName_local rfl rfl hns5 hm5 (PyProof.Rows.Constant_none ?_))) (by rfl))
        have : ∀ id, v ≠ .builtin id := by
          obtain ⟨i, hi, e⟩ := Array.mem_iff_getElem.mp hv
          obtain ⟨t', _, h4⟩ := hR i v (by rw [Array.getElem?_eq_getElem hi, e])
          exact h4.notB
        exact is_none this (wpAny_truthy_bool ⟨rfl, keeps_refl _⟩)
      · intro C v s₅ m₅ E₅ hv _ hns5 hm5 _
        exact wpAny_Name (wpAny_loadName_local rfl rfl hns5 hm5 ⟨rfl, keeps_refl _⟩)
      · intro D2 h2 tk2 ys2 hD2 hl2 hP hk2
        have e2 := Paired.self hP
        refine wpAny_List (spliced_nil ⟨by size_fits, ?_⟩)
        dsimp only [List.length]
        have hl3 : (h2.push { cls := .type "list", data := .seq ([] : List Value).toArray }).IsList D2 ys2 := hl2.push _
        have hl4 : (h2.push { cls := .type "list", data := .seq ([] : List Value).toArray }).IsList h2.objs.size #[] := ⟨_, Heap.get?_push_size _ rfl, rfl, _, rfl⟩
        have up : ∀ b o, h'.get? b = some o → (h2.push { cls := .type "list", data := .seq ([] : List Value).toArray }).get? b = some o := fun b o e => Heap.get?_push_of_some _ (hk2 b o e)
        have hu : (AT n).units < cLine := by show 8800 - 80 * n < 9900; (clear e2 hD hD2 hDh hDn hLn hVL hlen hs hys hz hz'; omega)
        cases hp : T.plains t.kids with
        | none =>
          have hne := plains_none hp hlen hget
          have hs2 : (ys2.size != (#[] : Array Value).size) = true := by
            have : ys2.toList ≠ [] := by rw [e2]; exact hne
            simpa using this
          refine SeqAt.RcNeAt.lists_lengths hl3 hl4 hs2 hu _ _ _ _ (wpAny_truthy_bool ?_)
          refine PyProof.Rows.Constant_none ?_
          refine ⟨⟨_, _, rfl, fun b o e => up b o (hkS b o e)⟩, V, Ext.refl fun b o e => up b o (hkS b o (hVs b o e)), ?_⟩
          unfold RP
          rw [T.plain_kids hs, hp]
          rfl
        | some ps =>
          obtain ⟨hA, hf⟩ := plains_some hp hlen hget
          have hs2 : ys2 = #[] := by
            have : ys2.toList = [] := by rw [e2]; exact hf
            simpa using this
          subst hs2
          refine SeqAt.RcNeAt.lists hl3 hl4 rfl hu (e := fun _ => true) (fun j h1 _ => absurd h1 (Nat.not_lt_zero _)) _ _ _ _ (wpAny_truthy_bool ?_)
          refine ld (F3.keeps up) rfl ?_
          refine ⟨⟨_, _, rfl, fun b o e => up b o (hkS b o e)⟩, V', ⟨E'.le, fun b o e => up b o (E'.at' b o e), fun b o e => ?_⟩, ?_⟩
          · rcases E'.new b o e with q | q
            · exact .inl q
            · refine .inr ?_
              cases z : s.heap.get? b with
              | none => rfl
              | some o' => have := kk0 b o' z; rw [show h0.get? b = none from q] at this; cases this
          · unfold RP
            rw [T.plain_kids hs, hp]
            show Has V' (.lst ps) _
            unfold Has
            exact ⟨D, ys, ep, rfl, hD, hys, hA⟩
theorem plain_ok (w : World) (G : Glo) (n : Nat) : ∀ t : T, PlainC w G n t := by
  induction n with
  | zero => exact fun t => plain_ok_step fun m e => by cases e
  | succ n ih => exact fun t => plain_ok_step fun m e => by cases e; exact ih
end Mine
end Plain2_part
section HeadX_part

end HeadX_part
section LIns_part
open PySem PySem.W PySem.Calls PyProof.Rows
set_option Elab.async false
set_option maxRecDepth 100000
set_option maxHeartbeats 2000000
namespace Mine
section
variable {prog : Program} {w : World} {A : Around} {E : Value → Shared → Prop} {s : Shared}
theorem insert_zero {l : Addr} {vs : Array Value} {ep : Nat} {v : Value} {t0 : Tok} {Q : Value → Shared → Prop} (hl : s.heap.get? l = some (listO vs ep)) (hz : vs.size ≤ 1000)
    (hQ : ∀ h' ep', h'.get? l = some (listO (#[v] ++ vs) ep') → Heap.SameBut l s.heap h' → Q .none { s with heap := h' }) :
    wpAny (model prog w) A (call (.builtin "list.insert") [.ref l, .int 0 t0, v]) Q E s := by
  refine wpAny_call_entry F.slot_list_insert ⟨_, hl, rfl⟩ F.entry_list_insert ?_ (F.args_list_insert_3 _ _ _)
  show wpAny _ _ (updateSeq l (fun xs => (xs.extract 0 (min (0 : Int).toNat xs.size)).push v ++ xs.extract (min (0 : Int).toNat xs.size) xs.size) >>= fun _ => ret .none) _ _ s
  refine wpAny_bind ?_
  have e : ∀ xs : Array Value, (xs.extract 0 (min (0 : Int).toNat xs.size)).push v ++ xs.extract (min (0 : Int).toNat xs.size) xs.size = #[v] ++ xs := fun xs => by
    simp
  have hline : (1000 : Nat) ≤ sizeLine := by decide
  have hF : (fun xs : Array Value => (xs.extract 0 (min (0 : Int).toNat xs.size)).push v ++ xs.extract (min (0 : Int).toNat xs.size) xs.size) = fun xs => #[v] ++ xs := funext e
  rw [hF]
  have u := IsL.update hl (fun xs => #[v] ++ xs)
  have hz2 : (#[v] ++ vs).size ≤ sizeLine + 1 := by rw [Array.size_append]; simp only [List.size_toArray, List.length_cons, List.length_nil]; (clear hF hl; omega)
  exact wpAny_updateSeq hl rfl (wpAny_pure ⟨.none, rfl, hQ _ _ u (Heap.SameBut.update ..)⟩) (by (clear hF hl hz2; omega)) hz2
end
end Mine
end LIns_part
section Leaf4_part
open PySem PySem.W PySem.W.X PySem.Calls PyProof.Rows
set_option Elab.async false
set_option maxRecDepth 100000
set_option maxHeartbeats 20000000
namespace Mine
section
variable {prog : Program} {w : World} {h : Heap} {g : Array GenState} {d : Drawn} {tk : Nat} {os : OsState}
theorem len_list {vs : Array Value} {a : Addr} {ep : Nat} (hz : vs.size ≤ 100000) (ha : h.get? a = some ⟨.type "list", none, .seq vs ep, #[]⟩) : wpAny (model prog w) Amax (call (.builtin "len") [.ref a]) (fun r s' => Keeps ⟨h, g, d, tk, os⟩ s' ∧ ∃ t', r = .int vs.size t') (fun _ _ => False) ⟨h, g, d, tk, os⟩ :=
  PySem.Calls.call_len_list (s := ⟨h, g, d, tk, os⟩) ⟨_, ha, rfl, ep, rfl⟩ (by omega) ⟨⟨_, _, rfl, fun _ _ e => e⟩, _, rfl⟩
end
section
variable {prog : Program} {w : World} {h : Heap} {g : Array GenState} {d : Drawn} {tk : Nat} {os : OsState}
theorem isi_bytes {b : Array UInt8} {t0 : Tok} : wpAny (model prog w) Amax (call (.builtin "isinstance") [.bytes b t0, .type "bytes"]) (fun r s' => Keeps ⟨h, g, d, tk, os⟩ s' ∧ r = .bool true) (fun _ _ => False) ⟨h, g, d, tk, os⟩ :=
  PyProof.Rows.call_isinstance_yes (s := ⟨h, g, d, tk, os⟩) (PySem.W.typeIs_bytes _ _ _) PySem.F.isi_meta_bytes PySem.F.sub_bytes_bytes ⟨⟨_, _, rfl, fun _ _ e => e⟩, rfl⟩
theorem isi_bytes_list {vs : Array Value} {a : Addr} {ep : Nat} (ha : h.get? a = some ⟨.type "list", none, .seq vs ep, #[]⟩) : wpAny (model prog w) Amax (call (.builtin "isinstance") [.ref a, .type "bytes"]) (fun r s' => Keeps ⟨h, g, d, tk, os⟩ s' ∧ r = .bool false) (fun _ _ => False) ⟨h, g, d, tk, os⟩ :=
  PySem.IsiPair.list_bytes (s := ⟨h, g, d, tk, os⟩) ha rfl ⟨⟨_, _, rfl, fun _ _ e => e⟩, rfl⟩
end
end Mine
end Leaf4_part
section Head2_part
open PySem PySem.W PySem.Calls PyProof.Rows
set_option Elab.async false
set_option maxRecDepth 100000
set_option maxHeartbeats 4000000
namespace Mine
/-- the digits to 256 of a number below 65,536 -/
noncomputable def digs (size : Int) : List Int := if size < 256 then [size % 256] else [size / 256 % 256, size % 256]
noncomputable def headL (base size : Int) : List Int := if size < 56 then [base + size] else (base + 55 + (digs size).length) :: digs size
noncomputable def DRel (size cur : Int) (ds : List Int) : Prop := (ds = [] ∧ cur = size) ∨ (ds = [size % 256] ∧ cur = size / 256) ∨ (ds = [size / 256 % 256, size % 256] ∧ cur = size / 256 / 256 ∧ 256 ≤ size)
theorem DRel.step {size cur : Int} {ds : List Int} (h0 : 56 ≤ size) (h1 : size < 65536) (D : DRel size cur ds) (hc : 0 < cur) : DRel size (cur.fdiv 256) (cur.fmod 256 :: ds) ∧ (cur.fdiv 256).toNat < cur.toNat := by
  rw [Int.fdiv_eq_ediv_of_nonneg _ (by decide), Int.fmod_eq_emod_of_nonneg _ (by decide)]
  rcases D with ⟨rfl, rfl⟩ | ⟨rfl, rfl⟩ | ⟨rfl, rfl, _⟩
  · exact ⟨.inr (.inl ⟨rfl, rfl⟩), by (clear hc; omega)⟩
  · exact ⟨.inr (.inr ⟨rfl, rfl, by omega⟩), by omega⟩
  · omega
theorem DRel.fin {size cur : Int} {ds : List Int} (h0 : 56 ≤ size) (h1 : size < 65536) (D : DRel size cur ds) (hc : ¬ 0 < cur) : ds = digs size := by
  unfold digs
  rcases D with ⟨rfl, rfl⟩ | ⟨rfl, rfl⟩ | ⟨rfl, rfl, _⟩
  · (clear h1; omega)
  · rw [if_pos (by omega)]
  · rw [if_neg (by (clear hc; omega))]
theorem digs_range {size : Int} : ∀ n ∈ digs size, 0 ≤ n ∧ n < 256 := by
  intro n hn
  unfold digs at hn
  split at hn
  · simp at hn; omega
  · simp at hn; omega
theorem digs_len {size : Int} : (digs size).length ≤ 2 ∧ 1 ≤ (digs size).length := by unfold digs; split <;> simp
theorem Fr.change {h₀ h h' : Heap} {L D : Addr} {m : Str → Option Value} (F : Fr h₀ L h m) (hD : h₀.get? D = none) (hL : D ≠ L) (hs : Heap.SameBut D h h') : Fr h₀ L h' m :=
  ⟨F.ns.at' fun o e => hs.extBut L o hL.symm e, fun b o e => hs.extBut b o (fun q => by rw [q, hD] at e; cases e) (F.keep b o e), F.above⟩
noncomputable def HeadI (s : Shared) (base : Int) (t1 : Tok) (D : Addr) (size : Int) (n : Nat) (s' : Shared) : Prop :=
  ∃ h' tk cur ds vs ep m tkc, s' = { s with heap := h', toks := tk } ∧ Fr s.heap s.heap.objs.size h' m ∧ m "base" = some (.int base t1) ∧ m "size" = some (.int cur tkc) ∧ m "digits" = some (.ref D) ∧
    News s.heap s.heap.objs.size h' [(D, listO vs ep)] ∧ IntsAre vs.toList ds ∧ DRel size cur ds ∧ 0 ≤ cur ∧ n = cur.toNat ∧ vs.size ≤ 2
theorem HeadI.mk {s : Shared} {base : Int} {t1 : Tok} {D : Addr} {size : Int} {n : Nat} {h' : Heap} {tk : Nat} {cur : Int} {ds : List Int} {vs : Array Value} {ep : Nat} {m : Str → Option Value} {tkc : Tok}
    (F' : Fr s.heap s.heap.objs.size h' m) (mb : m "base" = some (.int base t1)) (ms : m "size" = some (.int cur tkc)) (md : m "digits" = some (.ref D)) (N' : News s.heap s.heap.objs.size h' [(D, listO vs ep)]) (hI : IntsAre vs.toList ds) (hD : DRel size cur ds) (hc : 0 ≤ cur) (hn : n = cur.toNat) (hv : vs.size ≤ 2) :
    HeadI s base t1 D size n { s with heap := h', toks := tk } := ⟨h', tk, cur, ds, vs, ep, m, tkc, rfl, F', mb, ms, md, N', hI, hD, hc, hn, hv⟩
@[elab_as_elim] theorem HeadI.elim {s : Shared} {base : Int} {t1 : Tok} {D : Addr} {size : Int} {C : Nat → Shared → Prop} {n : Nat} {s' : Shared} (h : HeadI s base t1 D size n s')
    (H : ∀ (h' : Heap) (tk : Nat) (cur : Int) (ds : List Int) (vs : Array Value) (ep : Nat) (m : Str → Option Value) (tkc : Tok), Fr s.heap s.heap.objs.size h' m → m "base" = some (.int base t1) → m "size" = some (.int cur tkc) → m "digits" = some (.ref D) →
      News s.heap s.heap.objs.size h' [(D, listO vs ep)] → IntsAre vs.toList ds → DRel size cur ds → 0 ≤ cur → vs.size ≤ 2 → C cur.toNat { s with heap := h', toks := tk }) : C n s' := by
  obtain ⟨h', tk, cur, ds, vs, ep, m, tkc, rfl, F', mb, ms, md, N', hI, hD, hc, rfl, hv⟩ := h
  exact H h' tk cur ds vs ep m tkc F' mb ms md N' hI hD hc hv
section
variable {w : World} {s : Shared} {G : Glo}
theorem head_sh {n : Nat} (hn : n < 100) {base size : Int} {t1 t2 : Tok} (W : Wld w G s.heap.get?) (b0 : 128 ≤ base) (b1 : base ≤ 192) (h0 : 0 ≤ size) (h1 : size < 56) :
    wpAny (model pw w) (AT (n + 1)) (call (.ref G.a29) [.int base t1, .int size t2]) (fun r s' => Keeps s s' ∧ ∃ t', r = .bytes (byteArr [base + size]) t') (fun _ _ => False) s := by
  refine call_fn (k := 29) (binds := [("base", .int base t1), ("size", .int size t2)]) (by (clear b0 b1 h0 h1; omega)) W (Glo.m29 _) (by kernel_rfl) (fun pm cd doc => by kernel_rfl) (by kernel_rfl) fun h₁ cd FF => ?_
  refine wpQ fun Q0 q0 => ?_
  have W' := W.keeps FF.keep
  refine wpAny_execs_cons (If_t (fun Q' q => wpAny_isTrue_Compare1 (ld FF rfl (wpAny_Constant_int (lt_int (wpAny_truthy_bool (by rw [decide_eq_true h1]; exact q))))) (by rfl)) ?_)
  refine wpAny_execs_cons (wpAny_Return_some <| wpQ fun Q1 q1 => (Call_Name1 (bname W' ⟨rfl, rfl, rfl⟩ rfl (glo_bytes _ _) (blt_bytes _) ?_) rfl))
  refine PyProof.Rows.callWith_type rfl (evalArgs_plain (spliced_cons (wpAny_List (spliced_cons (wpAny_BinOp (ld FF rfl (ld FF rfl (add_int (spliced_nil ⟨by size_fits, spliced_nil ?_⟩)))))))))
  refine call_bytes_ints (vs := [Value.int (base + size) _]) (ns := [base + size]) ⟨_, Heap.get?_push_size _ rfl, rfl, 0, rfl⟩ (.cons _ _ .nil) ?_ (by show 1 ≤ sizeLine; decide) rfl (fun h' t k hk => ?_)
  · intro n hn
    rw [List.mem_singleton.mp hn]
    omega
  · exact q1 _ _ <| q0 _ _ ⟨⟨_, _, rfl, fun b o e => hk b o (Heap.get?_push_of_some _ (FF.keep b o e))⟩, t, rfl⟩
theorem head_lg {n : Nat} (hn : n < 100) {base size : Int} {t1 t2 : Tok} (W : Wld w G s.heap.get?) (b0 : 128 ≤ base) (b1 : base ≤ 192) (h0 : 0 ≤ size) (h1 : size < 65536) (hs : ¬ size < 56) :
    wpAny (model pw w) (AT (n + 1)) (call (.ref G.a29) [.int base t1, .int size t2]) (fun r s' => Keeps s s' ∧ ∃ t', r = .bytes (byteArr (headL base size)) t') (fun _ _ => False) s := by
  refine call_fn (k := 29) (binds := [("base", .int base t1), ("size", .int size t2)]) (by (clear b0 b1 h0 h1 hs; omega)) W (Glo.m29 _) (by kernel_rfl) (fun pm cd doc => by kernel_rfl) (by kernel_rfl) fun h₁ cd FF => ?_
  refine wpQ fun Q0 q0 => ?_
  refine wpAny_execs_cons (If_f (fun Q' q => wpAny_isTrue_Compare1 (ld FF rfl (wpAny_Constant_int (lt_int (wpAny_truthy_bool (by rw [decide_eq_false hs]; exact q))))) (by rfl)) ?_)
  refine wpAny_execs_nil ?_
  dsimp only
  refine wpAny_execs_cons (wpAny_Assign_Name (wpAny_List (spliced_nil ⟨by size_fits, ?_⟩)) (by rfl))
  have F1 := FF.push { cls := .type "list", data := .seq ([] : List Value).toArray }
  have N1 : News s.heap s.heap.objs.size _ _ := News.push FF News.nil { cls := .type "list", data := .seq ([] : List Value).toArray }
  refine stN F1 N1 (fun h₂ F₂ N₂ => ?_)
  dsimp only
  refine wpAny_execs_cons (wpAny_While ?_)
  refine codeAny_whileLoop (HeadI s base t1 h₁.objs.size size) ?_ size.toNat (HeadI.mk F₂ rfl rfl rfl N₂ .nil (.inl ⟨rfl, rfl⟩) h0 rfl (by simp))
  intro k s' hI
  refine hI.elim fun h' tk cur ds vs ep m tkc F' mb ms md N' hI D hc hv => ?_
  have hN := N' _ (.head _)
  refine wpAny_isTrue_Compare1 (ld F' ms (wpAny_Constant_int (gt_int (wpAny_truthy_bool ?_)))) (by rfl)
  by_cases hpos : 0 < cur
  · rw [decide_eq_true hpos]
    refine wpAny_execs_cons (wpAny_Expr ?_ (by rfl) (by rfl))
    refine wpAny_Call_method2_late (by rfl) (by rfl) (by rfl) (ld F' md ?_)
    refine ⟨"list", "list.insert", F.plainAttrs_list, F.slot_list_insert, F.type_list_insert, ⟨_, hN.1, rfl⟩, ?_, ?_⟩
    · rintro a ea
      cases ea
      exact ⟨_, hN.1, rfl⟩
    · refine Calls.callWith_builtin rfl (evalArgs_plain (spliced_cons (wpAny_Constant_int (spliced_cons (wpAny_BinOp (ld F' ms (wpAny_Constant_int (mod_int (by decide) (spliced_nil ?_)))))))))
      refine insert_zero hN.1 (by (clear b0 b1 h0 h1 hN hc hn hpos hs mb md ms; omega)) (fun h'' ep' e1 hs1 => ?_)
      dsimp only
      have F'' := Fr.change F' hN.2.2 hN.2.1 hs1
      have N'' : News s.heap s.heap.objs.size h'' [(h₁.objs.size, listO _ ep')] := fun p hp => by
        rw [List.mem_singleton.mp hp]
        exact ⟨e1, hN.2.1, hN.2.2⟩
      refine wpAny_execs_cons (wpAny_Assign_Name (wpAny_BinOp (ld F'' ms (wpAny_Constant_int (floordiv_int (by decide) ?_)))) (by rfl))
      refine stN F'' N'' (fun h3 F3 N3 => wpAny_execs_nil ?_)
      dsimp only
      obtain ⟨D', hlt⟩ := D.step (by (clear b0 b1 e1 hN hc hn hpos hv mb md ms; omega)) h1 hpos
      have hv2 : vs.size < 2 := by
        rcases D with ⟨rfl, _⟩ | ⟨rfl, _⟩ | ⟨rfl, rfl, _⟩
        · have := hI.length; simp at this; simp [this]
        · have := hI.length; simp at this; (clear b0 b1 e1 h0 h1 hN hc hlt hn hpos hs hv mb md ms; omega)
        · (clear b0 b1 e1 hN hc hlt hn hv mb md ms; omega)
      exact ⟨_, hlt, HeadI.mk F3 ((if_neg (by decide)).trans mb) (if_pos rfl) ((if_neg (by decide)).trans md) N3 (by simpa using IntsAre.cons _ _ hI) D' (by rw [Int.fdiv_eq_ediv_of_nonneg _ (by decide)]; (clear b0 b1 e1 h0 h1 hN hc hlt hn hs hv hv2 mb md ms; omega)) rfl (by simp; (clear b0 b1 e1 h0 h1 hN hc hlt hn hpos hs mb md ms; omega))⟩
  · rw [decide_eq_false hpos]
    have hds := D.fin (by (clear b0 b1 hN hc hn hpos hv mb md ms; omega)) h1 hpos
    subst hds
    refine wpAny_execs_nil ?_
    dsimp only
    have W' := W.keeps F'.keep
    refine wpAny_execs_cons (wpAny_Return_some <| wpQ fun Q1 q1 => (Call_Name1 (bname W' ⟨rfl, rfl, rfl⟩ rfl (glo_bytes _ _) (blt_bytes _) ?_) rfl))
    refine PyProof.Rows.callWith_type rfl (evalArgs_plain (spliced_cons (wpAny_BinOp (wpAny_List (spliced_cons (wpAny_BinOp (wpAny_BinOp (ld F' mb (wpAny_Constant_int (add_int ?_))))))))))
    refine Call_Name1 (bname W' ⟨rfl, rfl, rfl⟩ rfl (glo_len _ _) (blt_len _) ?_) rfl
    refine callWith_builtin rfl (evalArgs_plain (spliced_cons (ld F' md (spliced_nil ?_))))
    refine mono_k (at_max (len_list (by (clear b0 b1 h0 h1 hN hc hn hpos hs mb md ms; omega)) hN.1)) fun h4 tk4 t' k4 => ?_
    refine add_int (spliced_nil ⟨by size_fits, ?_⟩)
    dsimp only at k4 ⊢
    have F5 : Fr s.heap s.heap.objs.size _ _ := (F'.keeps k4).push { cls := .type "list", data := .seq [Value.int (base + 55 + vs.size) tk4].toArray }
    have e5 := Heap.get?_push_of_some { cls := .type "list", data := .seq [Value.int (base + 55 + vs.size) tk4].toArray } (k4 _ _ hN.1)
    refine ld F5 md ?_
    have hline : (1000 : Nat) ≤ sizeLine := by decide
    refine P.add_list (IsL.new _ _) e5 (spliced_nil ?_) (by simp only [List.size_toArray, List.length_cons, List.length_nil]; (clear b0 b1 e5 h0 h1 hN hc hn hpos hs mb md ms; omega))
    have hlen : vs.size = (digs size).length := by rw [← Array.length_toList]; exact hI.length
    have hh : headL base size = (base + 55 + (digs size).length) :: digs size := by unfold headL; rw [if_neg hs]
    have hl2 := digs_len (size := size)
    refine call_bytes_ints (vs := Value.int (base + 55 + vs.size) tk4 :: vs.toList) (ns := headL base size) ⟨_, Heap.get?_push_size _ rfl, rfl, 0, ?_⟩ ?_ ?_ ?_ rfl (fun h' t k hk => ?_)
    · dsimp only
      congr 1
      simp
    · rw [hh, hlen]
      exact .cons _ _ hI
    · rw [hh]
      intro n hn
      rcases List.mem_cons.mp hn with rfl | hn
      · (clear e5 h0 h1 hN hc hh hline hpos hs mb md ms; omega)
      · exact digs_range n hn
    · simp; (clear b0 b1 e5 h0 h1 hN hc hh hn hpos hs mb md ms; omega)
    · exact q1 _ _ <| q0 _ _ ⟨⟨_, _, rfl, fun b o e => hk b o (Heap.get?_push_of_some _ (F5.keep b o e))⟩, t, rfl⟩
theorem head_ok {n : Nat} (hn : n < 100) {base size : Int} {t1 t2 : Tok} (W : Wld w G s.heap.get?) (b0 : 128 ≤ base) (b1 : base ≤ 192) (h0 : 0 ≤ size) (h1 : size < 65536) :
    wpAny (model pw w) (AT (n + 1)) (call (.ref G.a29) [.int base t1, .int size t2]) (fun r s' => Keeps s s' ∧ ∃ t', r = .bytes (byteArr (headL base size)) t') (fun _ _ => False) s := by
  by_cases hs : size < 56
  · unfold headL
    rw [if_pos hs]
    exact head_sh hn W b0 b1 h0 hs
  · exact head_lg hn W b0 b1 h0 h1 hs
end
end Mine
end Head2_part
section Put_part
open PySem PySem.W PySem.Calls PyProof.Rows
set_option Elab.async false
set_option maxRecDepth 100000
set_option maxHeartbeats 4000000
namespace Mine
mutual
noncomputable def T.isP : T → Bool
  | .byt _ => true
  | .lst xs => T.isPs xs
  | _ => false
noncomputable def T.isPs : List T → Bool
  | [] => true
  | x :: xs => T.isP x && T.isPs xs
end
mutual
/-- the encoding told by the law -/
noncomputable def T.put : T → Array UInt8
  | .byt b => if b.size = 1 ∧ b.toList.getD 0 0 < 128 then b else byteArr (headL 128 b.size) ++ b
  | .lst xs => byteArr (headL 192 (T.puts xs).size) ++ T.puts xs
  | _ => #[]
noncomputable def T.puts : List T → Array UInt8
  | [] => #[]
  | x :: xs => T.put x ++ T.puts xs
end
theorem T.puts_take : ∀ (xs : List T) (i : Nat) (t : T), xs[i]? = some t → T.puts (xs.take (i + 1)) = T.puts (xs.take i) ++ t.put
  | [], i, t, h => by simp at h
  | x :: xs, 0, t, h => by
    simp at h
    subst h
    simp [T.puts]
  | x :: xs, i + 1, t, h => by
    have := T.puts_take xs i t (by simpa using h)
    simp only [List.take_succ_cons, T.puts, this, Array.append_assoc]
theorem T.put_le : ∀ (xs : List T) (i : Nat) (t : T), xs[i]? = some t → t.put.size ≤ (T.puts xs).size
  | [], i, t, h => by simp at h
  | x :: xs, 0, t, h => by simp at h; subst h; simp [T.puts]
  | x :: xs, i + 1, t, h => by
    have := T.put_le xs i t (by simpa using h)
    simp [T.puts]; (clear h; omega)
theorem T.puts_take_le : ∀ (xs : List T) (i : Nat), (T.puts (xs.take i)).size ≤ (T.puts xs).size
  | [], i => by simp
  | x :: xs, 0 => by simp [T.puts]
  | x :: xs, i + 1 => by
    have := T.puts_take_le xs i
    simp [T.puts]; omega
theorem T.isP_mem : ∀ {xs : List T} {i : Nat} {t : T}, T.isPs xs = true → xs[i]? = some t → t.isP = true
  | [], i, t, _, h => by simp at h
  | x :: xs, 0, t, p, h => by simp [T.isPs] at p h; subst h; exact p.1
  | x :: xs, i + 1, t, p, h => by simp [T.isPs] at p; exact T.isP_mem p.2 (by simpa using h)
theorem headL_len {base size : Int} : (headL base size).length ≤ 3 := by
  unfold headL
  have := digs_len (size := size)
  split <;> simp <;> omega
section
noncomputable def PutC (w : World) (G : Glo) (n : Nat) (t : T) : Prop := t.ht ≤ n → n ≤ 60 → t.isP = true → t.put.size < 65536 → ∀ (s : Shared) (V : View) (v : Value), VLe V s.heap.get? → Wld w G V → Has V t v →
    wpAny (model pw w) (AT (n + 2)) (call (.ref G.a30) [v]) (fun r s' => Keeps s s' ∧ ∃ tk, r = .bytes t.put tk) (fun _ _ => False) s
theorem put_ok_step {w : World} {G : Glo} {n : Nat} {t : T} (IH0 : ∀ m, n = m + 1 → ∀ t', PutC w G m t') : PutC w G n t := by
  intro hn hn' hp hz s V v hVs WV HV
  have W := WV.keeps hVs
  have H := Has.mono hVs t v HV
  refine call_fn (k := 30) (binds := [("item", v)]) (by (clear hn hp hz; omega)) W (Glo.m30 _) (by kernel_rfl) (fun pm cd doc => by kernel_rfl) (by kernel_rfl) fun h₁ cd F => ?_
  have W1 : Wld w G h₁.get? := W.keeps F.keep
  refine wpAny_execs_cons (wpAny_If (isTrue_plain ?_))
  refine Call_Name2 (bname W1 ⟨rfl, rfl, rfl⟩ rfl (glo_isinstance _ _) (blt_isinstance _) ?_) rfl
  refine callWith_builtin rfl (evalArgs_plain (spliced_cons (ld F rfl (spliced_cons (bname W1 ⟨rfl, rfl, rfl⟩ rfl (glo_bytes _ _) (blt_bytes _) (spliced_nil ?_))))))
  cases t with
  | byt b =>
    unfold Has at H
    obtain ⟨hb, tb, rfl⟩ := H
    refine mono_k0 (at_max isi_bytes) fun h2 tk2 k2 => ?_
    dsimp only at k2 ⊢
    have F2 := F.keeps k2
    have W2 := W1.keeps k2
    refine wpAny_truthy_bool ?_
    have hk2 : ∀ b o, s.heap.get? b = some o → h2.get? b = some o := fun b o e => k2 b o (F.keep b o e)
    have tail : ∀ {p1 p2 p3 p4 p5 p6 p7 p8 : Pos} {k1 : Nat} (tk : Nat), ¬ (b.size = 1 ∧ b.toList.getD 0 0 < 128) → wpAny (model pw w) (AT (n + 1)) (eval (.BinOp (.Call (.Name "_law_head" p1) [.Constant (.int 128) k1 p2, .Call (.Name "len" p3) [.Name "item" p4] [] p5] [] p6) .Add (.Name "item" p7) p8) (envOf (fd 30).name (fd 30).scope s.heap.objs.size G.a30 cd)) (fun v s' => Keeps s s' ∧ ∃ t', v = .bytes (T.put (.byt b)) t') (fun _ _ => False) { s with heap := h2, toks := tk } := by
      intro p1 p2 p3 p4 p5 p6 p7 p8 k1 tk hno
      refine wpAny_BinOp (Call_Name2 (gname W2 ⟨rfl, rfl, rfl⟩ rfl (lk_law_head _ _) ?_) rfl)
      refine callWith_g (k := 29) W2 (Glo.m29 _) (spliced_cons (wpAny_Constant_int (spliced_cons ?_)))
      refine Call_Name1 (bname W2 ⟨rfl, rfl, rfl⟩ rfl (glo_len _ _) (blt_len _) ?_) rfl
      refine callWith_builtin rfl (evalArgs_plain (spliced_cons (ld F2 rfl (spliced_nil ?_))))
      refine PySem.W.len_bytes (by (clear hn hn' hno hp hz; omega)) (spliced_nil ⟨fun _ _ _ e => e, ?_⟩)
      refine mono_k (head_ok (n := n) (by (clear hb hn hno hp hz; omega)) W2 (by decide) (by decide) (by (clear hn hn' hno hp hz; omega)) (by (clear hn hn' hno hp hz; omega))) fun h3 tk3 t3 k3 => ?_
      refine ld (F2.keeps k3) rfl ?_
      refine KBy.add_bytes ?_ (fun t' k => ⟨⟨_, _, rfl, fun b o e => k3 b o (hk2 b o e)⟩, t', ?_⟩)
      · have : (byteArr (headL 128 b.size)).size ≤ 3 := by rw [byteArr_size]; exact headL_len
        (clear hn hn' hno hp hz; omega)
      · unfold T.put
        rw [if_neg hno]
    refine wpAny_execs_cons (wpAny_If (isTrue_and (wpAny_isTrue_Compare1 ?_ (by rfl))))
    refine Call_Name1 (bname W2 ⟨rfl, rfl, rfl⟩ rfl (glo_len _ _) (blt_len _) ?_) rfl
    refine callWith_builtin rfl (evalArgs_plain (spliced_cons (ld F2 rfl (spliced_nil ?_))))
    refine PySem.W.len_bytes (by (clear hn hn' hp hz; omega)) (wpAny_Constant_int (eq_int (wpAny_truthy_bool ?_)))
    by_cases e1 : b.size = 1
    · have c1 : ((b.size : Int) == 1) = true := by simp [e1]
      rw [c1, if_pos rfl]
      refine isTrue_and (wpAny_isTrue_Compare1 (Subscript_ (ld F2 rfl (wpAny_Constant_int (KBy.item_N (x := b.toList) (by simp; (clear c1 hb hn hn' hp hz; omega)) (by decide) (by simp; (clear c1 hb hn hn' hp hz; omega)) ?_)))) (by rfl))
      refine wpAny_Constant_int (lt_int (wpAny_truthy_bool ?_))
      by_cases e2 : b.toList.getD 0 0 < 128
      · have c2 : decide ((((b.toList.getD (0 : Int).toNat 0).toNat : Nat) : Int) < 128) = true := by
          have : (b.toList.getD 0 0).toNat < 128 := UInt8.lt_iff_toNat_lt.mp e2
          refine decide_eq_true ?_
          show (((b.toList.getD 0 0).toNat : Nat) : Int) < 128
          (clear c1 e1 hb hn hn' hp hz; omega)
        rw [c2, if_pos rfl]
        refine isTrue_and_nil ?_
        rw [if_pos rfl]
        refine wpAny_execs_cons (wpAny_Return_some (ld F2 rfl ?_))
        refine ⟨⟨_, _, rfl, hk2⟩, tb, ?_⟩
        unfold T.put
        rw [if_pos ⟨e1, e2⟩]
      · have c2 : decide ((((b.toList.getD (0 : Int).toNat 0).toNat : Nat) : Int) < 128) = false := by
          have : ¬ (b.toList.getD 0 0).toNat < 128 := fun x => e2 (UInt8.lt_iff_toNat_lt.mpr x)
          refine decide_eq_false ?_
          show ¬ (((b.toList.getD 0 0).toNat : Nat) : Int) < 128
          (clear c1 e1 hb hn hn' hp hz; omega)
        rw [c2, if_neg (by simp)]
        rw [if_neg (by simp)]
        refine wpAny_execs_nil ?_
        refine wpAny_execs_cons (wpAny_Return_some ?_)
        exact tail _ (fun h => e2 h.2)
    · have c1 : ((b.size : Int) == 1) = false := by simp; (clear hb hn hn' hp hz; omega)
      rw [c1, if_neg (by simp)]
      rw [if_neg (by simp)]
      refine wpAny_execs_nil ?_
      refine wpAny_execs_cons (wpAny_Return_some ?_)
      exact tail _ (fun h => e1 h.1)
  | lst xs =>
    have HV' := HV
    unfold Has at HV'
    obtain ⟨a, vs, ep, rfl, ea, hvz, hall⟩ := HV'
    refine mono_k0 (at_max (isi_bytes_list (F.keep _ _ (hVs _ _ ea)))) fun h2 tk2 k2 => ?_
    have F2 := F.keeps k2
    refine wpAny_truthy_bool ?_
    refine wpAny_execs_nil ?_
    dsimp only
    refine wpAny_execs_cons (wpAny_Assign_Name (Constant_bytes ?_) (by rfl))
    refine st F2 (fun h3 F3 => ?_)
    dsimp only
    have e3 := F3.keep _ _ (hVs _ _ ea)
    have hput : T.put (.lst xs) = byteArr (headL 192 (T.puts xs).size) ++ T.puts xs := by unfold T.put; rfl
    have hbody : (T.puts xs).size < 65536 := by rw [hput, Array.size_append] at hz; (clear e3 ea hn hn' hp hput hvz; omega)
    unfold T.isP at hp
    refine wpAny_execs_cons (For_invG s.heap rfl rfl (ld F3 rfl (seq_src rfl (.l ep e3) fun o St hlive WW hst ho => ?_)) (by intro _; rfl))
    have hIn : s.heap.get? h3.objs.size = none := by
      cases q : s.heap.get? h3.objs.size with
      | none => rfl
      | some o' => exact absurd (Heap.lt_size (F3.keep _ _ q)) (Nat.lt_irrefl _)
    have hL3 : s.heap.objs.size < h3.objs.size := F3.ns.lt
    have haL : a ≠ s.heap.objs.size := Nat.ne_of_lt (Heap.lt_size (hVs _ _ ea))
    refine ⟨_, _, _, _, _, St, _, [], fun i m _ => ∃ tk, m "body" = some (.bytes (T.puts (xs.take i)) tk), rfl, WW, ?_, ?_, (fun _ h => nomatch h), ?_, hst, F3.push o, News.nil, ⟨_, rfl⟩, ?_, ?_⟩
    · intro h
      simp at h
      rcases h with h | h
      · exact Nat.ne_of_lt hL3 h
      · exact haL h.symm
    · intro b hb
      rw [List.mem_singleton.mp hb]
      exact hIn
    · intro i h st b hb
      rw [List.mem_singleton.mp hb]
      exact hlive i h st
    · intro i v m₁ news₁ s₁ own hi hP hJ hsuf hown hownat hst' F' N'
      obtain ⟨tkb, hmb⟩ := hJ
      obtain ⟨t', ht', Hv⟩ := hall.get i v (by simpa using hP)
      have W4 : Wld w G s₁.heap.get? := W.keeps F'.keep
      refine wpAny_execs_cons (wpAny_Assign_Name (wpAny_BinOp (ld F' ((if_neg (by decide)).trans hmb) ?_)) (by rfl))
      refine Call_Name1 (gname W4 ⟨rfl, rfl, rfl⟩ rfl (lk_law_put _ _) ?_) rfl
      refine callWith_g (k := 30) W4 (Glo.m30 _) (spliced_cons (ld F' (if_pos rfl) (spliced_nil ⟨fun _ _ _ e => e, ?_⟩)))
      cases n with
      | zero => unfold T.ht at hn; (clear e3 ea hIn hL3 hP haL hbody hi hmb hn' ho hp hput ht' hvz hz; omega)
      | succ n =>
        have hh := T.ht_mem ht'
        unfold T.ht at hn
        have hle := T.put_le xs i t' ht'
        have htl := T.puts_take_le xs i
        refine mono_k (IH0 n rfl t' (by (clear e3 ea hIn hL3 hP haL hbody hi hle hmb hn' ho hp hput ht' htl hvz hz; omega)) (by (clear e3 ea hIn hL3 hP haL hbody hh hi hle hmb hn ho hp hput ht' htl hvz hz; omega)) (T.isP_mem hp ht') (by (clear e3 ea hIn hL3 hP haL hh hi hmb hn hn' ho hp hput ht' htl hvz hz; omega)) s₁ V v (fun b o e => F'.keep b o (hVs b o e)) WV Hv) fun h4 tk4 t4 k4 => ?_
        refine KBy.add_bytes (by (clear e3 ea hIn hL3 hP haL hh hi hmb hn hn' ho hp hput ht' hvz hz; omega)) (fun t5 k5 => ?_)
        refine stN (F'.keeps k4) (fun p hp => ⟨k4 _ _ (N' p hp).1, (N' p hp).2⟩) (fun h6 F6 N6 => wpAny_execs_nil ?_)
        refine LoopStepG.intro [] F6 N6 (fun _ h => nomatch h) ⟨t5, ?_⟩
        rw [T.puts_take xs i t' ht']
        exact if_pos rfl
    · intro h7 tk7 m7 news7 F7 N7 _ hJ7
      obtain ⟨tk8, hm8⟩ := hJ7
      have hlen : vs.size = xs.length := by rw [← Array.length_toList]; exact hall.length
      rw [hlen, List.take_length] at hm8
      have W7 : Wld w G h7.get? := W.keeps F7.keep
      dsimp only
      refine wpAny_execs_cons (wpAny_Return_some (wpAny_BinOp (Call_Name2 (gname W7 ⟨rfl, rfl, rfl⟩ rfl (lk_law_head _ _) ?_) rfl)))
      refine callWith_g (k := 29) W7 (Glo.m29 _) (spliced_cons (wpAny_Constant_int (spliced_cons ?_)))
      refine Call_Name1 (bname W7 ⟨rfl, rfl, rfl⟩ rfl (glo_len _ _) (blt_len _) ?_) rfl
      refine callWith_builtin rfl (evalArgs_plain (spliced_cons (ld F7 hm8 (spliced_nil ?_))))
      refine PySem.W.len_bytes (by (clear e3 ea hIn hL3 haL hlen hm8 hn hn' ho hp hput hvz hz; omega)) (spliced_nil ⟨fun _ _ _ e => e, ?_⟩)
      refine mono_k (head_ok (n := n) (by (clear e3 ea hIn hL3 haL hbody hlen hm8 hn ho hp hput hvz hz; omega)) W7 (by decide) (by decide) (by (clear e3 ea hIn hL3 haL hlen hm8 hn hn' ho hp hput hvz hz; omega)) (by (clear e3 ea hIn hL3 haL hlen hm8 hn hn' ho hp hput hvz hz; omega))) fun h8 tk8 t8 k8 => ?_
      refine ld (F7.keeps k8) hm8 ?_
      refine KBy.add_bytes ?_ (fun t' k => ⟨⟨_, _, rfl, fun b o e => k8 b o (F7.keep b o e)⟩, t', ?_⟩)
      · have : (byteArr (headL 192 (T.puts xs).size)).size ≤ 3 := by rw [byteArr_size]; exact headL_len
        (clear e3 ea hIn hL3 haL hlen hm8 hn hn' ho hp hput hvz hz; omega)
      · rw [hput]
  | _ => cases hp
theorem put_ok (w : World) (G : Glo) (n : Nat) : ∀ t : T, PutC w G n t := by
  induction n with
  | zero => exact fun t => put_ok_step fun m e => by cases e
  | succ n ih => exact fun t => put_ok_step fun m e => by cases e; exact ih
end
end Mine
end Put_part
section Slice_part
open PySem PySem.W PySem.Calls PyProof.Rows
set_option Elab.async false
set_option maxRecDepth 100000
set_option maxHeartbeats 4000000
namespace Mine
theorem bInts_inj {b : Array UInt8} {l : List UInt8} (h : KBw.bInts b = l.map fun c => (c.toNat : Int)) : b = l.toArray := by
  unfold KBw.bInts at h
  have h2 : b.toList = l := by
    generalize b.toList = x at h
    induction x generalizing l with
    | nil => cases l with
      | nil => rfl
      | cons => simp at h
    | cons a x ih => cases l with
      | nil => simp at h
      | cons c l =>
        simp only [List.map_cons, List.cons.injEq] at h
        have : a = c := UInt8.toNat_inj.mp (by omega)
        rw [this, ih h.2]
  rw [← h2]
section
variable {w : World} {A : Around} {E : Value → Shared → Prop} {s : Shared} {env : Env} {prog : Program} {h₀ : Heap} {L : Addr} {m : Str → Option Value}
theorem picked_nat {x : List UInt8} {i j : Nat} (hi : i ≤ x.length) : KBy.picked x.toArray (some (i : Int)) (some (j : Int)) = ((x.drop i).take (j - i)).toArray := by
  refine bInts_inj ?_
  rw [KBc.ints_picked (b := x.toArray) (ks := x.map fun c => (c.toNat : Int)) rfl]
  simp only [Option.elim, List.length_map]
  rw [clipAt_nat, clipAt_nat, Nat.min_eq_left hi, List.map_take, List.map_drop]
  by_cases hj : j ≤ x.length
  · rw [Nat.min_eq_left hj]
  · rw [Nat.min_eq_right (by (clear hi; omega)), List.take_of_length_le (by simp), List.take_of_length_le (by simp; (clear hi; omega))]
theorem sub_slice {value e1 e2 : Expr} {p pos : Pos} {x : List UInt8} {t : Tok} {Q : Value → Shared → Prop}
    (h : wpAny (model prog w) A (eval value env) (fun o s₁ => wpAny (model prog w) A (eval e1 env) (fun l s₂ => wpAny (model prog w) A (eval e2 env) (fun u s₃ => ∃ (i j : Nat) (ti tj : Tok), o = .bytes x.toArray t ∧ l = .int i ti ∧ u = .int j tj ∧ i ≤ x.length ∧ x.length ≤ 100000 ∧ Fr h₀ L s₃.heap m ∧
      ∀ h' t' k, Fr h₀ L h' m → Q (.bytes ((x.drop i).take (j - i)).toArray t') { s₃ with heap := h', toks := k }) E s₂) E s₁) E s)
    (ht : ∀ o r, letTemporaryGo value o r = pure () := by intro _ _; rfl) :
    wpAny (model prog w) A (eval (.Subscript value (.Slice (some e1) (some e2) none p) pos) env) Q E s := by
  refine wpAny_Subscript_Slice (T := "bytes") FB.slot_bytes_getitem.lookup (wpAny_mono h (fun o s₁ h₁ => ?_) fun _ _ e => e) ht
  refine wpAny_Slice (wpAny_mono (t := eval e1 env) h₁ (fun l s₂ h₂ => wpAny_mono (t := eval e2 env) h₂ (fun u s₃ h₃ => ?_) fun _ _ e => e) fun _ _ e => e)
  obtain ⟨i, j, ti, tj, rfl, rfl, rfl, hi, hx, F, hQ⟩ := h₃
  refine wpAny_pure ?_
  refine ⟨typeIs_bytes _ _ _, ?_⟩
  refine getItem_meets (typeIs_bytes _ _ _) (by decide) FB.slot_bytes_getitem FB.entry_bytes_getitem (FB.args_bytes_getitem_2 _ _) (KBc.meets_slice2 x.toArray t _ (.int i ti) (.int j tj)) ⟨Heap.IsSliceOf.new _ _ _ _, ?_, fun t' k => ?_⟩
  · refine Nat.le_trans (KBc.size_picked_le _ _ _) ?_
    have : (100000 : Nat) ≤ sizeLine := by decide
    simp
    (clear hi; omega)
  · rw [picked_nat hi]
    exact hQ _ t' k (F.push _)
end
end Mine
end Slice_part
section Ev_part
open PySem PySem.W PySem.Calls PyProof.Rows
set_option Elab.async false
set_option maxRecDepth 100000
set_option maxHeartbeats 2000000
namespace Mine
section
variable {prog : Program} {w : World} {A : Around} {env : Env} {h h₀ : Heap} {g : Array GenState} {d : Drawn} {tk : Nat} {os : OsState} {L : Addr} {m : Str → Option Value} {E : Value → Shared → Prop}
variable {name : Str} {scope : Scope} {a : Addr} {cd : Value}
/-- an expression that gives a number and writes nothing -/
noncomputable def EvI (prog : Program) (w : World) (A : Around) (env : Env) (h : Heap) (g : Array GenState) (d : Drawn) (os : OsState) (e : Expr) (i : Int) : Prop :=
  ∀ (Q : Value → Shared → Prop) (E : Value → Shared → Prop) (tk : Nat), (∀ t tk', Q (.int i t) ⟨h, g, d, tk', os⟩) → wpAny (model prog w) A (eval e env) Q E ⟨h, g, d, tk, os⟩
theorem EvI.const {i : Int} {k : Nat} {p : Pos} : EvI prog w A env h g d os (.Constant (.int i) k p) i := fun _ _ _ q => wpAny_Constant_int (q _ _)
theorem EvI.add {e1 e2 : Expr} {i j : Int} {p : Pos} (x : EvI prog w A env h g d os e1 i) (y : EvI prog w A env h g d os e2 j) : EvI prog w A env h g d os (.BinOp e1 .Add e2 p) (i + j) :=
  fun _ _ _ q => wpAny_BinOp (x _ _ _ fun _ _ => y _ _ _ fun _ _ => add_int (q _ _))
theorem EvI.sub {e1 e2 : Expr} {i j : Int} {p : Pos} (x : EvI prog w A env h g d os e1 i) (y : EvI prog w A env h g d os e2 j) : EvI prog w A env h g d os (.BinOp e1 .Sub e2 p) (i - j) :=
  fun _ _ _ q => wpAny_BinOp (x _ _ _ fun _ _ => y _ _ _ fun _ _ => sub_int (q _ _))
theorem EvI.nm {x : Str} {p : Pos} {i : Int} {t : Tok} (F : Fr h₀ L h m) (hv : m x = some (.int i t)) (hk : scope.kind = .function := by rfl) (hl : (envOf name scope L a cd).kindOf x = some .local := by rfl) (hd : (x == ("__debug__" : Str)) = false := by decide) :
    EvI prog w A (envOf name scope L a cd) h g d os (.Name x p) i := fun _ _ tk q => ld (s := ⟨h, g, d, tk, os⟩) F hv (q _ _) hk hl hd
theorem EvI.cast {e : Expr} {i j : Int} (x : EvI prog w A env h g d os e i) (hij : i = j) : EvI prog w A env h g d os e j := hij ▸ x
/-- a test that writes nothing -/
noncomputable def Tst (prog : Program) (w : World) (A : Around) (env : Env) (h : Heap) (g : Array GenState) (d : Drawn) (os : OsState) (e : Expr) (b : Bool) : Prop :=
  ∀ (Q : Bool → Shared → Prop) (E : Value → Shared → Prop) (tk : Nat), (∀ tk', Q b ⟨h, g, d, tk', os⟩) → wpAny (model prog w) A (isTrue e env (eval e env)) Q E ⟨h, g, d, tk, os⟩
theorem Tst.lt {e1 e2 : Expr} {i j : Int} {p : Pos} (x : EvI prog w A env h g d os e1 i) (y : EvI prog w A env h g d os e2 j) (hm : behindInMarks .Lt e2 = false := by rfl) : Tst prog w A env h g d os (.Compare e1 [.Lt] [e2] p) (decide (i < j)) :=
  fun _ _ _ q => wpAny_isTrue_Compare1 (x _ _ _ fun _ _ => y _ _ _ fun _ _ => lt_int (wpAny_truthy_bool (q _))) hm
theorem Tst.eq {e1 e2 : Expr} {i j : Int} {p : Pos} (x : EvI prog w A env h g d os e1 i) (y : EvI prog w A env h g d os e2 j) (hm : behindInMarks .Eq e2 = false := by rfl) : Tst prog w A env h g d os (.Compare e1 [.Eq] [e2] p) (i == j) :=
  fun _ _ _ q => wpAny_isTrue_Compare1 (x _ _ _ fun _ _ => y _ _ _ fun _ _ => eq_int (wpAny_truthy_bool (q _))) hm
theorem If_n {test : Expr} {body orelse : List Stmt} {pos : Pos} {Q : Flow → Shared → Prop} {b : Bool} (T : Tst prog w A env h g d os test b) (hb : b = false) (k : ∀ tk, wpAny (model prog w) A (execs orelse env) Q E ⟨h, g, d, tk, os⟩) :
    wpAny (model prog w) A (exec (.If test body orelse pos) env) Q E ⟨h, g, d, tk, os⟩ := wpAny_If (T _ _ _ fun tk => by subst hb; exact k tk)
theorem If_y {test : Expr} {body orelse : List Stmt} {pos : Pos} {Q : Flow → Shared → Prop} {b : Bool} (T : Tst prog w A env h g d os test b) (hb : b = true) (k : ∀ tk, wpAny (model prog w) A (execs body env) Q E ⟨h, g, d, tk, os⟩) :
    wpAny (model prog w) A (exec (.If test body orelse pos) env) Q E ⟨h, g, d, tk, os⟩ := wpAny_If (T _ _ _ fun tk => by subst hb; exact k tk)
/-- an expression whose value meets P; the frame and the rest stay -/
noncomputable def EvP (prog : Program) (w : World) (A : Around) (env : Env) (h₀ : Heap) (L : Addr) (m : Str → Option Value) (h : Heap) (g : Array GenState) (d : Drawn) (os : OsState) (e : Expr) (P : Value → Prop) : Prop :=
  ∀ (Q : Value → Shared → Prop) (tk : Nat), (∀ h' v tk', P v → Fr h₀ L h' m → Q v ⟨h', g, d, tk', os⟩) → wpAny (model prog w) A (eval e env) Q (fun _ _ => False) ⟨h, g, d, tk, os⟩
theorem EvI.P {e : Expr} {i : Int} (x : EvI prog w A env h g d os e i) (F : Fr h₀ L h m) : EvP prog w A env h₀ L m h g d os e (fun v => ∃ t, v = .int i t) := fun _ _ q => x _ _ _ fun t _ => q _ _ _ ⟨t, rfl⟩ F
/-- a piece of bytes -/
theorem EvP.slice {x : Str} {px p pos : Pos} {R : List UInt8} {t : Tok} {e1 e2 : Expr} {i j : Nat} {i' j' : Int} (F : Fr h₀ L h m) (hv : m x = some (.bytes R.toArray t)) (x1 : EvI prog w A (envOf name scope L a cd) h g d os e1 i') (x2 : EvI prog w A (envOf name scope L a cd) h g d os e2 j') (ei : i' = (i : Int)) (ej : j' = (j : Int)) (hi : i ≤ R.length) (hR : R.length ≤ 100000)
    (hk : scope.kind = .function := by rfl) (hl : (envOf name scope L a cd).kindOf x = some .local := by rfl) (hd : (x == ("__debug__" : Str)) = false := by decide) (ht : ∀ o r, letTemporaryGo (.Name x px) o r = pure () := by intro _ _; rfl) :
    EvP prog w A (envOf name scope L a cd) h₀ L m h g d os (.Subscript (.Name x px) (.Slice (some e1) (some e2) none p) pos) (fun v => ∃ t', v = .bytes ((R.drop i).take (j - i)).toArray t') :=
  fun _ tk q => sub_slice (x := R) (t := t) (h₀ := h₀) (L := L) (m := m) (ld (s := ⟨h, g, d, tk, os⟩) F hv (x1 _ _ _ fun _ _ => x2 _ _ _ fun _ _ => ⟨i, j, _, _, rfl, by rw [ei], by rw [ej], hi, hR, F, fun h' t' k F' => q h' _ k ⟨t', rfl⟩ F'⟩) hk hl hd) ht
/-- x = e -/
theorem Asg {x : Str} {px pos : Pos} {e : Expr} {rest : List Stmt} {Q : Flow → Shared → Prop} {P : Value → Prop} (hs : swapsWith e (some (.Name x px)) pos.line (envOf name scope L a cd) = pure false) (hk : scope.kind = .function) (hl : (envOf name scope L a cd).kindOf x = some .local) (H : EvP prog w A (envOf name scope L a cd) h₀ L m h g d os e P)
    (k : ∀ h' v tk', P v → Fr h₀ L h' (fun y => if y = x then some v else m y) → wpAny (model prog w) A (execs rest (envOf name scope L a cd)) Q (fun _ _ => False) ⟨h', g, d, tk', os⟩)
    :
    wpAny (model prog w) A (execs (.Assign [.Name x px] e pos :: rest) (envOf name scope L a cd)) Q (fun _ _ => False) ⟨h, g, d, tk, os⟩ :=
  wpAny_execs_cons (wpAny_Assign_Name (H _ _ fun h' v tk' hP F' => st (s := ⟨h', g, d, tk', os⟩) F' (fun h2 F2 => k h2 v _ hP F2) hk hl) hs)
theorem AsgF {x : Str} {px pos : Pos} {e : Expr} {rest : List Stmt} {Q : Flow → Shared → Prop} {P : Value → Prop} (_F : Fr h₀ L h m) (hs : swapsWith e (some (.Name x px)) pos.line (envOf name scope L a cd) = pure false) (hk : scope.kind = .function) (hl : (envOf name scope L a cd).kindOf x = some .local) (H : EvP prog w A (envOf name scope L a cd) h₀ L m h g d os e P)
    (k : ∀ h' v tk', P v → Fr h₀ L h' (fun y => if y = x then some v else m y) → wpAny (model prog w) A (execs rest (envOf name scope L a cd)) Q (fun _ _ => False) ⟨h', g, d, tk', os⟩)
    :
    wpAny (model prog w) A (execs (.Assign [.Name x px] e pos :: rest) (envOf name scope L a cd)) Q (fun _ _ => False) ⟨h, g, d, tk, os⟩ := Asg hs hk hl H k
theorem EvI.item {x : Str} {px pos : Pos} {R : List UInt8} {t : Tok} {e : Expr} {j : Nat} {j' : Int} (F : Fr h₀ L h m) (hv : m x = some (.bytes R.toArray t)) (x1 : EvI prog w A (envOf name scope L a cd) h g d os e j') (ej : j' = (j : Int)) (hj : j < R.length) (hR : R.length ≤ 100000)
    (hs : ∀ o i, subscripted e false o i = operate [o, i] (getItem o i) := by intro _ _; with_unfolding_all rfl) (ht : ∀ o r, letTemporaryGo (.Name x px) o r = pure () := by intro _ _; with_unfolding_all rfl)
    (hk : scope.kind = .function := by rfl) (hl : (envOf name scope L a cd).kindOf x = some .local := by rfl) (hd : (x == ("__debug__" : Str)) = false := by decide) :
    EvI prog w A (envOf name scope L a cd) h g d os (.Subscript (.Name x px) e pos) ((R.getD j 0).toNat : Int) := by
  subst ej
  exact fun _ _ tk q => Subscript_ (ld (s := ⟨h, g, d, tk, os⟩) F hv (x1 _ _ _ fun _ _ => KBy.item_N (x := R) (by (clear hd hj hl hv; omega)) (by (clear hR hd hj hl hv; omega)) (by (clear hR hd hl hv; omega)) (q _ _) (hs _ _) (ht _)) hk hl hd)
theorem Tst.andf {e1 : Expr} {rest : List Expr} {p : Pos} {b : Bool} (x : Tst prog w A env h g d os e1 b) (hb : b = false) : Tst prog w A env h g d os (.BoolOp .And (e1 :: rest) p) false :=
  fun _ _ _ q => isTrue_and (x _ _ _ fun tk => by subst hb; exact q tk)
theorem Tst.andt {e1 e2 : Expr} {p : Pos} {b c : Bool} (x : Tst prog w A env h g d os e1 b) (hb : b = true) (y : Tst prog w A env h g d os e2 c) : Tst prog w A env h g d os (.BoolOp .And [e1, e2] p) c :=
  fun _ _ _ q => isTrue_and (x _ _ _ fun tk => by
    subst hb
    refine isTrue_and (y _ _ _ fun tk => ?_)
    cases c with
    | true => exact isTrue_and_nil (q tk)
    | false => exact q tk)
/-- a test behind which the frame stays -/
noncomputable def TstP (prog : Program) (w : World) (A : Around) (env : Env) (h₀ : Heap) (L : Addr) (m : Str → Option Value) (h : Heap) (g : Array GenState) (d : Drawn) (os : OsState) (e : Expr) (b : Bool) : Prop :=
  ∀ (Q : Bool → Shared → Prop) (tk : Nat), (∀ h' tk', Fr h₀ L h' m → Q b ⟨h', g, d, tk', os⟩) → wpAny (model prog w) A (isTrue e env (eval e env)) Q (fun _ _ => False) ⟨h, g, d, tk, os⟩
theorem EvP.use {e : Expr} {P : Value → Prop} {Q : Value → Shared → Prop} (H : EvP prog w A env h₀ L m h g d os e P) (k : ∀ h' v tk', P v → Fr h₀ L h' m → Q v ⟨h', g, d, tk', os⟩) : wpAny (model prog w) A (eval e env) Q (fun _ _ => False) ⟨h, g, d, tk, os⟩ := H _ _ k
theorem TstP.beq {e1 : Expr} {x y : List UInt8} {k : Nat} {p1 p : Pos} (X : EvP prog w A env h₀ L m h g d os e1 (fun v => ∃ t, v = .bytes x.toArray t)) (hm : behindInMarks .Eq (.Constant (.bytes y) k p1) = false := by rfl) :
    TstP prog w A env h₀ L m h g d os (.Compare e1 [.Eq] [.Constant (.bytes y) k p1] p) (x == y) :=
  fun _ _ q => wpAny_isTrue_Compare1 (X _ _ fun h' v tk hv F' => by
    obtain ⟨t, rfl⟩ := hv
    exact Constant_bytes (eq_bytes (wpAny_truthy_bool (q _ _ F')))) hm
theorem If_nP {test : Expr} {body orelse : List Stmt} {pos : Pos} {Q : Flow → Shared → Prop} {b : Bool} (T : TstP prog w A env h₀ L m h g d os test b) (hb : b = false) (k : ∀ h' tk, Fr h₀ L h' m → wpAny (model prog w) A (execs orelse env) Q (fun _ _ => False) ⟨h', g, d, tk, os⟩) :
    wpAny (model prog w) A (exec (.If test body orelse pos) env) Q (fun _ _ => False) ⟨h, g, d, tk, os⟩ := wpAny_If (T _ _ fun h' tk F' => by subst hb; exact k h' tk F')
theorem execs1 {M : Model} {st : Stmt} {s : Shared} {Q : Flow → Shared → Prop} (k : wpAny M A (exec st env) Q E s) : wpAny M A (execs [st] env) Q E s :=
  wpAny_execs_cons (wpAny_mono k (fun f s' q => by cases f <;> first | exact wpAny_execs_nil q | exact q) fun _ _ x => x)
theorem Return1 {M : Model} {e : Expr} {pos : Pos} {rest : List Stmt} {s : Shared} {Q : Flow → Shared → Prop} (k : wpAny M A (eval e env) (fun v => Q (.ret v)) E s) : wpAny M A (execs (.Return (some e) pos :: rest) env) Q E s :=
  wpAny_execs_cons (wpAny_Return_some k)
/-- an if that falls through -/
theorem If_skip {test : Expr} {body : List Stmt} {pos : Pos} {rest : List Stmt} {Q : Flow → Shared → Prop} {b : Bool} (T : TstP prog w A env h₀ L m h g d os test b) (hb : b = false) (k : ∀ h' tk, Fr h₀ L h' m → wpAny (model prog w) A (execs rest env) Q (fun _ _ => False) ⟨h', g, d, tk, os⟩) :
    wpAny (model prog w) A (execs (.If test body [] pos :: rest) env) Q (fun _ _ => False) ⟨h, g, d, tk, os⟩ := wpAny_execs_cons (If_nP T hb fun h' tk F' => wpAny_execs_nil (k h' tk F'))
theorem Tst.P {e : Expr} {b : Bool} (x : Tst prog w A env h g d os e b) (F : Fr h₀ L h m) : TstP prog w A env h₀ L m h g d os e b := fun _ _ q => x _ _ _ fun _ => q _ _ F
end
end Mine
end Ev_part
section BeOk_part
open PySem PySem.W PySem.Calls PyProof.Rows
set_option Elab.async false
set_option maxRecDepth 100000
set_option maxHeartbeats 4000000
namespace Mine
section
variable {prog : Program} {w : World} {A : Around} {E : Value → Shared → Prop} {s : Shared} {env : Env}
theorem call_attr {o : Expr} {name : Str} {apos pos : Pos} {args : List Expr} {Q : Value → Shared → Prop}
    (hbase : attributeBase o name env (eval o env) = eval o env)
    (hfew : ((backTo pos (starEach args env)).all (fun x => !x.1) && (backToKw pos (keywordEach [] env)).all (fun x => x.1.isSome)
      && decide (args.length + ([] : List Keyword).length + (if ([] : List Keyword).isEmpty then 0 else 1) < 30)) = true)
    (hline : (apos.endLine == pos.line) = true)
    (h : wpAny (model prog w) A (eval o env) (fun ov s₁ => ∀ pl, wpAny (model prog w) A (getMethod ov name pl) (fun mv s₂ => wpAny (model prog w) A (callWith pos mv.1 mv.2 (backTo pos (starEach args env)) []) Q E s₂) E s₁) E s) :
    wpAny (model prog w) A (eval (.Call (.Attribute o name apos) args [] pos) env) Q E s := by
  rw [arm_eval_Call, hbase]
  refine wpAny_bind (wpAny_mono h (fun ov s₁ h₁ => ?_) fun _ _ e => e)
  refine wpAny_bind (wpAny_standAt ?_)
  have hform : methodCallForm (args.length + ([] : List Keyword).length) (backTo pos (starEach args env)) (backToKw pos (keywordEach [] env)) = true := hfew
  have hpos : methodCallPos true o env apos pos = pure pos := by unfold methodCallPos; simp [hline]
  unfold methodCall
  rw [hform]
  refine wpAny_bind (wpAny_holding (wpAny_mono (h₁ _) (fun mv s₂ h₂ => ?_) fun _ _ e => e))
  exact wpAny_bind (wpAny_of_eq hpos h₂)
end
section
variable {w : World} {s : Shared} {G : Glo}
theorem be_ok {n : Nat} (hn : n < 90) {b : Array UInt8} {t1 : Tok} (W : Wld w G s.heap.get?) (hb : b.size ≤ 8) :
    wpAny (model pw w) (AT (n + 1)) (call (.ref G.a8) [.bytes b t1]) (fun r s' => Keeps s s' ∧ ∃ t', r = .int (KFB.value (KBw.bInts b)) t') (fun _ _ => False) s := by
  refine call_fn (k := 8) (binds := [("value", .bytes b t1)]) (by (clear hb; omega)) W (Glo.m8 _) (by kernel_rfl) (fun pm cd doc => by kernel_rfl) (by kernel_rfl) fun h₁ cd F => ?_
  have W1 : Wld w G h₁.get? := W.keeps F.keep
  refine wpAny_execs_cons (wpAny_Return_some (call_attr (by rfl) (by rfl) (by rfl) (bname W1 ⟨rfl, rfl, rfl⟩ rfl (glo_int _ _) (blt_int _) fun pl => ?_)))
  refine KFB.getm (K := []) F (News.nil) (fun a o e => by simp at e) (by kernel_rfl) fun x h' F' N' _ => ?_
  dsimp only
  refine KFB.callWith_bound N' (.head _) ?_
  refine spliced_cons (ld F' rfl (spliced_cons (Constant_str (k := 0) (pos := default) (spliced_nil ⟨KFB.at_of N' (.head _), ?_⟩))))
  refine KFB.call_big N' (.head _) rfl (by rw [KBw.ints_length]; exact hb) (fun t' k => ?_)
  exact ⟨⟨_, _, rfl, F'.keep⟩, t', rfl⟩
end
end Mine
end BeOk_part
section Clp_part
open PySem PySem.W PySem.Calls PyProof.Rows
set_option Elab.async false
set_option maxRecDepth 100000
set_option maxHeartbeats 4000000
namespace Mine
theorem lk_SHORT (G : Glo) (w : World) : lookE "SHORT_STRING" (G.e31 w) = some (.int 184 G.v15) := by kernel_rfl
/-- what a length prefix returns -/
noncomputable def ClpR (s s' : Shared) (kind : Str) (len nxt : Nat) (r : Value) : Prop :=
  Keeps s s' ∧ ∃ a P t1 t2 t3 t4, r = .ref a ∧ s.heap.get? a = none ∧ s'.heap.get? a = some (tupO #[.bytes P t1, .str kind t2, .int len t3, .int nxt t4] 0) ∧ P.size ≤ 3
@[elab_as_elim] theorem ClpR.elim {s : Shared} {kind : Str} {len nxt : Nat} {C : Value → Shared → Prop} {r : Value} {s' : Shared} (h : ClpR s s' kind len nxt r)
    (H : ∀ (h' : Heap) (tk : Nat) (a : Addr) (P : Array UInt8) (t1 t2 t3 t4 : Tok), (∀ b o, s.heap.get? b = some o → h'.get? b = some o) → s.heap.get? a = none → h'.get? a = some (tupO #[.bytes P t1, .str kind t2, .int len t3, .int nxt t4] 0) → P.size ≤ 3 →
      C (.ref a) { s with heap := h', toks := tk }) : C r s' := by
  obtain ⟨⟨h', tk, rfl, k⟩, a, P, t1, t2, t3, t4, rfl, hn, ha, hP⟩ := h
  exact H h' tk a P t1 t2 t3 t4 k hn ha hP
section
variable {w : World} {s : Shared} {G : Glo}
theorem clpR_fin {h2 : Heap} {L : Addr} {m : Str → Option Value} {k : Nat} {P : Array UInt8} {kind : Str} {len nxt : Int} {len' nxt' : Nat} {t1 t2 t3 t4 : Tok} (F : Fr s.heap L h2 m) (hP : P.size ≤ 3) (e1 : len = (len' : Int)) (e2 : nxt = (nxt' : Int)) :
    ClpR s { s with heap := h2.push { cls := .type "tuple", data := .seq [Value.bytes P t1, .str kind t2, .int len t3, .int nxt t4].toArray }, toks := k } kind len' nxt' (.ref h2.objs.size) := by
  subst e1 e2
  refine ⟨⟨_, _, rfl, fun b o e => Heap.get?_push_of_some _ (F.keep b o e)⟩, h2.objs.size, P, t1, t2, t3, t4, rfl, ?_, Heap.get?_push_size _ rfl, hP⟩
  cases q : s.heap.get? h2.objs.size with
  | none => rfl
  | some o' => exact absurd (Heap.lt_size (F.keep _ _ q)) (Nat.lt_irrefl _)
theorem EvI.glob {A : Around} {env : Env} {h : Heap} {g : Array GenState} {d : Drawn} {os : OsState} {x : Str} {p : Pos} {i : Int} {t : Tok} (W : Wld w G h.get?) (fe : FEnv env) (hx : env.kindOf x = some .globalImplicit) (hv : lookE x (G.e31 w) = some (.int i t))
    (hd : (x == ("__debug__" : Str)) = false := by decide) : EvI pw w A env h g d os (.Name x p) i := fun _ _ tk q => gname (s := ⟨h, g, d, tk, os⟩) W fe hx hv (q _ _) hd
theorem Tst.cast {A : Around} {env : Env} {h : Heap} {g : Array GenState} {d : Drawn} {os : OsState} {e : Expr} {b c : Bool} (x : Tst pw w A env h g d os e b) (hbc : b = c) : Tst pw w A env h g d os e c := hbc ▸ x
theorem clp_14 {n : Nat} (hn : n < 90) {R : List UInt8} {start : Nat} {kind : Str} {len nxt : Nat} {t1 t2 : Tok} (W : Wld w G s.heap.get?) (hs : start < R.length) (hR : R.length ≤ 100000)
    (hc : ((R.getD start 0).toNat < 128 ∧ kind = "bytes" ∧ len = 1 ∧ nxt = start) ∨ (128 ≤ (R.getD start 0).toNat ∧ (R.getD start 0).toNat < 184 ∧ ((R.getD start 0).toNat = 129 → start + 1 < R.length ∧ 128 ≤ (R.getD (start + 1) 0).toNat) ∧ kind = "bytes" ∧ len = (R.getD start 0).toNat - 128 ∧ nxt = start + 1) ∨
      (192 ≤ (R.getD start 0).toNat ∧ (R.getD start 0).toNat < 248 ∧ kind = "list" ∧ len = (R.getD start 0).toNat - 192 ∧ nxt = start + 1)) :
    wpAny (model pw w) (AT (n + 2)) (call (.ref G.a16) [.bytes R.toArray t1, .int start t2]) (fun r s' => ClpR s s' kind len nxt r) (fun _ _ => False) s := by
  refine call_fn (k := 16) (binds := [("rlp", .bytes R.toArray t1), ("start", .int start t2)]) (by (clear hR hc hs; omega)) W (Glo.m16 _) (by kernel_rfl) (fun pm cd doc => by kernel_rfl) (by kernel_rfl) fun h₁ cd F => ?_
  refine wpQ fun Q0 q0 => ?_
  refine Asg (by rfl) rfl (by rfl) (EvI.P (EvI.item (j := start) F rfl (.nm F rfl) rfl (by (clear hR hc hn; omega)) hR) F) fun h2 v tk2 hv F2 => ?_
  obtain ⟨tb, rfl⟩ := hv
  have W2 : Wld w G h2.get? := W.keeps F2.keep
  generalize hc0 : (R.getD start 0).toNat = c0 at hc F2
  by_cases h128 : c0 < 128
  · obtain ⟨rfl, rfl, rfl⟩ : kind = "bytes" ∧ len = 1 ∧ nxt = start := by
      rcases hc with h | h | h
      · exact h.2
      · (clear hR hn hs; omega)
      · (clear hR hn hs; omega)
    refine execs1 (If_y (.lt (.nm F2 rfl) .const) (decide_eq_true (by (clear hR hc hn hs; omega))) fun tk3 => Return1 ?_)
    refine wpAny_Tuple (spliced_cons (Constant_bytes (k := 0) (pos := default) (spliced_cons (Constant_str (k := 0) (pos := default) (spliced_cons (wpAny_Constant_int (k := 0) (pos := default) (spliced_cons (ld F2 rfl (spliced_nil ⟨by size_fits, ?_⟩)))))))))
    exact q0 _ _ <| clpR_fin F2 (by simp) rfl rfl
  · refine execs1 (If_n (.lt (.nm F2 rfl) .const) (decide_eq_false (by (clear hR hc hc0 hn hs; omega))) fun tk3 => ?_)
    by_cases h184 : c0 < 184
    · have hc' : (c0 = 129 → start + 1 < R.length ∧ 128 ≤ (R.getD (start + 1) 0).toNat) ∧ kind = "bytes" ∧ len = c0 - 128 ∧ nxt = start + 1 := by
        rcases hc with h | h | h
        · (clear hR hc0 hn hs; omega)
        · exact h.2.2
        · (clear hR hc0 hn hs; omega)
      obtain ⟨h129, rfl, hl, hnx⟩ := hc'
      refine execs1 (If_y (.lt (.nm F2 rfl) (.glob W2 ⟨rfl, rfl, rfl⟩ rfl (lk_SHORT _ _))) (decide_eq_true (by (clear h129 hR hc hc0 hl hn hnx hs; omega))) fun tk4 => ?_)
      refine If_skip (b := false) (Tst.P ?_ F2) rfl fun h3 tk5 F3 => ?_
      · by_cases h1 : c0 = 129
        · obtain ⟨hs1, hs2⟩ := h129 h1
          subst h1
          exact .andt (.eq (.sub (.nm F2 rfl) .const) .const) (by rfl) (Tst.cast (Tst.lt (EvI.item (j := start + 1) F2 rfl (.add (.nm F2 rfl) .const) rfl hs1 hR) .const) (decide_eq_false (by (clear h128 h129 h184 hR hc hc0 hl hn hnx hs hs1; omega))))
        · exact .andf (.eq (.sub (.nm F2 rfl) .const) .const) (by simp; (clear h128 h129 h184 hR hc hc0 hl hn hnx hs; omega))
      refine Return1 ?_
      refine wpAny_Tuple (spliced_cons (EvP.use (EvP.slice (i := start) (j := start + 1) F3 rfl (.nm F3 rfl) (.add (.nm F3 rfl) .const) rfl rfl (by (clear h128 h129 h184 hR hc hc0 hl hn; omega)) hR) fun h4 v tk6 hv F4 => ?_))
      obtain ⟨t4, rfl⟩ := hv
      refine spliced_cons (Constant_str (k := 0) (pos := default) (spliced_cons (wpAny_BinOp (ld F4 rfl (wpAny_Constant_int (sub_int (spliced_cons (wpAny_BinOp (ld F4 rfl (wpAny_Constant_int (add_int (spliced_nil ⟨by size_fits, ?_⟩))))))))))))
      exact q0 _ _ <| clpR_fin F4 (by simp; (clear h128 h129 h184 hR hc hc0 hl hn hnx hs; omega)) (by (clear h129 hR hc hc0 hn hnx hs; omega)) (by (clear h128 h129 h184 hR hc hc0 hl hn hs; omega))
    · have hc' : 192 ≤ c0 ∧ c0 < 248 ∧ kind = "list" ∧ len = c0 - 192 ∧ nxt = start + 1 := by
        rcases hc with h | h | h
        · (clear h128 hR hc0 hn hs; omega)
        · (clear h128 hR hc0 hn hs; omega)
        · exact h
      obtain ⟨h192, h248, rfl, hl, hnx⟩ := hc'
      refine execs1 (If_n (.lt (.nm F2 rfl) (.glob W2 ⟨rfl, rfl, rfl⟩ rfl (lk_SHORT _ _))) (decide_eq_false (by (clear h128 h184 hR hc hc0 hl hn hnx hs; omega))) fun tk4 => ?_)
      refine execs1 (If_n (.lt (.nm F2 rfl) .const) (decide_eq_false (by (clear h128 h184 hR hc hc0 hl hn hnx hs; omega))) fun tk5 => ?_)
      refine execs1 (If_y (.lt (.nm F2 rfl) (.add .const .const)) (decide_eq_true (by (clear h128 h184 hR hc hc0 hl hn hnx hs; omega))) fun tk6 => Return1 ?_)
      refine wpAny_Tuple (spliced_cons (EvP.use (EvP.slice (i := start) (j := start + 1) F2 rfl (.nm F2 rfl) (.add (.nm F2 rfl) .const) rfl rfl (by (clear h128 h184 h192 h248 hR hc hc0 hl hn; omega)) hR) fun h4 v tk6 hv F4 => ?_))
      obtain ⟨t4, rfl⟩ := hv
      refine spliced_cons (Constant_str (k := 0) (pos := default) (spliced_cons (wpAny_BinOp (ld F4 rfl (wpAny_Constant_int (sub_int (spliced_cons (wpAny_BinOp (ld F4 rfl (wpAny_Constant_int (add_int (spliced_nil ⟨by size_fits, ?_⟩))))))))))))
      exact q0 _ _ <| clpR_fin F4 (by simp; (clear h128 h184 h192 h248 hR hc hc0 hl hn hnx hs; omega)) (by (clear h128 h184 hR hc hc0 hn hnx hs; omega)) (by (clear h128 h184 h192 h248 hR hc hc0 hl hn hs; omega))
end
end Mine
end Clp_part
section Clp2_part
open PySem PySem.W PySem.Calls PyProof.Rows
set_option Elab.async false
set_option maxRecDepth 100000
set_option maxHeartbeats 4000000
namespace Mine
theorem take_one {R : List UInt8} {i : Nat} (h : i < R.length) : (R.drop i).take 1 = [R.getD i 0] := by
  rw [List.drop_eq_getElem_cons h, List.take_succ_cons, List.take_zero, List.getD_eq_getElem?_getD, List.getElem?_eq_getElem h]
  rfl
theorem take_sz {R : List UInt8} {a k n : Nat} (h : k ≤ n) : ((R.drop a).take k).toArray.size ≤ n := by simp; omega
theorem pad0 {R : List UInt8} {start : Nat} (hz : R.getD (start + 1) 0 ≠ 0) (hs : start + 1 < R.length) : ((R.drop (start + 1)).take (start + 2 - (start + 1)) == ([0] : List UInt8)) = false := by
  rw [show start + 2 - (start + 1) = 1 by (clear hs; omega), take_one hs]
  simpa using hz
section
variable {w : World} {s : Shared} {G : Glo}
theorem clp_3 {n : Nat} (hn : n < 90) {R : List UInt8} {start ll len : Nat} {t1 t2 : Tok} (W : Wld w G s.heap.get?) (hR : R.length ≤ 100000) (hll : ll ≤ 2) (hl1 : 1 ≤ ll) (hs : start + 1 + ll ≤ R.length)
    (hc : (R.getD start 0).toNat = 183 + ll) (hz : R.getD (start + 1) 0 ≠ 0) (hlen : KFB.value (KBw.bInts ((R.drop (start + 1)).take ll).toArray) = (len : Int)) (h56 : 56 ≤ len) :
    wpAny (model pw w) (AT (n + 2)) (call (.ref G.a16) [.bytes R.toArray t1, .int start t2]) (fun r s' => ClpR s s' "bytes" len (start + 1 + ll) r) (fun _ _ => False) s := by
  refine call_fn (k := 16) (binds := [("rlp", .bytes R.toArray t1), ("start", .int start t2)]) (by (clear h56 hR hc hl1 hlen hll hs; omega)) W (Glo.m16 _) (by kernel_rfl) (fun pm cd doc => by kernel_rfl) (by kernel_rfl) fun h₁ cd F => ?_
  refine wpQ fun Q0 q0 => ?_
  refine Asg (by rfl) rfl (by rfl) (EvI.P (EvI.item (j := start) F rfl (.nm F rfl) rfl (by (clear h56 hR hlen hn; omega)) hR) F) fun h2 v tk2 hv F2 => ?_
  obtain ⟨tb, rfl⟩ := hv
  have W2 : Wld w G h2.get? := W.keeps F2.keep
  generalize hc0 : (R.getD start 0).toNat = c0 at hc F2
  refine execs1 (If_n (.lt (.nm F2 rfl) .const) (decide_eq_false (by (clear h56 hR hc0 hlen hn hs; omega))) fun tk3 => ?_)
  refine execs1 (If_n (.lt (.nm F2 rfl) (.glob W2 ⟨rfl, rfl, rfl⟩ rfl (lk_SHORT _ _))) (decide_eq_false (by (clear h56 hR hc0 hlen hn hs; omega))) fun tk4 => ?_)
  refine execs1 (If_y (.lt (.nm F2 rfl) .const) (decide_eq_true (by (clear h56 hR hc0 hlen hn hs; omega))) fun tk5 => ?_)
  refine Asg (by rfl) rfl (by rfl) (EvI.P (EvI.cast (.sub (.nm F2 rfl) .const) (show (c0 : Int) - 183 = (ll : Int) by (clear h56 hR hc0 hl1 hlen hll hn hs; omega))) F2) fun h3 v tk4 hv F3 => ?_
  obtain ⟨tl, rfl⟩ := hv
  refine If_skip (TstP.beq (EvP.slice (i := start + 1) (j := start + 2) F3 rfl (.add (.nm F3 rfl) .const) (.add (.nm F3 rfl) .const) rfl rfl (by (clear h56 hR hc0 hlen hn; omega)) hR)) (pad0 hz (by (clear h56 hR hc0 hlen hn; omega))) fun h4 tk5 F4 => ?_
  refine Asg (by rfl) rfl (by rfl) (EvP.slice (i := start + 1) (j := start + 1 + ll) F4 rfl (.add (.nm F4 rfl) .const) (.add (.add (.nm F4 rfl) .const) (.nm F4 rfl)) rfl rfl (by (clear h56 hR hc0 hlen hn; omega)) hR) fun h5 v tk6 hv F5 => ?_
  obtain ⟨tp, rfl⟩ := hv
  rw [show start + 1 + ll - (start + 1) = ll by (clear h56 hR hc0 hlen hn hs; omega)] at F5
  refine AsgF F5 (by rfl) rfl (by rfl) (P := fun v => ∃ t, v = .int (len : Int) t) (fun Q' tk q => ?_) fun h6 v tk7 hv F6 => ?_
  · have W5 : Wld w G h5.get? := W.keeps F5.keep
    refine Call_Name1 (gname W5 ⟨rfl, rfl, rfl⟩ rfl (lk_big_endian_to_int _ _) ?_) rfl
    refine callWith_g (k := 8) W5 (Glo.m8 _) (spliced_cons (ld F5 rfl (spliced_nil ⟨fun _ _ _ e => e, ?_⟩)))
    refine mono_k (be_ok (n := n) (by (clear h56 hR hc hc0 hl1 hlen hll hs; omega)) W5 (Nat.le_trans (take_sz (n := 2) hll) (by decide))) fun h7 tk7 t7 k7 => ?_
    rw [hlen]
    exact q _ _ _ ⟨t7, rfl⟩ (F5.keeps k7)
  obtain ⟨tn, rfl⟩ := hv
  refine If_skip (Tst.P (.lt (.nm F6 rfl) .const) F6) (decide_eq_false (by (clear hR hc hc0 hl1 hlen hll hn hs; omega))) fun h7 tk8 F7 => Return1 ?_
  refine wpAny_Tuple (spliced_cons (wpAny_BinOp (EvP.use (EvP.slice (i := start) (j := start + 1) F7 rfl (.nm F7 rfl) (.add (.nm F7 rfl) .const) rfl rfl (by (clear h56 hR hc0 hlen hn; omega)) hR) fun h9 v tk9 hv F9 => ?_)))
  obtain ⟨t9, rfl⟩ := hv
  refine ld F9 rfl (KBy.add_bytes (Nat.le_trans (Nat.add_le_add (take_sz (n := 1) (by (clear h56 hR hc hc0 hl1 hlen hll hn hs; omega))) (take_sz (n := 2) hll)) (by decide)) (fun t10 k10 => ?_))
  refine spliced_cons (Constant_str (k := 0) (pos := default) (spliced_cons (ld F9 rfl (spliced_cons (wpAny_BinOp (wpAny_BinOp (ld F9 rfl (wpAny_Constant_int (add_int (ld F9 rfl (add_int (spliced_nil ⟨by size_fits, ?_⟩))))))))))))
  exact q0 _ _ <| clpR_fin F9 (by rw [Array.size_append]; exact Nat.add_le_add (take_sz (n := 1) (by (clear h56 hR hc hc0 hl1 hlen hll hn hs; omega))) (take_sz (n := 2) hll)) rfl (by (clear h56 hR hc hc0 hl1 hlen hll hn hs; omega))
theorem clp_5 {n : Nat} (hn : n < 90) {R : List UInt8} {start ll len : Nat} {t1 t2 : Tok} (W : Wld w G s.heap.get?) (hR : R.length ≤ 100000) (hll : ll ≤ 2) (hl1 : 1 ≤ ll) (hs : start + 1 + ll ≤ R.length)
    (hc : (R.getD start 0).toNat = 247 + ll) (hz : R.getD (start + 1) 0 ≠ 0) (hlen : KFB.value (KBw.bInts ((R.drop (start + 1)).take ll).toArray) = (len : Int)) (h56 : 56 ≤ len) :
    wpAny (model pw w) (AT (n + 2)) (call (.ref G.a16) [.bytes R.toArray t1, .int start t2]) (fun r s' => ClpR s s' "list" len (start + 1 + ll) r) (fun _ _ => False) s := by
  refine call_fn (k := 16) (binds := [("rlp", .bytes R.toArray t1), ("start", .int start t2)]) (by (clear h56 hR hc hl1 hlen hll hs; omega)) W (Glo.m16 _) (by kernel_rfl) (fun pm cd doc => by kernel_rfl) (by kernel_rfl) fun h₁ cd F => ?_
  refine wpQ fun Q0 q0 => ?_
  refine Asg (by rfl) rfl (by rfl) (EvI.P (EvI.item (j := start) F rfl (.nm F rfl) rfl (by (clear h56 hR hlen hn; omega)) hR) F) fun h2 v tk2 hv F2 => ?_
  obtain ⟨tb, rfl⟩ := hv
  have W2 : Wld w G h2.get? := W.keeps F2.keep
  generalize hc0 : (R.getD start 0).toNat = c0 at hc F2
  refine execs1 (If_n (.lt (.nm F2 rfl) .const) (decide_eq_false (by (clear h56 hR hc0 hlen hn hs; omega))) fun tk3 => ?_)
  refine execs1 (If_n (.lt (.nm F2 rfl) (.glob W2 ⟨rfl, rfl, rfl⟩ rfl (lk_SHORT _ _))) (decide_eq_false (by (clear h56 hR hc0 hlen hn hs; omega))) fun tk4 => ?_)
  refine execs1 (If_n (.lt (.nm F2 rfl) .const) (decide_eq_false (by (clear h56 hR hc0 hlen hn hs; omega))) fun tk5 => ?_)
  refine execs1 (If_n (.lt (.nm F2 rfl) (.add .const .const)) (decide_eq_false (by (clear h56 hR hc0 hlen hn hs; omega))) fun tk6 => ?_)
  refine Asg (by rfl) rfl (by rfl) (EvI.P (EvI.cast (.add (.sub (.sub (.nm F2 rfl) .const) .const) .const) (show (c0 : Int) - 192 - 56 + 1 = (ll : Int) by (clear h56 hR hc0 hl1 hlen hll hn hs; omega))) F2) fun h3 v tk4 hv F3 => ?_
  obtain ⟨tl, rfl⟩ := hv
  refine If_skip (TstP.beq (EvP.slice (i := start + 1) (j := start + 2) F3 rfl (.add (.nm F3 rfl) .const) (.add (.nm F3 rfl) .const) rfl rfl (by (clear h56 hR hc0 hlen hn; omega)) hR)) (pad0 hz (by (clear h56 hR hc0 hlen hn; omega))) fun h4 tk5 F4 => ?_
  refine Asg (by rfl) rfl (by rfl) (EvP.slice (i := start + 1) (j := start + 1 + ll) F4 rfl (.add (.nm F4 rfl) .const) (.add (.add (.nm F4 rfl) .const) (.nm F4 rfl)) rfl rfl (by (clear h56 hR hc0 hlen hn; omega)) hR) fun h5 v tk6 hv F5 => ?_
  obtain ⟨tp, rfl⟩ := hv
  rw [show start + 1 + ll - (start + 1) = ll by (clear h56 hR hc0 hlen hn hs; omega)] at F5
  refine AsgF F5 (by rfl) rfl (by rfl) (P := fun v => ∃ t, v = .int (len : Int) t) (fun Q' tk q => ?_) fun h6 v tk7 hv F6 => ?_
  · have W5 : Wld w G h5.get? := W.keeps F5.keep
    refine Call_Name1 (gname W5 ⟨rfl, rfl, rfl⟩ rfl (lk_big_endian_to_int _ _) ?_) rfl
    refine callWith_g (k := 8) W5 (Glo.m8 _) (spliced_cons (ld F5 rfl (spliced_nil ⟨fun _ _ _ e => e, ?_⟩)))
    refine mono_k (be_ok (n := n) (by (clear h56 hR hc hc0 hl1 hlen hll hs; omega)) W5 (Nat.le_trans (take_sz (n := 2) hll) (by decide))) fun h7 tk7 t7 k7 => ?_
    rw [hlen]
    exact q _ _ _ ⟨t7, rfl⟩ (F5.keeps k7)
  obtain ⟨tn, rfl⟩ := hv
  refine If_skip (Tst.P (.lt (.nm F6 rfl) .const) F6) (decide_eq_false (by (clear hR hc hc0 hl1 hlen hll hn hs; omega))) fun h7 tk8 F7 => Return1 ?_
  refine wpAny_Tuple (spliced_cons (wpAny_BinOp (EvP.use (EvP.slice (i := start) (j := start + 1) F7 rfl (.nm F7 rfl) (.add (.nm F7 rfl) .const) rfl rfl (by (clear h56 hR hc0 hlen hn; omega)) hR) fun h9 v tk9 hv F9 => ?_)))
  obtain ⟨t9, rfl⟩ := hv
  refine ld F9 rfl (KBy.add_bytes (Nat.le_trans (Nat.add_le_add (take_sz (n := 1) (by (clear h56 hR hc hc0 hl1 hlen hll hn hs; omega))) (take_sz (n := 2) hll)) (by decide)) (fun t10 k10 => ?_))
  refine spliced_cons (Constant_str (k := 0) (pos := default) (spliced_cons (ld F9 rfl (spliced_cons (wpAny_BinOp (wpAny_BinOp (ld F9 rfl (wpAny_Constant_int (add_int (ld F9 rfl (add_int (spliced_nil ⟨by size_fits, ?_⟩))))))))))))
  exact q0 _ _ <| clpR_fin F9 (by rw [Array.size_append]; exact Nat.add_le_add (take_sz (n := 1) (by (clear h56 hR hc hc0 hl1 hlen hll hn hs; omega))) (take_sz (n := 2) hll)) rfl (by (clear h56 hR hc hc0 hl1 hlen hll hn hs; omega))
end
end Mine
end Clp2_part
section Enc_part
open PySem PySem.W PySem.Calls PyProof.Rows
set_option Elab.async false
set_option maxRecDepth 100000
set_option maxHeartbeats 2000000
namespace Mine
noncomputable def T.hd : T → List UInt8
  | .byt b => if b.size = 1 ∧ b.toList.getD 0 0 < 128 then [] else (headL 128 b.size).map fun n => n.toNat.toUInt8
  | .lst xs => (headL 192 (T.puts xs).size).map fun n => n.toNat.toUInt8
  | _ => []
noncomputable def T.pay : T → List UInt8
  | .byt b => b.toList
  | .lst xs => (T.puts xs).toList
  | _ => []
noncomputable def T.kind : T → Str
  | .byt _ => "bytes"
  | _ => "list"
theorem T.put_list {t : T} (hp : t.isP = true) : t.put.toList = t.hd ++ t.pay := by
  cases t with
  | byt b =>
    unfold T.put T.hd T.pay byteArr
    dsimp only
    by_cases h : b.size = 1 ∧ b.toList.getD 0 0 < 128
    · rw [if_pos h, if_pos h]; rfl
    · rw [if_neg h, if_neg h]; simp
  | lst xs =>
    unfold T.put T.hd T.pay byteArr
    simp
  | _ => cases hp
theorem getD_mid {pre rest : List UInt8} {x : UInt8} : (pre ++ x :: rest).getD pre.length 0 = x := by simp
theorem getD_mid1 {pre rest : List UInt8} {x y : UInt8} : (pre ++ x :: y :: rest).getD (pre.length + 1) 0 = y := by
  simp [List.getD_eq_getElem?_getD]
theorem take_mid {pre ys rest : List UInt8} {x : UInt8} : ((pre ++ x :: (ys ++ rest)).drop (pre.length + 1)).take ys.length = ys := by
  rw [show pre ++ x :: (ys ++ rest) = (pre ++ [x]) ++ (ys ++ rest) by simp, show pre.length + 1 = (pre ++ [x]).length by simp, List.drop_left, List.take_left]
theorem byte_nat {k : Nat} (h : k < 256) : ((k : Int).toNat.toUInt8).toNat = k := by
  rw [Int.toNat_natCast]
  show (UInt8.ofNat k).toNat = k
  rw [UInt8.toNat_ofNat']
  omega
theorem digs_cases {size : Nat} (h : 56 ≤ size) (h2 : size < 65536) : (size < 256 ∧ digs size = [((size : Nat) : Int)]) ∨ (256 ≤ size ∧ digs size = [((size / 256 : Nat) : Int), ((size % 256 : Nat) : Int)]) := by
  unfold digs
  by_cases hs : size < 256
  · left
    refine ⟨hs, ?_⟩
    rw [if_pos (by omega)]
    congr 1
    omega
  · right
    refine ⟨by omega, ?_⟩
    rw [if_neg (by omega)]
    congr 1
    · omega
theorem head_short {base size : Nat} (hb : base = 128 ∨ base = 192) (h : size < 56) : (headL base size).map (fun n => n.toNat.toUInt8) = [((base + size : Nat) : Int).toNat.toUInt8] := by
  unfold headL
  rw [if_pos (by (clear hb; omega))]
  simp
theorem head_long {base size : Nat} (hb : base = 128 ∨ base = 192) (h : 56 ≤ size) (h2 : size < 65536) : ∃ ds : List UInt8, (headL base size).map (fun n => n.toNat.toUInt8) = ((base + 55 + ds.length : Nat) : Int).toNat.toUInt8 :: ds ∧ 1 ≤ ds.length ∧ ds.length ≤ 2 ∧ ds.getD 0 0 ≠ 0 ∧
    KFB.value (KBw.bInts ds.toArray) = (size : Int) := by
  refine ⟨(digs size).map (fun n => n.toNat.toUInt8), ?_, ?_, ?_, ?_, ?_⟩
  · unfold headL
    rw [if_neg (by (clear hb; omega)), List.map_cons, List.length_map]
    congr 2
  · rw [List.length_map]; exact digs_len.2
  · rw [List.length_map]; exact digs_len.1
  · rcases digs_cases h h2 with ⟨h3, e⟩ | ⟨h3, e⟩
    · rw [e]
      intro hz
      have := congrArg UInt8.toNat hz
      simp only [List.map_cons, List.map_nil, List.getD_cons_zero] at this
      rw [byte_nat h3] at this
      simp at this
      (clear e hb; omega)
    · rw [e]
      intro hz
      have := congrArg UInt8.toNat hz
      simp only [List.map_cons, List.map_nil, List.getD_cons_zero] at this
      rw [byte_nat (by (clear e hb this; omega))] at this
      simp at this
      (clear e hb; omega)
  · rcases digs_cases h h2 with ⟨h3, e⟩ | ⟨h3, e⟩
    · rw [e]
      unfold KFB.value KBw.bInts
      simp only [List.map_cons, List.map_nil, List.foldl_cons, List.foldl_nil, byte_nat h3]
      (clear e h h2 h3 hb; omega)
    · rw [e]
      unfold KFB.value KBw.bInts
      simp only [List.map_cons, List.map_nil, List.foldl_cons, List.foldl_nil]
      rw [byte_nat (by (clear e hb; omega)), byte_nat (by (clear e h h2 h3 hb; omega))]
      (clear e h h2 h3 hb; omega)
section
variable {w : World} {s : Shared} {G : Glo}
theorem clp_tree {n : Nat} (hn : n < 90) {t : T} (hp : t.isP = true) (hz : t.pay.length < 65536) {pre post : List UInt8} {t1 t2 : Tok} (W : Wld w G s.heap.get?) (hR : (pre ++ (t.hd ++ t.pay) ++ post).length ≤ 100000) :
    wpAny (model pw w) (AT (n + 2)) (call (.ref G.a16) [.bytes (pre ++ (t.hd ++ t.pay) ++ post).toArray t1, .int pre.length t2]) (fun r s' => ClpR s s' t.kind t.pay.length (pre.length + t.hd.length) r) (fun _ _ => False) s := by
  have long : ∀ (base : Nat) (hb : base = 128 ∨ base = 192) (hkind : (base = 128 ∧ t.kind = "bytes") ∨ (base = 192 ∧ t.kind = "list")) (hh : t.hd = (headL base t.pay.length).map fun n => n.toNat.toUInt8)
      (hone : base = 128 → t.pay.length = 1 → 128 ≤ (t.pay.getD 0 0).toNat),
      wpAny (model pw w) (AT (n + 2)) (call (.ref G.a16) [.bytes (pre ++ (t.hd ++ t.pay) ++ post).toArray t1, .int pre.length t2]) (fun r s' => ClpR s s' t.kind t.pay.length (pre.length + t.hd.length) r) (fun _ _ => False) s := by
    intro base hb hkind hh hone
    generalize hpay : t.pay = pay at *
    by_cases h56 : pay.length < 56
    · rw [head_short hb h56] at hh
      rw [hh] at hR ⊢
      have hbn : (((base + pay.length : Nat) : Int).toNat.toUInt8).toNat = base + pay.length := byte_nat (by (clear hR hb hh hn hp hpay; omega))
      refine clp_14 hn W (by simp) hR ?_
      have e0 : ((pre ++ ([((base + pay.length : Nat) : Int).toNat.toUInt8] ++ pay) ++ post).getD pre.length 0).toNat = base + pay.length := by
        rw [show pre ++ ([((base + pay.length : Nat) : Int).toNat.toUInt8] ++ pay) ++ post = pre ++ (((base + pay.length : Nat) : Int).toNat.toUInt8) :: (pay ++ post) by simp, getD_mid, hbn]
      rw [e0]
      rcases hkind with ⟨rfl, hk⟩ | ⟨rfl, hk⟩
      · refine .inr (.inl ⟨by (clear hR hb hh hn hone hp hpay; omega), by (clear hR hb hh hn hone hp hpay; omega), fun h1 => ?_, hk, by (clear hR hb hh hn hone hp hpay; omega), by simp⟩)
        have hl : pay.length = 1 := by (clear h56 hR hb hh hn hone hp hpay hz; omega)
        have hp1 := hone rfl hl
        obtain ⟨x, rfl⟩ := list1 hl
        refine ⟨by simp, ?_⟩
        rw [show pre ++ ([((128 + [x].length : Nat) : Int).toNat.toUInt8] ++ [x]) ++ post = pre ++ (((128 + [x].length : Nat) : Int).toNat.toUInt8) :: x :: post by simp, getD_mid1]
        simpa using hp1
      · exact .inr (.inr ⟨by (clear hR hb hh hn hone hp hpay; omega), by (clear hR hb hh hn hone hp hpay; omega), hk, by (clear hR hb hh hn hone hp hpay; omega), by simp⟩)
    · obtain ⟨ds, e, l1, l2, nz, val⟩ := head_long hb (by (clear hR hb hh hkind hn hone hp hpay; omega) : 56 ≤ pay.length) hz
      rw [e] at hh
      rw [hh] at hR ⊢
      have hbn : (((base + 55 + ds.length : Nat) : Int).toNat.toUInt8).toNat = base + 55 + ds.length := byte_nat (by (clear e hR hb hh hn hp hpay; omega))
      have eR : pre ++ ((((base + 55 + ds.length : Nat) : Int).toNat.toUInt8 :: ds) ++ pay) ++ post = pre ++ (((base + 55 + ds.length : Nat) : Int).toNat.toUInt8) :: (ds ++ (pay ++ post)) := by simp
      rw [eR] at hR ⊢
      have g0 : ((pre ++ (((base + 55 + ds.length : Nat) : Int).toNat.toUInt8) :: (ds ++ (pay ++ post))).getD pre.length 0).toNat = base + 55 + ds.length := by rw [getD_mid, hbn]
      have g1 : (pre ++ (((base + 55 + ds.length : Nat) : Int).toNat.toUInt8) :: (ds ++ (pay ++ post))).getD (pre.length + 1) 0 ≠ 0 := by
        obtain ⟨d, ds, rfl⟩ := list_pos l1
        · rw [show pre ++ (((base + 55 + (d :: ds).length : Nat) : Int).toNat.toUInt8) :: ((d :: ds) ++ (pay ++ post)) = pre ++ (((base + 55 + (d :: ds).length : Nat) : Int).toNat.toUInt8) :: d :: (ds ++ (pay ++ post)) by simp, getD_mid1]
          simpa using nz
      have hlen : pre.length + 1 + ds.length ≤ (pre ++ (((base + 55 + ds.length : Nat) : Int).toNat.toUInt8) :: (ds ++ (pay ++ post))).length := by simp; (clear e eR g0 hR hb hbn hh hkind hn hone hp hpay l1 l2; omega)
      have en : pre.length + ((((base + 55 + ds.length : Nat) : Int).toNat.toUInt8) :: ds).length = pre.length + 1 + ds.length := by simp; (clear e eR g0 h56 hR hb hbn hh hkind hlen hn hone hp hpay hz l1 l2 val; omega)
      rw [en]
      rcases hkind with ⟨rfl, hk⟩ | ⟨rfl, hk⟩
      · rw [hk]
        exact clp_3 hn W hR l2 l1 hlen g0 g1 (by rw [take_mid]; exact val) (by (clear e eR en g0 hR hb hbn hh hlen hn hone hp hpay l1 l2; omega))
      · rw [hk]
        exact clp_5 hn W hR l2 l1 hlen g0 g1 (by rw [take_mid]; exact val) (by (clear e eR en g0 hR hb hbn hh hlen hn hone hp hpay l1 l2; omega))
  cases t with
  | byt b =>
    by_cases h : b.size = 1 ∧ b.toList.getD 0 0 < 128
    · have hh : T.hd (.byt b) = [] := by unfold T.hd; dsimp only; rw [if_pos h]
      have hpay : T.pay (.byt b) = b.toList := rfl
      rw [hh, hpay] at hR ⊢
      have hl : b.toList.length = 1 := by simpa using h.1
      have h2 := UInt8.lt_iff_toNat_lt.mp h.2
      generalize b.toList = l at hR hl h2 ⊢
      obtain ⟨x, rfl⟩ := list1 hl
      · refine clp_14 hn W (by simp) hR (.inl ⟨?_, rfl, rfl, by simp⟩)
        rw [show pre ++ ([] ++ [x]) ++ post = pre ++ x :: post by simp, getD_mid]
        simpa using h2
    · refine long 128 (.inl rfl) (.inl ⟨rfl, rfl⟩) ?_ (fun _ h1 => ?_)
      · unfold T.hd T.pay
        dsimp only
        rw [if_neg h]
        simp
      · have h1' : b.size = 1 := by simpa [T.pay] using h1
        have h3 : ¬ b.toList.getD 0 0 < 128 := fun x => h ⟨h1', x⟩
        have : ¬ (b.toList.getD 0 0).toNat < 128 := fun x => h3 (UInt8.lt_iff_toNat_lt.mpr x)
        show 128 ≤ (b.toList.getD 0 0).toNat
        (clear h h1 h1' hR hn hp hz; omega)
  | lst xs =>
    refine long 192 (.inr rfl) (.inr ⟨rfl, rfl⟩) ?_ (fun h => by (clear hR hn hp hz; omega))
    unfold T.hd T.pay
    simp
  | _ => cases hp
end
end Mine
end Enc_part
section Pay_part
open PySem PySem.W PySem.Calls PyProof.Rows
set_option Elab.async false
set_option maxRecDepth 100000
set_option maxHeartbeats 2000000
namespace Mine
/-- what consume_payload returns: the item, its list of encodings (its first a bytes of bounded size), the place behind -/
noncomputable def PayR (V : View) (s s' : Shared) (t : T) (nxt qb : Nat) (r : Value) : Prop :=
  Keeps s s' ∧ ∃ a v l q tq rest ep V' tn, r = .ref a ∧ s'.heap.get? a = some (tupO #[v, .ref l, .int (nxt : Int) tn] 0) ∧ Ext V s.heap V' s'.heap ∧ Has V' t v ∧
    s'.heap.get? l = some (listO (#[Value.bytes q tq] ++ rest) ep) ∧ s.heap.get? l = none ∧ q.size ≤ qb
@[elab_as_elim] theorem PayR.elim {V : View} {s : Shared} {t : T} {nxt qb : Nat} {C : Value → Shared → Prop} {r : Value} {s' : Shared} (h : PayR V s s' t nxt qb r)
    (H : ∀ (h' : Heap) (tk : Nat) (a : Addr) (v : Value) (l : Addr) (q : Array UInt8) (tq : Tok) (rest : Array Value) (ep : Nat) (V' : View) (tn : Tok), (∀ b o, s.heap.get? b = some o → h'.get? b = some o) → h'.get? a = some (tupO #[v, .ref l, .int (nxt : Int) tn] 0) →
      Ext V s.heap V' h' → Has V' t v → h'.get? l = some (listO (#[Value.bytes q tq] ++ rest) ep) → s.heap.get? l = none → q.size ≤ qb → C (.ref a) { s with heap := h', toks := tk }) : C r s' := by
  obtain ⟨⟨h', tk, rfl, k⟩, a, v, l, q, tq, rest, ep, V', tn, rfl, ha, X, hv, hl, hf, hq⟩ := h
  exact H h' tk a v l q tq rest ep V' tn k ha X hv hl hf hq
section
variable {w : World} {s : Shared} {G : Glo}
theorem pay_byt {n : Nat} (hn : n < 90) {b : Array UInt8} (hb : b.size ≤ 1000) {pre post : List UInt8} {P : Array UInt8} (hP : P.size ≤ 3) {V : View} {t1 t2 t3 t4 t5 : Tok} (hVs : VLe V s.heap.get?) (W : Wld w G s.heap.get?) (hR : (pre ++ b.toList ++ post).length ≤ 100000) :
    wpAny (model pw w) (AT (n + 1)) (call (.ref G.a17) [.bytes (pre ++ b.toList ++ post).toArray t1, .bytes P t2, .int pre.length t3, .str "bytes" t4, .int b.size t5]) (fun r s' => PayR V s s' (.byt b) (pre.length + b.size) (P.size + b.size) r) (fun _ _ => False) s := by
  refine call_fn (k := 17) (binds := [("rlp", .bytes (pre ++ b.toList ++ post).toArray t1), ("prefix", .bytes P t2), ("start", .int pre.length t3), ("type_", .str "bytes" t4), ("length", .int b.size t5)]) (by (clear hP hR hb; omega)) W (Glo.m17 _) (by kernel_rfl) (fun pm cd doc => by kernel_rfl) (by kernel_rfl) fun h₁ cd F => ?_
  refine wpAny_execs_cons (wpAny_If (wpAny_isTrue_Compare1 ?_ (by rfl)))
  refine ld F rfl (Constant_str (eq_str ?_))
  refine wpAny_truthy_bool ?_
  rw [beq_self_eq_true, if_pos rfl]
  refine wpAny_execs_cons (wpAny_Assign_Name ?_ (by rfl))
  refine sub_slice (x := pre ++ b.toList ++ post) (t := t1) (h₀ := s.heap) (L := s.heap.objs.size) (ld F rfl (ld F rfl (wpAny_BinOp (ld F rfl (ld F rfl (add_int ⟨pre.length, pre.length + b.size, _, _, rfl, rfl, rfl, by simp, hR, F, fun h2 t6 k2 F2 => ?_⟩))))))
  have e : (((pre ++ b.toList ++ post).drop pre.length).take (pre.length + b.size - pre.length)).toArray = b := by
    rw [List.append_assoc, List.drop_left, show pre.length + b.size - pre.length = b.toList.length by simp, List.take_left]
  rw [e]
  refine st F2 (fun h3 F3 => ?_)
  dsimp only
  refine wpAny_execs_cons (wpAny_Return_some (wpAny_Tuple (spliced_cons (ld F3 rfl (spliced_cons (wpAny_List (spliced_cons (wpAny_BinOp (ld F3 rfl (ld F3 rfl (KBy.add_bytes (by (clear e hR hn; omega)) (fun t7 k7 => ?_))))))))))))
  refine spliced_nil ⟨by size_fits, ?_⟩
  have F4 := F3.push { cls := .type "list", data := .seq [Value.bytes (P ++ b) t7].toArray }
  refine spliced_cons (wpAny_BinOp (ld F4 rfl (ld F4 rfl (add_int (spliced_nil ⟨by size_fits, ?_⟩)))))
  have kk : ∀ o1 o2 b' o, s.heap.get? b' = some o → ((h3.push o1).push o2).get? b' = some o := fun o1 o2 b' o e => Heap.get?_push_of_some _ (Heap.get?_push_of_some _ (F3.keep b' o e))
  refine ⟨⟨_, _, rfl, fun b' o e => kk _ _ b' o e⟩, _, .bytes b t6, h3.objs.size, P ++ b, t7, #[], 0, V, _, rfl, Heap.get?_push_size _ rfl, Ext.refl (fun b' o e => kk _ _ b' o (hVs b' o e)), ?_, ?_, ?_, ?_⟩
  · unfold Has
    exact ⟨hb, t6, rfl⟩
  · exact Heap.get?_push_of_some _ (Heap.get?_push_size _ rfl)
  · cases q : s.heap.get? h3.objs.size with
    | none => rfl
    | some o => exact absurd (Heap.lt_size (F3.keep _ _ q)) (Nat.lt_irrefl _)
  · simp
end
end Mine
end Pay_part
section Small_part
open PySem PySem.W PySem.Calls PyProof.Rows
set_option Elab.async false
set_option maxRecDepth 100000
set_option maxHeartbeats 2000000
namespace Mine
section
variable {w : World} {s : Shared} {G : Glo}
theorem deser_ok {n : Nat} (hn : n < 90) {v : Value} (W : Wld w G s.heap.get?) : wpAny (model pw w) (AT (n + 1)) (call (.ref G.a23) [v]) (fun r s' => Keeps s s' ∧ r = v) (fun _ _ => False) s := by
  refine call_fn (k := 23) (binds := [("serial", v)]) (by omega) W (Glo.m23 _) (by kernel_rfl) (fun pm cd doc => by kernel_rfl) (by kernel_rfl) fun h₁ cd F => ?_
  exact wpAny_execs_cons (wpAny_Return_some (ld F rfl ⟨keeps_fr F, rfl⟩))
theorem isb_ok {n : Nat} (hn : n < 90) {t : T} {v : Value} (W : Wld w G s.heap.get?) (H : Has s.heap.get? t v) : wpAny (model pw w) (AT (n + 1)) (call (.ref G.a7) [v]) (fun r s' => Keeps s s' ∧ r = .bool t.isB) (fun _ _ => False) s := by
  refine call_fn (k := 7) (binds := [("value", v)]) (by omega) W (Glo.m7 _) (by kernel_rfl) (fun pm cd doc => by kernel_rfl) (by kernel_rfl) fun h₁ cd F => ?_
  refine wpAny_execs_cons (wpAny_Return_some ?_)
  refine wpAny_mono (isi_test_b (W.keeps F.keep) ⟨rfl, rfl, rfl⟩ (by rfl) (fun Q' s' k q => ld (F.keeps (keeps_of k)) rfl q) (Has.mono F.keep t v H)) (fun r s₁ h => ?_) fun _ _ h => h.elim
  exact ⟨keeps_trans (keeps_fr F) h.1, h.2⟩
end
end Mine
end Small_part
section Pay2_part
open PySem PySem.W PySem.Calls PyProof.Rows
set_option Elab.async false
set_option maxRecDepth 100000
set_option maxHeartbeats 4000000
namespace Mine
mutual
noncomputable def T.small : T → Prop
  | .byt b => b.size ≤ 1000
  | .lst xs => xs.length ≤ 1000 ∧ T.smalls xs
  | _ => True
noncomputable def T.smalls : List T → Prop
  | [] => True
  | x :: xs => T.small x ∧ T.smalls xs
end
theorem T.small_mem : ∀ {xs : List T} {i : Nat} {t : T}, T.smalls xs → xs[i]? = some t → t.small
  | [], i, t, _, h => by simp at h
  | x :: xs, 0, t, p, h => by unfold T.smalls at p; simp at h; subst h; exact p.1
  | x :: xs, i + 1, t, p, h => by unfold T.smalls at p; exact T.small_mem p.2 (by simpa using h)
noncomputable def T.qb : T → Nat
  | .byt b => b.size
  | t => 4 * t.pay.length
theorem T.puts_list : ∀ (xs : List T) (i : Nat) (t : T), xs[i]? = some t → (T.puts xs).toList = (T.puts (xs.take i)).toList ++ t.put.toList ++ (T.puts (xs.drop (i + 1))).toList
  | [], i, t, h => by simp at h
  | x :: xs, 0, t, h => by
    simp at h
    subst h
    simp [T.puts]
  | x :: xs, i + 1, t, h => by
    have := T.puts_list xs i t (by simpa using h)
    simp only [T.puts, Array.toList_append, List.take_succ_cons, List.drop_succ_cons, this, List.append_assoc]
theorem T.put_pos {t : T} (hp : t.isP = true) : 1 ≤ t.put.size := by
  have h := T.put_list hp
  have : t.put.toList.length = t.hd.length + t.pay.length := by rw [h]; simp
  cases t with
  | byt b =>
    by_cases c : b.size = 1 ∧ b.toList.getD 0 0 < 128
    · unfold T.put; rw [if_pos c]; (clear h hp this; omega)
    · have : 1 ≤ (T.hd (.byt b)).length := by
        unfold T.hd; dsimp only; rw [if_neg c, List.length_map]; unfold headL; split <;> simp
      simp at *; (clear h hp; omega)
  | lst xs =>
    have : 1 ≤ (T.hd (.lst xs)).length := by
      unfold T.hd; dsimp only; rw [List.length_map]; unfold headL; split <;> simp
    simp at *; (clear h hp; omega)
  | _ => cases hp
theorem T.qb_le {t : T} (hp : t.isP = true) : 3 + t.qb ≤ 4 * t.put.size := by
  have h := T.put_list hp
  have hl : t.put.size = t.hd.length + t.pay.length := by rw [← Array.length_toList, h]; simp
  cases t with
  | byt b =>
    show 3 + b.size ≤ _
    have : (T.pay (.byt b)).length = b.size := by simp [T.pay]
    have := T.put_pos hp
    (clear h hp; omega)
  | lst xs =>
    have : 1 ≤ (T.hd (.lst xs)).length := by
      unfold T.hd; dsimp only; rw [List.length_map]; unfold headL; split <;> simp
    show 3 + 4 * (T.pay (.lst xs)).length ≤ _
    (clear h hp; omega)
  | _ => cases hp
end Mine
end Pay2_part
section Unp_part
open PySem PySem.W PySem.Calls PyProof.Rows
set_option Elab.async false
set_option maxRecDepth 100000
set_option maxHeartbeats 2000000
namespace Mine
section
variable {prog : Program} {w : World} {A : Around} {E : Value → Shared → Prop} {s : Shared} {name : Str} {scope : Scope} {L f : Addr} {cd : Value} {h₀ : Heap} {m : Str → Option Value} {news : List (Addr × Obj)}
noncomputable def set1 (m : Str → Option Value) (x : Str) (v : Value) : Str → Option Value := fun y => if y = x then some v else m y
/-- a store that keeps all but the frame -/
theorem stK {x : Str} {v : Value} {Q : Unit → Shared → Prop} (F : Fr h₀ L s.heap m) (N : News h₀ L s.heap news)
    (h : ∀ h', Fr h₀ L h' (set1 m x v) → News h₀ L h' news → (∀ b o, b ≠ L → s.heap.get? b = some o → h'.get? b = some o) → Q () { s with heap := h', toks := s.toks + 1 })
    (hk : scope.kind = .function) (hl : (envOf name scope L f cd).kindOf x = some .local) :
    wpAny (model prog w) A (storeName (envOf name scope L f cd) x v) Q E s :=
  wpAny_storeName_local hl F.ns (fun h' hn hs => h h' (F.set hn hs) (N.set hs) fun b o hb e => (hs.2 b hb).trans e)
    (by show (scope.kind == .class || (scope.kind == .module && L != mainGlobals)) = false; rw [hk]; rfl)
theorem unpack4 {x1 x2 x3 x4 : Str} {p1 p2 p3 p4 tpos pos : Pos} {k : Nat} {value : Expr} {Q : Flow → Shared → Prop} (hh : A.handled = none)
    (h : ∀ Q' : Value → Shared → Prop, (∀ a v1 v2 v3 v4 ep m news s₁, s₁.heap.get? a = some (tupO #[v1, v2, v3, v4] ep) → Fr h₀ L s₁.heap m → News h₀ L s₁.heap news →
      (∀ h' tk, Fr h₀ L h' (set1 (set1 (set1 (set1 m x1 v1) x2 v2) x3 v3) x4 v4) → News h₀ L h' news → (∀ b o, b ≠ L → s₁.heap.get? b = some o → h'.get? b = some o) → Q .next { s₁ with heap := h', toks := tk }) → Q' (.ref a) s₁) → wpAny (model prog w) A (eval value (envOf name scope L f cd)) Q' E s)
    (hk : scope.kind = .function) (l1 : (envOf name scope L f cd).kindOf x1 = some .local) (l2 : (envOf name scope L f cd).kindOf x2 = some .local) (l3 : (envOf name scope L f cd).kindOf x3 = some .local) (l4 : (envOf name scope L f cd).kindOf x4 = some .local)
    (hs : swapsWithSole [.Tuple [.Name x1 p1, .Name x2 p2, .Name x3 p3, .Name x4 p4] k tpos] value pos.line (envOf name scope L f cd) = pure false)
    (hw : swappedStores [.Tuple [.Name x1 p1, .Name x2 p2, .Name x3 p3, .Name x4 p4] k tpos] value (envOf name scope L f cd) = pure none) :
    wpAny (model prog w) A (exec (.Assign [.Tuple [.Name x1 p1, .Name x2 p2, .Name x3 p3, .Name x4 p4] k tpos] value pos) (envOf name scope L f cd)) Q E s := by
  refine Assign_Tuple (h _ fun a v1 v2 v3 v4 ep m news s₁ ha F N hQ => ?_) hs hw
  refine assign_Tuple_tuple hh (items := _) ⟨_, ha, rfl, ep, rfl⟩ rfl rfl fun h2 he => ?_
  have F2 := F.extBut he (Nat.le_refl _)
  have N2 := N.extBut he (Nat.le_refl _)
  have k2 : ∀ b o, s₁.heap.get? b = some o → h2.get? b = some o := fun b o e => he b o (Nat.ne_of_lt (Heap.lt_size e)) e
  refine assignInOrder_cons (assign_Name (stK F2 N2 (fun h3 F3 N3 k3 => ?_) hk l1))
  refine assignInOrder_cons (assign_Name (stK F3 N3 (fun h4 F4 N4 k4 => ?_) hk l2))
  refine assignInOrder_cons (assign_Name (stK F4 N4 (fun h5 F5 N5 k5 => ?_) hk l3))
  refine assignInOrder_cons (assign_Name (stK F5 N5 (fun h6 F6 N6 k6 => ?_) hk l4))
  exact assignInOrder_nil (hQ h6 _ F6 N6 fun b o hb e => k6 b o hb (k5 b o hb (k4 b o hb (k3 b o hb (k2 b o e)))))
theorem unpack3 {x1 x2 x3 : Str} {p1 p2 p3 tpos pos : Pos} {k : Nat} {value : Expr} {Q : Flow → Shared → Prop} (hh : A.handled = none)
    (h : ∀ Q' : Value → Shared → Prop, (∀ a v1 v2 v3 ep m news s₁, s₁.heap.get? a = some (tupO #[v1, v2, v3] ep) → Fr h₀ L s₁.heap m → News h₀ L s₁.heap news →
      (∀ h' tk, Fr h₀ L h' (set1 (set1 (set1 m x1 v1) x2 v2) x3 v3) → News h₀ L h' news → (∀ b o, b ≠ L → s₁.heap.get? b = some o → h'.get? b = some o) → Q .next { s₁ with heap := h', toks := tk }) → Q' (.ref a) s₁) → wpAny (model prog w) A (eval value (envOf name scope L f cd)) Q' E s)
    (hk : scope.kind = .function) (l1 : (envOf name scope L f cd).kindOf x1 = some .local) (l2 : (envOf name scope L f cd).kindOf x2 = some .local) (l3 : (envOf name scope L f cd).kindOf x3 = some .local)
    (hs : swapsWithSole [.Tuple [.Name x1 p1, .Name x2 p2, .Name x3 p3] k tpos] value pos.line (envOf name scope L f cd) = pure false)
    (hw : swappedStores [.Tuple [.Name x1 p1, .Name x2 p2, .Name x3 p3] k tpos] value (envOf name scope L f cd) = pure none) :
    wpAny (model prog w) A (exec (.Assign [.Tuple [.Name x1 p1, .Name x2 p2, .Name x3 p3] k tpos] value pos) (envOf name scope L f cd)) Q E s := by
  refine Assign_Tuple (h _ fun a v1 v2 v3 ep m news s₁ ha F N hQ => ?_) hs hw
  refine assign_Tuple_tuple hh (items := _) ⟨_, ha, rfl, ep, rfl⟩ rfl rfl fun h2 he => ?_
  have F2 := F.extBut he (Nat.le_refl _)
  have N2 := N.extBut he (Nat.le_refl _)
  have k2 : ∀ b o, s₁.heap.get? b = some o → h2.get? b = some o := fun b o e => he b o (Nat.ne_of_lt (Heap.lt_size e)) e
  refine assignInOrder_cons (assign_Name (stK F2 N2 (fun h3 F3 N3 k3 => ?_) hk l1))
  refine assignInOrder_cons (assign_Name (stK F3 N3 (fun h4 F4 N4 k4 => ?_) hk l2))
  refine assignInOrder_cons (assign_Name (stK F4 N4 (fun h5 F5 N5 k5 => ?_) hk l3))
  exact assignInOrder_nil (hQ h5 _ F5 N5 fun b o hb e => k5 b o hb (k4 b o hb (k3 b o hb (k2 b o e))))
end
end Mine
end Unp_part
section IAdd_part
open PySem PySem.W PySem.Calls PyProof.Rows
set_option Elab.async false
set_option maxRecDepth 100000
set_option maxHeartbeats 2000000
namespace Mine
theorem noI_bytes_add : typeLookup (.type "bytes") (dunderI "add") = pure none := by rw [typeLookup_type, builtinLookup_eq_fast]; kernel_rfl
section
variable {prog : Program} {w : World} {A : Around} {E : Value → Shared → Prop} {s : Shared} {b c : Array UInt8} {t u : Tok} {Q : Value → Shared → Prop}
theorem iadd_bytes (hsz : b.size + c.size ≤ 16777216) (h : ∀ t' k, Q (.bytes (b ++ c) t') { s with toks := k }) : wpAny (model prog w) A (inplaceOp .Add (.bytes b t) (.bytes c u)) Q E s := by
  refine iconcat_gives (typeIs_bytes s b t) (typeIs_bytes s c u) noI_bytes_add KBy.noFill_bytes_add KBy.seq_bytes_add FB.slot_bytes_add FB.entry_bytes_add (FB.args_bytes_add_2 _ _) (KBy.gives_bytes_add (KBy.tooLong_not hsz)) ?_
  by_cases hb : b.isEmpty = true
  · rw [if_pos hb]
    have e : b = #[] := Array.isEmpty_iff.1 hb
    have h' := h u s.toks
    rw [e, Array.empty_append] at h'
    exact h'
  · rw [if_neg hb]
    by_cases hc : c.isEmpty = true
    · rw [if_pos hc]
      have e : c = #[] := Array.isEmpty_iff.1 hc
      have h' := h t s.toks
      rw [e, Array.append_empty] at h'
      exact h'
    · rw [if_neg hc]
      exact ⟨by rw [Array.size_append, sizeLine_eq]; exact hsz, h s.toks (s.toks + 1)⟩
end
end Mine
end IAdd_part
section Pay3_part
open PySem PySem.W PySem.Calls PyProof.Rows
set_option Elab.async false
set_option maxRecDepth 100000
set_option maxHeartbeats 4000000
namespace Mine
/-- the loop's invariant -/
noncomputable def PayI (s : Shared) (V : View) (xs : List T) (R : List UInt8) (len pl : Nat) (P : Array UInt8) (t1 : Tok) (D1 D2 : Addr) (k : Nat) (s' : Shared) : Prop :=
  ∃ i h' tk m vs1 ep1 ws ep2 q tq tp te V', s' = { s with heap := h', toks := tk } ∧ i ≤ xs.length ∧ k = xs.length - i ∧ Fr s.heap s.heap.objs.size h' m ∧ m "rlp" = some (.bytes R.toArray t1) ∧
    m "items" = some (.ref D1) ∧ m "per_item_rlp" = some (.ref D2) ∧ m "list_rlp" = some (.bytes q tq) ∧ m "next_item_start" = some (.int ((pl + (T.puts (xs.take i)).size : Nat) : Int) tp) ∧ m "end" = some (.int ((pl + len : Nat) : Int) te) ∧
    News s.heap s.heap.objs.size h' [(D2, listO ws ep2), (D1, listO vs1 ep1)] ∧ HasAll V' (xs.take i) vs1.toList ∧ Ext V s.heap V' h' ∧ V' D1 = none ∧ V' D2 = none ∧ V' s.heap.objs.size = none ∧ ws.size = i ∧
    q.size ≤ P.size + 4 * (T.puts (xs.take i)).size
theorem PayI.mk {s : Shared} {V : View} {xs : List T} {R : List UInt8} {len pl k : Nat} {P : Array UInt8} {t1 : Tok} {D1 D2 : Addr} {i : Nat} {h' : Heap} {tk : Nat} {m : Str → Option Value} {vs1 : Array Value} {ep1 : Nat} {ws : Array Value} {ep2 : Nat} {q : Array UInt8} {tq tp te : Tok} {V' : View}
    (F' : Fr s.heap s.heap.objs.size h' m) (hk : k = xs.length - i) (hi : i ≤ xs.length) (mr : m "rlp" = some (.bytes R.toArray t1)) (mi : m "items" = some (.ref D1)) (mp : m "per_item_rlp" = some (.ref D2)) (ml : m "list_rlp" = some (.bytes q tq))
    (mn : m "next_item_start" = some (.int ((pl + (T.puts (xs.take i)).size : Nat) : Int) tp)) (me : m "end" = some (.int ((pl + len : Nat) : Int) te)) (N' : News s.heap s.heap.objs.size h' [(D2, listO ws ep2), (D1, listO vs1 ep1)])
    (hA : HasAll V' (xs.take i) vs1.toList) (hE : Ext V s.heap V' h') (v1 : V' D1 = none) (v2 : V' D2 = none) (vL : V' s.heap.objs.size = none) (hws : ws.size = i) (hq : q.size ≤ P.size + 4 * (T.puts (xs.take i)).size) :
    PayI s V xs R len pl P t1 D1 D2 k { s with heap := h', toks := tk } :=
  ⟨i, h', tk, m, vs1, ep1, ws, ep2, q, tq, tp, te, V', rfl, hi, hk, F', mr, mi, mp, ml, mn, me, N', hA, hE, v1, v2, vL, hws, hq⟩
@[elab_as_elim] theorem PayI.elim {s : Shared} {V : View} {xs : List T} {R : List UInt8} {len pl : Nat} {P : Array UInt8} {t1 : Tok} {D1 D2 : Addr} {C : Nat → Shared → Prop} {k : Nat} {s' : Shared} (h : PayI s V xs R len pl P t1 D1 D2 k s')
    (H : ∀ (i : Nat) (h' : Heap) (tk : Nat) (m : Str → Option Value) (vs1 : Array Value) (ep1 : Nat) (ws : Array Value) (ep2 : Nat) (q : Array UInt8) (tq tp te : Tok) (V' : View), i ≤ xs.length → Fr s.heap s.heap.objs.size h' m → m "rlp" = some (.bytes R.toArray t1) → m "items" = some (.ref D1) → m "per_item_rlp" = some (.ref D2) →
      m "list_rlp" = some (.bytes q tq) → m "next_item_start" = some (.int ((pl + (T.puts (xs.take i)).size : Nat) : Int) tp) → m "end" = some (.int ((pl + len : Nat) : Int) te) → News s.heap s.heap.objs.size h' [(D2, listO ws ep2), (D1, listO vs1 ep1)] →
      HasAll V' (xs.take i) vs1.toList → Ext V s.heap V' h' → V' D1 = none → V' D2 = none → V' s.heap.objs.size = none → ws.size = i → q.size ≤ P.size + 4 * (T.puts (xs.take i)).size → C (xs.length - i) { s with heap := h', toks := tk }) : C k s' := by
  obtain ⟨i, h', tk, m, vs1, ep1, ws, ep2, q, tq, tp, te, V', rfl, hi, rfl, F', mr, mi, mp, ml, mn, me, N', hA, hE, v1, v2, vL, hws, hq⟩ := h
  exact H i h' tk m vs1 ep1 ws ep2 q tq tp te V' hi F' mr mi mp ml mn me N' hA hE v1 v2 vL hws hq
/-- consume_payload at a tree -/
noncomputable def PayC (w : World) (G : Glo) (n : Nat) (t : T) : Prop := t.ht ≤ n → n ≤ 40 → t.isP = true → t.small → t.pay.length < 65536 → ∀ (s : Shared) (V : View) (pre post : List UInt8) (P : Array UInt8) (t1 t2 t3 t4 t5 : Tok), P.size ≤ 3 → VLe V s.heap.get? → Wld w G s.heap.get? →
    (pre ++ t.pay ++ post).length ≤ 100000 →
    wpAny (model pw w) (AT (2 * n + 1)) (call (.ref G.a17) [.bytes (pre ++ t.pay ++ post).toArray t1, .bytes P t2, .int pre.length t3, .str t.kind t4, .int t.pay.length t5]) (fun r s' => PayR V s s' t (pre.length + t.pay.length) (P.size + t.qb) r) (fun _ _ => False) s
theorem pay_b {w : World} {G : Glo} {n : Nat} {b : Array UInt8} : PayC w G n (.byt b) := by
  intro hn hn' hp hsm hz s V pre post P t1 t2 t3 t4 t5 hP hVs W hR
  have e : (T.pay (.byt b)).length = b.size := by simp [T.pay]
  rw [e]
  unfold T.small at hsm
  exact pay_byt (n := 2 * n) (by (clear e hP hR hn hp hsm hz; omega)) hsm hP hVs W hR
theorem pay_lst {w : World} {G : Glo} {n : Nat} (IH : ∀ t, PayC w G n t) {xs : List T} : PayC w G (n + 1) (.lst xs) := by
  intro hn hn' hp hsm hz s V pre post P t1 t2 t3 t4 t5 hP hVs W hR
  unfold T.ht at hn
  have hsm' := hsm
  unfold T.small at hsm'
  unfold T.isP at hp
  generalize hRR : pre ++ T.pay (.lst xs) ++ post = R at hR
  generalize hlen : (T.pay (.lst xs)).length = len at hz
  refine call_fn (k := 17) (binds := [("rlp", .bytes R.toArray t1), ("prefix", .bytes P t2), ("start", .int pre.length t3), ("type_", .str "list" t4), ("length", .int len t5)]) (by (clear hP hR hRR hlen hn hp hsm' hz; omega)) W (Glo.m17 _) (by kernel_rfl) (fun pm cd doc => by kernel_rfl) (by kernel_rfl) fun h₁ cd F => ?_
  refine wpQ fun Q0 hQ0 => ?_
  refine wpAny_execs_cons (wpAny_If (wpAny_isTrue_Compare1 ?_ (by rfl)))
  refine ld F rfl (Constant_str (eq_str ?_))
  refine wpAny_truthy_bool ?_
  rw [show ((Str.ofString "list") == (Str.ofString "bytes")) = false by decide, if_neg (by simp)]
  refine wpAny_execs_cons (wpAny_If (wpAny_isTrue_Compare1 ?_ (by rfl)))
  refine ld F rfl (Constant_str (eq_str ?_))
  refine wpAny_truthy_bool ?_
  rw [beq_self_eq_true, if_pos rfl]
  refine wpAny_execs_cons (wpAny_Assign_Name (wpAny_List (spliced_nil ⟨by size_fits, ?_⟩)) (by rfl))
  have F1 := F.push { cls := .type "list", data := .seq ([] : List Value).toArray }
  have N1 : News s.heap s.heap.objs.size _ _ := News.push F News.nil { cls := .type "list", data := .seq ([] : List Value).toArray }
  refine stN F1 N1 (fun h₂ F₂ N₂ => ?_)
  dsimp only
  refine wpAny_execs_cons (wpAny_Assign_Name (wpAny_List (spliced_nil ⟨by size_fits, ?_⟩)) (by rfl))
  have F3 := F₂.push { cls := .type "list", data := .seq ([] : List Value).toArray }
  have N3 := News.push F₂ N₂ { cls := .type "list", data := .seq ([] : List Value).toArray }
  refine stN F3 N3 (fun h4 F4 N4 => ?_)
  dsimp only
  refine wpAny_execs_cons (wpAny_Assign_Name (ld F4 rfl ?_) (by rfl))
  refine stN F4 N4 (fun h5 F5 N5 => ?_)
  dsimp only
  refine wpAny_execs_cons (wpAny_Assign_Name (ld F5 rfl ?_) (by rfl))
  refine stN F5 N5 (fun h6 F6 N6 => ?_)
  dsimp only
  refine wpAny_execs_cons (wpAny_Assign_Name (wpAny_BinOp (ld F6 rfl (ld F6 rfl (add_int ?_)))) (by rfl))
  refine stN F6 N6 (fun h7 F7 N7 => ?_)
  dsimp only
  have hpay : (T.pay (.lst xs)) = (T.puts xs).toList := rfl
  have hlen' : len = (T.puts xs).size := by rw [← hlen, hpay]; simp
  have hD12 : h₁.objs.size ≠ h₂.objs.size := Nat.ne_of_lt (Heap.lt_size (N₂ _ (.head _)).1)
  have hD1n := (N7 _ (.tail _ (.head _))).2
  have hD2n := (N7 _ (.head _)).2
  have voff : ∀ b, s.heap.get? b = none → V b = none := fun b hb => by
    cases q : V b with
    | none => rfl
    | some o => have := hVs b o q; rw [hb] at this; cases this
  have hLn : s.heap.get? s.heap.objs.size = none := Heap.get?_none_of_le (by simp)
  refine wpAny_execs_cons (wpAny_While ?_)
  refine codeAny_whileLoop (PayI s V xs R len pre.length P t1 h₁.objs.size h₂.objs.size) ?_ xs.length
    (PayI.mk (i := 0) F7 rfl (Nat.zero_le _) rfl rfl rfl rfl rfl rfl N7 (by unfold HasAll; trivial) (Ext.refl (fun b o e => F7.keep b o (hVs b o e))) (voff _ hD1n.2) (voff _ hD2n.2) (voff _ hLn) rfl (by simp))
  intro k s' hI
  refine hI.elim fun i h' tk m vs1 ep1 ws ep2 q tq tp te V' hi F' mr mi mp ml mn me N' hA hE v1 v2 vL hws hq => ?_
  have hN2 := N' _ (.head _)
  have hN1 := N' _ (.tail _ (.head _))
  refine wpAny_isTrue_Compare1 (ld F' mn (ld F' me (lt_int (wpAny_truthy_bool ?_)))) (by rfl)
  by_cases hlt : i < xs.length
  · obtain ⟨t', ht'⟩ : ∃ t', xs[i]? = some t' := ⟨xs[i], List.getElem?_eq_getElem hlt⟩
    have hp' := T.isP_mem hp ht'
    have htake := T.puts_take xs i t' ht'
    have hle : (T.puts (xs.take (i + 1))).size ≤ len := hlen' ▸ T.puts_take_le xs (i + 1)
    rw [htake, Array.size_append] at hle
    have hpos := T.put_pos hp'
    have hpl : t'.put.size = t'.hd.length + t'.pay.length := by rw [← Array.length_toList, T.put_list hp']; simp
    rw [decide_eq_true (by (clear hD12 hD1n hD2n hLn hN1 hN2 hP hR hRR hi hlen hlt hn hn' hp hp' hpay hq hsm' ht' htake hws hz me mi ml mn mp mr v1 v2 vL; omega) : (((pre.length + (T.puts (xs.take i)).size : Nat) : Int) < ((pre.length + len : Nat) : Int))), if_pos rfl]
    have W' : Wld w G h'.get? := W.keeps F'.keep
    have eqR : R = (pre ++ (T.puts (xs.take i)).toList) ++ (t'.hd ++ t'.pay) ++ ((T.puts (xs.drop (i + 1))).toList ++ post) := by
      rw [← hRR, hpay, T.puts_list xs i t' ht', T.put_list hp']
      simp
    have hprel : (pre ++ (T.puts (xs.take i)).toList).length = pre.length + (T.puts (xs.take i)).size := by simp
    refine wpAny_execs_cons (unpack4 (h₀ := s.heap) rfl (fun Q4 hQ4 => ?_) rfl rfl rfl rfl rfl (by rfl) (by rfl))
    refine Call_Name2 (gname W' ⟨rfl, rfl, rfl⟩ rfl (lk_consume_length_prefix _ _) ?_) rfl
    refine callWith_g (k := 16) W' (Glo.m16 _) (spliced_cons (ld F' mr (spliced_cons (ld F' mn (spliced_nil ⟨fun _ _ _ e => e, ?_⟩)))))
    have c := clp_tree (s := { s with heap := h', toks := tk }) (n := 2 * n) (by (clear eqR hD12 hD1n hD2n hLn hN1 hN2 hP hR hRR hi hle hlen hlen' hlt hn hp hp' hpay hpl hpos hprel hq hsm' ht' htake hws hz me mi ml mn mp mr v1 v2 vL; omega)) hp' (by (clear eqR hD12 hD1n hD2n hLn hN1 hN2 hP hR hRR hi hlt hn hn' hp hp' hpay hq hsm' ht' htake hws me mi ml mn mp mr v1 v2 vL; omega)) (pre := pre ++ (T.puts (xs.take i)).toList) (post := (T.puts (xs.drop (i + 1))).toList ++ post) (t1 := t1) (t2 := tp) W' (by rw [← eqR]; exact hR)
    rw [← eqR, hprel] at c
    refine wpAny_mono c (fun r s8 h8 => ?_) fun _ _ h => h.elim
    refine h8.elim fun h8 tk8 a8 Pb u1 u2 u3 u4 k8 _ ha8 hPb => ?_
    dsimp only at k8
    refine hQ4 a8 _ _ _ _ 0 m [(h₂.objs.size, listO ws ep2), (h₁.objs.size, listO vs1 ep1)] _ ha8 (F'.keeps k8) (fun p hp => ⟨k8 _ _ (N' p hp).1, (N' p hp).2⟩) fun h9 tk9 F9 N9 k9 => ?_
    have hV9 : VLe V' h9.get? := fun b o e => k9 b o (fun hb => by rw [hb, vL] at e; cases e) (k8 b o (hE.at' b o e))
    have W9 : Wld w G h9.get? := W.keeps F9.keep
    have eqR2 : R = (pre ++ (T.puts (xs.take i)).toList ++ t'.hd) ++ t'.pay ++ ((T.puts (xs.drop (i + 1))).toList ++ post) := by rw [eqR]; simp
    have hprel2 : (pre ++ (T.puts (xs.take i)).toList ++ t'.hd).length = pre.length + (T.puts (xs.take i)).size + t'.hd.length := by simp; (clear eqR eqR2 hD12 hD1n hD2n hLn hN1 hN2 hP hPb hR hRR ha8 hi hle hlen hlen' hlt hn hn' hp hp' hpay hpl hpos hprel hq hsm' ht' htake hws hz me mi ml mn mp mr v1 v2 vL; omega)
    have hht := T.ht_mem ht'
    refine wpAny_execs_cons (unpack3 (h₀ := s.heap) rfl (fun Q5 hQ5 => ?_) rfl rfl rfl rfl (by rfl) (by rfl))
    refine Call_Name rfl (gname W9 ⟨rfl, rfl, rfl⟩ rfl (lk_consume_payload _ _) ?_)
    refine callWith_g (k := 17) W9 (Glo.m17 _) (spliced_cons (ld F9 mr (spliced_cons (ld F9 rfl (spliced_cons (ld F9 rfl (spliced_cons (ld F9 rfl (spliced_cons (ld F9 rfl (spliced_nil ⟨fun _ _ _ e => e, ?_⟩)))))))))))
    have c2 := IH t' (by (clear eqR eqR2 hD12 hD1n hD2n hLn hN1 hN2 hP hPb hR hRR ha8 hi hle hlen hlen' hlt hn' hp hp' hpay hpl hpos hprel hprel2 hq hsm' ht' htake hws hz me mi ml mn mp mr v1 v2 vL; omega)) (by (clear eqR eqR2 hD12 hD1n hD2n hLn hN1 hN2 hP hPb hR hRR ha8 hht hi hle hlen hlen' hlt hn hp hp' hpay hpl hpos hprel hprel2 hq hsm' ht' htake hws hz me mi ml mn mp mr v1 v2 vL; omega)) hp' (T.small_mem hsm'.2 ht') (by (clear eqR eqR2 hD12 hD1n hD2n hLn hN1 hN2 hP hPb hR hRR ha8 hht hi hlt hn hn' hp hp' hpay hpos hq hsm' ht' htake hws me mi ml mn mp mr v1 v2 vL; omega)) { s with heap := h9, toks := tk9 } V' (pre ++ (T.puts (xs.take i)).toList ++ t'.hd) ((T.puts (xs.drop (i + 1))).toList ++ post) Pb t1 u1 u4 u2 u3 hPb hV9 W9 (by rw [← eqR2]; exact hR)
    rw [← eqR2, hprel2] at c2
    refine at_le (n := 2 * n + 1) (wpAny_mono c2 (fun r s10 h10 => ?_) fun _ _ h => h.elim) rfl (by show 880 - 8 * (2 * (n + 1)) ≤ 880 - 8 * (2 * n + 1); (clear eqR eqR2 hD12 hD1n hD2n hLn hN1 hN2 hP hPb hR hRR ha8 hht hi hle hlen hlen' hlt hn hp hp' hpay hpl hpos hprel hprel2 hq hsm' ht' htake hws hz me mi ml mn mp mr v1 v2 vL; omega)) (by show 8800 - 80 * (2 * (n + 1)) ≤ 8800 - 80 * (2 * n + 1); (clear eqR eqR2 hD12 hD1n hD2n hLn hN1 hN2 hP hPb hR hRR ha8 hht hi hle hlen hlen' hlt hn hp hp' hpay hpl hpos hprel hprel2 hq hsm' ht' htake hws hz me mi ml mn mp mr v1 v2 vL; omega))
    refine h10.elim fun h10 tk10 a10 v10 l10 q10 tq10 rest10 ep10 V10 tn10 k10 ha10 X10 hv10 hl10 hfr10 hq10 => ?_
    dsimp only at k10 X10 hfr10
    refine hQ5 a10 v10 (.ref l10) _ 0 _ [(h₂.objs.size, listO ws ep2), (h₁.objs.size, listO vs1 ep1)] _ ha10 (F9.keeps k10) (fun p hp => ⟨k10 _ _ (N9 p hp).1, (N9 p hp).2⟩) fun h11 tk11 F11 N11 k11 => ?_
    have hN2' := N11 _ (.head _)
    have hline : (1000 : Nat) ≤ sizeLine := by decide
    have hxl : xs.length ≤ 1000 := hsm'.1
    refine wpAny_execs_cons (wpAny_Expr ?_ (by rfl) (by rfl))
    refine wpAny_Call_method1_late (by rfl) (by rfl) (by rfl) (ld F11 mp ?_)
    refine ⟨"list", "list.append", PySem.F.plainAttrs_list, PySem.F.slot_list_append, PySem.F.type_list_append, ⟨_, hN2'.1, rfl⟩, ?_, ?_⟩
    · rintro a ea
      cases ea
      exact ⟨_, hN2'.1, rfl⟩
    refine Calls.callWith_builtin rfl (evalArgs_plain (spliced_cons (ld F11 rfl (spliced_nil ?_))))
    refine wpAny_list_append_plain ⟨_, hN2'.1⟩ (fun h12 hl12 hs12 => ?_) (by (clear eqR eqR2 hD12 hD1n hD2n hLn hN1 hN2 hN2' hP hPb hR hRR ha10 ha8 hfr10 hht hi hl10 hle hlen hlen' hn hn' hp hp' hpay hpl hpos hprel hprel2 hq hq10 ht' htake hxl hz me mi ml mn mp mr v1 v2 vL; omega))
    obtain ⟨ep12, hl12⟩ := hl12
    dsimp only at hl12 hs12 ⊢
    have hN1' := N11 _ (.tail _ (.head _))
    have F12 := Fr.change F11 hN2'.2.2 hN2'.2.1 hs12
    have N12 : News s.heap s.heap.objs.size h12 [(h₂.objs.size, listO (ws.push (.ref l10)) ep12), (h₁.objs.size, listO vs1 ep1)] := by
      intro p hp
      rcases List.mem_cons.mp hp with rfl | hp
      · exact ⟨hl12, hN2'.2⟩
      · rw [List.mem_singleton.mp hp]
        exact ⟨hs12.extBut _ _ hD12 hN1'.1, hN1'.2⟩
    have hLs : ∃ o, h9.get? s.heap.objs.size = some o := by obtain ⟨o, _, _, ho, _⟩ := F9.ns; exact ⟨o, ho⟩
    have nl10 : l10 ≠ s.heap.objs.size := by rintro rfl; obtain ⟨o, ho⟩ := hLs; rw [hfr10] at ho; cases ho
    have nl10' : l10 ≠ h₂.objs.size := by rintro rfl; have := (N9 _ (.head _)).1; rw [hfr10] at this; cases this
    have gl12 : h12.get? l10 = some (listO (#[Value.bytes q10 tq10] ++ rest10) ep10) := hs12.extBut _ _ nl10' (k11 _ _ nl10 hl10)
    have hoffL : V10 s.heap.objs.size = none := by obtain ⟨o, ho⟩ := hLs; exact X10.off ho vL
    have hoff1 : V10 h₁.objs.size = none := X10.off (N9 _ (.tail _ (.head _))).1 v1
    have hoff2 : V10 h₂.objs.size = none := X10.off (N9 _ (.head _)).1 v2
    refine wpAny_execs_cons (wpAny_AugAssign_Name (ldn F12 ml (Subscript_ (ld F12 rfl (wpAny_Constant_int ?_)))))
    refine item_listR (x := .bytes q10 tq10) (items := #[Value.bytes q10 tq10] ++ rest10) ⟨_, gl12, rfl, ep10, rfl⟩ (by decide) (by decide) (by show (#[Value.bytes q10 tq10] ++ rest10)[0]? = _; rw [Array.getElem?_append_left (by simp)]; rfl) ?_
    have hqt := T.qb_le hp'
    refine iadd_bytes (by (clear eqR eqR2 gl12 hD12 hD1n hD2n hLn hLs hN1 hN1' hN2 hN2' hR hRR ha10 ha8 hfr10 hht hi hl10 hl12 hline hlt hn hn' hoff1 hoff2 hoffL hp hp' hpay hpos hsm' ht' htake hws hxl me mi ml mn mp mr nl10 nl10' v1 v2 vL; omega)) (fun t13 tk13 => ?_)
    refine stK F12 N12 (fun h13 F13 N13 k13 => ?_) (by rfl) (by rfl)
    dsimp only at k13 ⊢
    have hN1'' := N13 _ (.tail _ (.head _))
    have hvs1 : vs1.size = i := by rw [← Array.length_toList, hA.length, List.length_take]; (clear eqR eqR2 gl12 hD12 hD1n hD2n hLn hLs hN1 hN1' hN1'' hN2 hN2' hP hPb hR hRR ha10 ha8 hfr10 hht hi hl10 hl12 hle hlen hlen' hline hn hn' hoff1 hoff2 hoffL hp hp' hpay hpl hpos hprel hprel2 hq hq10 hqt hsm' ht' htake hxl hz me mi ml mn mp mr nl10 nl10' v1 v2 vL; omega)
    refine wpAny_execs_cons (wpAny_Expr ?_ (by rfl) (by rfl))
    refine wpAny_Call_method1_late (by rfl) (by rfl) (by rfl) (ld F13 mi ?_)
    refine ⟨"list", "list.append", PySem.F.plainAttrs_list, PySem.F.slot_list_append, PySem.F.type_list_append, ⟨_, hN1''.1, rfl⟩, ?_, ?_⟩
    · rintro a ea
      cases ea
      exact ⟨_, hN1''.1, rfl⟩
    refine Calls.callWith_builtin rfl (evalArgs_plain (spliced_cons (ld F13 rfl (spliced_nil ?_))))
    refine wpAny_list_append_plain ⟨_, hN1''.1⟩ (fun h14 hl14 hs14 => ?_) (by (clear eqR eqR2 gl12 hD12 hD1n hD2n hLn hLs hN1 hN1' hN1'' hN2 hN2' hP hPb hR hRR ha10 ha8 hfr10 hht hi hl10 hl12 hle hlen hlen' hn hn' hoff1 hoff2 hoffL hp hp' hpay hpl hpos hprel hprel2 hq hq10 hqt ht' htake hxl hz me mi ml mn mp mr nl10 nl10' v1 v2 vL; omega))
    obtain ⟨ep14, hl14⟩ := hl14
    dsimp only at hl14 hs14 ⊢
    have F14 := Fr.change F13 hN1''.2.2 hN1''.2.1 hs14
    have hN2'' := N13 _ (.head _)
    have N14 : News s.heap s.heap.objs.size h14 [(h₂.objs.size, listO (ws.push (.ref l10)) ep12), (h₁.objs.size, listO (vs1.push v10) ep14)] := by
      intro p hp
      rcases List.mem_cons.mp hp with rfl | hp
      · exact ⟨hs14.extBut _ _ hD12.symm hN2''.1, hN2''.2⟩
      · rw [List.mem_singleton.mp hp]
        exact ⟨hl14, hN1''.2⟩
    refine wpAny_execs_nil ?_
    refine ⟨xs.length - (i + 1), by (clear eqR eqR2 gl12 hD12 hD1n hD2n hLn hLs hN1 hN1' hN1'' hN2 hN2' hN2'' hP hPb hR hRR ha10 ha8 hfr10 hht hi hl10 hl12 hl14 hle hlen hlen' hline hn hn' hoff1 hoff2 hoffL hp hp' hpay hpl hpos hprel hprel2 hq hq10 hqt hsm' ht' htake hxl hz me mi ml mn mp mr nl10 nl10' v1 v2 vL; omega), PayI.mk (i := i + 1) (q := q ++ q10) (tp := tn10) F14 rfl (by (clear eqR eqR2 gl12 hD12 hD1n hD2n hLn hLs hN1 hN1' hN1'' hN2 hN2' hN2'' hP hPb hR hRR ha10 ha8 hfr10 hht hi hl10 hl12 hl14 hle hlen hlen' hline hn hn' hoff1 hoff2 hoffL hp hp' hpay hpl hpos hprel hprel2 hq hq10 hqt hsm' ht' htake hxl hz me mi ml mn mp mr nl10 nl10' v1 v2 vL; omega)) mr mi mp rfl ?_ me N14 ?_ ?_ hoff1 hoff2 hoffL (by simp [hws]) ?_⟩
    · show some _ = some _
      congr 2
      rw [htake, Array.size_append, hpl]
      (clear eqR eqR2 gl12 hD12 hD1n hD2n hLn hLs hN1 hN1' hN1'' hN2 hN2' hN2'' hP hPb hR hRR ha10 ha8 hfr10 hht hi hl10 hl12 hl14 hle hlen hlen' hline hlt hn hn' hoff1 hoff2 hoffL hp hp' hpay hpl hpos hprel hprel2 hq hq10 hqt hsm' ht' htake hvs1 hws hxl hz me mi ml mn mp mr nl10 nl10' v1 v2 vL; omega)
    · rw [List.take_add_one, ht', Array.toList_push]
      exact (hA.mono X10.le).snoc hv10
    · refine ⟨hE.le.trans X10.le, fun b o e => ?_, fun b o e => ?_⟩
      · refine hs14.extBut b o (fun hb => by rw [hb, hoff1] at e; cases e) ?_
        refine k13 b o (fun hb => by rw [hb, hoffL] at e; cases e) ?_
        refine hs12.extBut b o (fun hb => by rw [hb, hoff2] at e; cases e) ?_
        exact k11 b o (fun hb => by rw [hb, hoffL] at e; cases e) (X10.at' b o e)
      · rcases X10.new b o e with e' | e'
        · exact hE.new b o e'
        · refine .inr ?_
          cases z : s.heap.get? b with
          | none => rfl
          | some o' => have := F9.keep b o' z; rw [e'] at this; cases this
    · rw [htake, Array.size_append, Array.size_append]
      (clear eqR eqR2 gl12 hD12 hD1n hD2n hLn hLs hN1 hN1' hN1'' hN2 hN2' hN2'' hP hR hRR ha10 ha8 hfr10 hht hi hl10 hl12 hl14 hle hlen hlen' hline hlt hn hn' hoff1 hoff2 hoffL hp hp' hpay hpos hsm' ht' htake hvs1 hws hxl hz me mi ml mn mp mr nl10 nl10' v1 v2 vL; omega)
  · obtain rfl : i = xs.length := by (clear hD12 hD1n hD2n hLn hN1 hN2 hP hR hRR hlen hlen' hn hn' hp hpay hq hsm' hz me mi ml mn mp mr v1 v2 vL; omega)
    have htk : xs.take xs.length = xs := List.take_length
    rw [htk] at hA hq mn
    rw [htk]
    rw [decide_eq_false (by (clear hD12 hD1n hD2n hLn hN1 hN2 hP hR hRR hi hlen hlt hn hn' hp hpay hq hsm' htk hws hz me mi ml mn mp mr v1 v2 vL; omega)), if_neg (by simp)]
    refine wpAny_execs_nil ?_
    dsimp only
    have hws' : ws.size ≤ 1000 := by have := hsm'.1; (clear hD12 hD1n hD2n hLn hN1 hN2 hP hR hRR hi hlen hlen' hlt hn hn' hp hpay hq htk hz me mi ml mn mp mr this v1 v2 vL; omega)
    refine wpAny_execs_cons (wpAny_Expr ?_ (by rfl) (by rfl))
    refine wpAny_Call_method2_late (by rfl) (by rfl) (by rfl) (ld F' mp ?_)
    refine ⟨"list", "list.insert", PySem.F.plainAttrs_list, PySem.F.slot_list_insert, PySem.F.type_list_insert, ⟨_, hN2.1, rfl⟩, ?_, ?_⟩
    · rintro a ea
      cases ea
      exact ⟨_, hN2.1, rfl⟩
    refine Calls.callWith_builtin rfl (evalArgs_plain (spliced_cons (wpAny_Constant_int (spliced_cons (ld F' ml (spliced_nil ?_))))))
    refine insert_zero hN2.1 hws' (fun h8 ep8 e8 hs8 => ?_)
    dsimp only at hs8 e8 ⊢
    have F8 := Fr.change F' hN2.2.2 hN2.2.1 hs8
    refine wpAny_execs_cons (wpAny_If (wpAny_isTrue_Compare1 (ld F8 mn (ld F8 me (gt_int ?_))) (by rfl)))
    rw [decide_eq_false (by (clear e8 hD12 hD1n hD2n hLn hN1 hN2 hP hR hRR hi hlen hlt hn hn' hp hpay hq hsm' htk hws hws' hz me mi ml mn mp mr v1 v2 vL; omega))]
    refine wpAny_truthy_bool ?_
    refine wpAny_execs_nil ?_
    dsimp only
    refine wpAny_execs_cons (wpAny_Return_some (wpAny_Tuple (spliced_cons (ld F8 mi (spliced_cons (ld F8 mp (spliced_cons (ld F8 mn (spliced_nil ⟨by size_fits, ?_⟩)))))))))
    dsimp only
    have up : ∀ b o, b ≠ h₂.objs.size → h'.get? b = some o → (h8.push (tupO [Value.ref h₁.objs.size, Value.ref h₂.objs.size, Value.int ((pre.length + (T.puts xs).size : Nat) : Int) tp].toArray 0)).get? b = some o := fun b o hb e => Heap.get?_push_of_some _ (hs8.extBut b o hb e)
    refine hQ0 _ _ ⟨⟨_, _, rfl, fun b o e => Heap.get?_push_of_some _ (F8.keep b o e)⟩, h8.objs.size, .ref h₁.objs.size, h₂.objs.size, q, tq, ws, ep8, fun b => if b = h₁.objs.size then some (listO vs1 ep1) else V' b, tp, rfl, ?_, ⟨?_, ?_, ?_⟩, ?_, Heap.get?_push_of_some _ e8, hN2.2.2, ?_⟩
    · rw [hlen']
      exact Heap.get?_push_size _ rfl
    · intro b o e
      dsimp only
      rw [if_neg (fun hb => by rw [hb, voff _ hN1.2.2] at e; cases e)]
      exact hE.le b o e
    · intro b o e
      revert e
      dsimp only
      intro e
      split at e
      · rename_i hb; cases e; rw [hb]; exact up _ _ hD12 hN1.1
      · exact up b o (fun hb => by rw [hb, v2] at e; cases e) (hE.at' b o e)
    · intro b o e
      split at e
      · rename_i hb; rw [hb]; exact .inr hN1.2.2
      · exact hE.new b o e
    · unfold Has
      refine ⟨h₁.objs.size, vs1, ep1, rfl, if_pos rfl, ?_, HasAll.mono (fun b o e => ?_) _ _ hA⟩
      · rw [← Array.length_toList, hA.length]; exact hsm'.1
      · skip
        rw [if_neg (fun hb => by rw [hb, v1] at e; cases e)]
        exact e
    · unfold T.qb
      dsimp only
      rw [hlen, hlen']
      exact hq
theorem pay_ok (w : World) (G : Glo) : ∀ (n : Nat) (t : T), PayC w G n t := by
  intro n
  induction n with
  | zero =>
    intro t
    cases t with
    | lst xs => intro hn; unfold T.ht at hn; omega
    | byt b => exact pay_b
    | _ => intro _ _ hp; cases hp
  | succ n IH =>
    intro t
    cases t with
    | lst xs => exact pay_lst IH
    | byt b => exact pay_b
    | _ => intro _ _ hp; cases hp
end Mine
end Pay3_part
section BaEq_part
open PySem PySem.W PySem.W.X PySem.Calls PyProof.Rows
set_option Elab.async false
set_option maxRecDepth 100000
set_option maxHeartbeats 20000000
namespace Mine
noncomputable abbrev AmaxV (hd : Option Value) : Around := { handled := hd, depth := 900, frames := none, guards := none, units := 9000 }
theorem ord_self (x : List UInt8) : Builtin.Bytes.order x x = .eq := eq_of_beq ((PySem.W.order_eq x x).trans (beq_self_eq_true x))
local macro_rules | `(tactic| x_close) => `(tactic| first | exact ⟨rfl, rfl⟩ | (exfalso; rename_i hq; exact hq (congrArg Ordering.ctorIdx (ord_self _))))
section
variable {prog : Program} {w : World} {h : Heap} {g : Array GenState} {d : Drawn} {tk : Nat} {os : OsState} {hd : Option Value}
theorem ba_eq {a b : Addr} {x : Array UInt8} (ha : h.get? a = some ⟨.type "bytearray", none, .bytearray x, #[]⟩) (hb : h.get? b = some ⟨.type "bytearray", none, .bytearray x, #[]⟩) :
    wpAny (model prog w) (AmaxV hd) (call (.builtin "bytearray.__eq__") [.ref a, .ref b]) (fun r s' => r = .bool true ∧ s' = ⟨h, g, d, tk, os⟩) (fun _ _ => False) ⟨h, g, d, tk, os⟩ := by
  x_run
end
end Mine
end BaEq_part
local macro_rules | `(tactic| x_close) => `(tactic| first | exact ⟨Mine.keeps_mem (by assumption), rfl⟩ | exact ⟨⟨_, _, rfl, fun _ _ e => e⟩, rfl⟩ | exact ⟨Mine.keeps_mem (by assumption), _, rfl, PySem.W.X.Mem.at (by assumption) 0 _ _ rfl⟩ | exact ⟨rfl, rfl⟩ | (exfalso; rename_i hq; exact hq (congrArg Ordering.ctorIdx (Mine.ord_self _))))
section DeepEq_part
open PySem PySem.W PySem.Calls PyProof.Rows PySem.SeqAt
set_option Elab.async false
set_option maxRecDepth 100000
set_option maxHeartbeats 2000000
namespace Mine
theorem slot_ba_eq : Slot "bytearray" (cmpInfo .Eq).2.1 "bytearray.__eq__" :=
  .of (owner := "bytearray") (n := "__eq__") (by rw [typeLookup_type, builtinLookup_eq_fast]; kernel_rfl) (by decide +kernel) (by decide +kernel) (by decide +kernel)
    (by first | exact .inl (by decide +kernel) | exact .inr (by decide +kernel)) (by rw [isSubtype_type]; kernel_rfl)
theorem av_le {α : Type} {M : Model} {A : Around} {t : Sem α} {Q : α → Shared → Prop} {E : Value → Shared → Prop} {s : Shared} (h : wpAny M (AmaxV A.handled) t Q E s) (hd : A.depth ≤ 900) (hu : A.units ≤ 9000) : wpAny M A t Q E s := fun Γ p hΓ =>
  h Γ p ⟨hΓ.1, Nat.le_trans hΓ.2.1 hd, (fun _ e => by cases e), (fun _ e => by cases e), Nat.le_trans hΓ.2.2.2.2 hu⟩
theorem eq_bytes_same {A : Around} {s : Shared} {b : Array UInt8} {t u : Tok} : EqAt A s (.bytes b t) (.bytes b u) true := fun prog w E Q h => by
  unfold eqBool
  refine wpAny_holding ?_
  refine wpAny_ite_split (fun _ => ?_) (fun _ => ?_)
  · exact wpAny_bind (wpAny_rule (wpAny_pure h))
  · refine wpAny_bind ?_
    have e : (b.toList == b.toList) = true := beq_self_eq_true _
    refine richCompare_gives (typeIs_bytes s b t) (typeIs_bytes s b u) FB.slot_bytes_eq FB.entry_bytes_eq (FB.args_bytes_eq_2 _ _) (gives_bytes_eq b b t u) (fun e => nomatch e) ?_
    rw [e]
    exact wpAny_truthy_bool h
theorem eq_ba_same {A : Around} {s : Shared} {b : Array UInt8} {x y : Addr} (hd : A.depth ≤ 900) (hu : A.units ≤ 9000) (hx : s.heap.get? x = some (baO b)) (hy : s.heap.get? y = some (baO b)) : EqAt A s (.ref x) (.ref y) true := by
  by_cases e : x = y
  · subst e; exact EqAt.same _
  · refine EqAt.of_refs e fun prog w E Q h => ?_
    refine wpAny_richCompare_same_room (op := .Eq) ⟨_, hx, rfl⟩ ⟨_, hy, rfl⟩ slot_ba_eq ?_ (Nat.lt_of_le_of_lt hu (by decide))
    refine wpAny_mono (av_le (ba_eq hx hy) hd hu) (fun v s' q => ?_) fun _ _ q => q.elim
    obtain ⟨rfl, rfl⟩ := q
    exact ⟨(fun e => nomatch e), h⟩
theorem range_all (n : Nat) : (List.range n).all (fun _ => true) = true := by simp
/-- two like objects are equal -/
theorem deep {s : Shared} : ∀ (n : Nat) (t : T), t.ht ≤ n → ∀ (A : Around) (v v' : Value), A.depth ≤ 900 → A.units + n ≤ 9000 → Has s.heap.get? t v → Has s.heap.get? t v' → EqAt A s v v' true := by
  intro n
  induction n with
  | zero =>
    intro t hn A v v' hd hu H H'
    cases t with
    | byt b => unfold Has at H H'; obtain ⟨_, t1, rfl⟩ := H; obtain ⟨_, t2, rfl⟩ := H'; exact eq_bytes_same
    | ba b => unfold Has at H H'; obtain ⟨_, x, rfl, e1⟩ := H; obtain ⟨_, y, rfl, e2⟩ := H'; exact eq_ba_same hd (by (clear e1 e2 hd hn; omega)) e1 e2
    | lst xs => unfold T.ht at hn; (clear hd hu; omega)
    | tup xs => unfold T.ht at hn; (clear hd hu; omega)
    | non => unfold Has at H H'; subst H H'; exact EqAt.same _
    | boo b => unfold Has at H H'; subst H H'; exact EqAt.same _
    | num i => unfold Has at H H'; obtain ⟨t1, rfl⟩ := H; obtain ⟨t2, rfl⟩ := H'; have := EqAt.int_int (A := A) (s := s) i t1 i t2; rwa [beq_self_eq_true] at this
  | succ n ih =>
    intro t hn A v v' hd hu H H'
    have hline : (9000 : Nat) < cLine := by decide
    have kids : ∀ (xs : List T) (vs vs' : Array Value), T.hts xs ≤ n → HasAll s.heap.get? xs vs.toList → HasAll s.heap.get? xs vs'.toList → ∀ j (h1 : j < vs.size) (h2 : j < vs'.size), EqAt A.in1 s vs[j] vs'[j] true := by
      intro xs vs vs' hx h h' j h1 h2
      obtain ⟨t1, e1, r1⟩ := h.get j vs[j] (by simp)
      obtain ⟨t2, e2, r2⟩ := h'.get j vs'[j] (by simp)
      rw [e1] at e2
      cases e2
      exact ih t1 (by have := T.ht_mem e1; (clear e1 hd hline hn hu; omega)) A.in1 _ _ hd (by simp; (clear e1 hd hline hn hx; omega)) r1 r2
    cases t with
    | byt b => unfold Has at H H'; obtain ⟨_, t1, rfl⟩ := H; obtain ⟨_, t2, rfl⟩ := H'; exact eq_bytes_same
    | ba b => unfold Has at H H'; obtain ⟨_, x, rfl, e1⟩ := H; obtain ⟨_, y, rfl, e2⟩ := H'; exact eq_ba_same hd (by (clear e1 e2 hd hline hn; omega)) e1 e2
    | lst xs =>
      unfold Has at H H'
      unfold T.ht at hn
      obtain ⟨a, vs, ep, rfl, e1, _, h1⟩ := H
      obtain ⟨a', vs', ep', rfl, e2, _, h2⟩ := H'
      by_cases e : a = a'
      · subst e; exact EqAt.same _
      · have hsz : vs.size = vs'.size := by rw [← Array.length_toList, ← Array.length_toList, h1.length, h2.length]
        have := RcAt.lists (A := A) (e := fun _ => true) ⟨_, e1, rfl, ep, rfl⟩ ⟨_, e2, rfl, ep', rfl⟩ hsz (by (clear e e1 e2 hd hsz; omega)) (kids xs vs vs' (by (clear e e1 e2 hd hline hsz hu; omega)) h1 h2)
        rw [range_all] at this
        exact EqAt.of_refs e this
    | tup xs =>
      unfold Has at H H'
      unfold T.ht at hn
      obtain ⟨a, vs, ep, rfl, e1, _, h1⟩ := H
      obtain ⟨a', vs', ep', rfl, e2, _, h2⟩ := H'
      by_cases e : a = a'
      · subst e; exact EqAt.same _
      · have hsz : vs.size = vs'.size := by rw [← Array.length_toList, ← Array.length_toList, h1.length, h2.length]
        have := RcAt.tuples (A := A) (e := fun _ => true) ⟨_, e1, rfl, ep, rfl⟩ ⟨_, e2, rfl, ep', rfl⟩ (by (clear e e1 e2 hd hsz; omega)) (kids xs vs vs' (by (clear e e1 e2 hd hline hsz hu; omega)) h1 h2)
        rw [range_all, hsz] at this
        simp at this
        exact EqAt.of_refs e this
    | non => unfold Has at H H'; subst H H'; exact EqAt.same _
    | boo b => unfold Has at H H'; subst H H'; exact EqAt.same _
    | num i => unfold Has at H H'; obtain ⟨t1, rfl⟩ := H; obtain ⟨t2, rfl⟩ := H'; have := EqAt.int_int (A := A) (s := s) i t1 i t2; rwa [beq_self_eq_true] at this
end Mine
end DeepEq_part
section BaNe_part
open PySem PySem.W PySem.W.X PySem.Calls PyProof.Rows
set_option Elab.async false
set_option maxRecDepth 100000
set_option maxHeartbeats 20000000
namespace Mine
section
variable {prog : Program} {w : World} {h : Heap} {g : Array GenState} {d : Drawn} {tk : Nat} {os : OsState} {hd : Option Value}
theorem ba_ne {a b : Addr} {x : Array UInt8} (ha : h.get? a = some ⟨.type "bytearray", none, .bytearray x, #[]⟩) (hb : h.get? b = some ⟨.type "bytearray", none, .bytearray x, #[]⟩) :
    wpAny (model prog w) (AmaxV hd) (call (.builtin "bytearray.__ne__") [.ref a, .ref b]) (fun r s' => r = .bool false ∧ s' = ⟨h, g, d, tk, os⟩) (fun _ _ => False) ⟨h, g, d, tk, os⟩ := by
  x_run
end
end Mine
end BaNe_part
section DeepNe_part
open PySem PySem.W PySem.Calls PyProof.Rows PySem.SeqAt
set_option Elab.async false
set_option maxRecDepth 100000
set_option maxHeartbeats 2000000
namespace Mine
theorem slot_ba_ne : Slot "bytearray" (cmpInfo .NotEq).2.1 "bytearray.__ne__" :=
  .of (owner := "bytearray") (n := "__ne__") (by rw [typeLookup_type, builtinLookup_eq_fast]; kernel_rfl) (by decide +kernel) (by decide +kernel) (by decide +kernel)
    (by first | exact .inl (by decide +kernel) | exact .inr (by decide +kernel)) (by rw [isSubtype_type]; kernel_rfl)
theorem kids_eq {s : Shared} {n : Nat} {A : Around} (hd : A.depth ≤ 900) (hu : A.units + 1 + n ≤ 9000) : ∀ (xs : List T) (vs vs' : Array Value), T.hts xs ≤ n → HasAll s.heap.get? xs vs.toList → HasAll s.heap.get? xs vs'.toList → ∀ j (h1 : j < vs.size) (h2 : j < vs'.size), EqAt A.in1 s vs[j] vs'[j] true := by
  intro xs vs vs' hx h h' j h1 h2
  obtain ⟨t1, e1, r1⟩ := h.get j vs[j] (by simp)
  obtain ⟨t2, e2, r2⟩ := h'.get j vs'[j] (by simp)
  rw [e1] at e2
  cases e2
  exact deep n t1 (by have := T.ht_mem e1; (clear e1 hd hu; omega)) A.in1 _ _ hd (by simp; (clear e1 hd hx; omega)) r1 r2
section
variable {prog : Program} {w : World} {A : Around} {E : Value → Shared → Prop} {s : Shared} {Q : Value → Shared → Prop}
theorem eq_like {t : T} {n : Nat} (hn : t.ht ≤ n) {v v' : Value} (hd : A.depth ≤ 900) (hu : A.units + 1 + n ≤ 9000) (H : Has s.heap.get? t v) (H' : Has s.heap.get? t v') (h : Q (.bool true) s) :
    wpAny (model prog w) A (compareOp .Eq v v') Q E s := by
  have hline : (9000 : Nat) < cLine := by decide
  cases t with
  | byt b =>
    unfold Has at H H'; obtain ⟨_, t1, rfl⟩ := H; obtain ⟨_, t2, rfl⟩ := H'
    refine eq_bytes ?_
    rw [beq_self_eq_true]; exact h
  | ba b =>
    unfold Has at H H'; obtain ⟨_, x, rfl, e1⟩ := H; obtain ⟨_, y, rfl, e2⟩ := H'
    refine wpAny_richCompare_same_room (op := .Eq) ⟨_, e1, rfl⟩ ⟨_, e2, rfl⟩ slot_ba_eq ?_ (by (clear e1 e2 hd; omega))
    refine wpAny_mono (av_le (ba_eq e1 e2) hd (by (clear e1 e2 hd hline hn; omega))) (fun v s' q => ?_) fun _ _ q => q.elim
    obtain ⟨rfl, rfl⟩ := q
    exact ⟨(fun e => nomatch e), h⟩
  | lst xs =>
    unfold Has at H H'; unfold T.ht at hn
    obtain ⟨a, vs, ep, rfl, e1, _, h1⟩ := H
    obtain ⟨a', vs', ep', rfl, e2, _, h2⟩ := H'
    have hsz : vs.size = vs'.size := by rw [← Array.length_toList, ← Array.length_toList, h1.length, h2.length]
    refine RcAt.lists (A := A) (e := fun _ => true) ⟨_, e1, rfl, ep, rfl⟩ ⟨_, e2, rfl, ep', rfl⟩ hsz (by (clear e1 e2 hd hsz; omega)) (kids_eq hd hu xs vs vs' (by (clear e1 e2 hd hline hsz hu; omega)) h1 h2) _ _ _ _ ?_
    rw [range_all]; exact h
  | tup xs =>
    unfold Has at H H'; unfold T.ht at hn
    obtain ⟨a, vs, ep, rfl, e1, _, h1⟩ := H
    obtain ⟨a', vs', ep', rfl, e2, _, h2⟩ := H'
    have hsz : vs.size = vs'.size := by rw [← Array.length_toList, ← Array.length_toList, h1.length, h2.length]
    refine RcAt.tuples (A := A) (e := fun _ => true) ⟨_, e1, rfl, ep, rfl⟩ ⟨_, e2, rfl, ep', rfl⟩ (by (clear e1 e2 hd hsz; omega)) (kids_eq hd hu xs vs vs' (by (clear e1 e2 hd hline hsz hu; omega)) h1 h2) _ _ _ _ ?_
    rw [range_all, hsz]; simpa using h
  | non => unfold Has at H H'; subst H H'; exact RcAt.none_none _ _ _ _ h
  | boo b => unfold Has at H H'; subst H H'; refine RcAt.bool_bool b b _ _ _ _ ?_; rw [beq_self_eq_true]; exact h
  | num i => unfold Has at H H'; obtain ⟨t1, rfl⟩ := H; obtain ⟨t2, rfl⟩ := H'; refine RcAt.int_int i t1 i t2 _ _ _ _ ?_; rw [beq_self_eq_true]; exact h
theorem ne_like {t : T} {n : Nat} (hn : t.ht ≤ n) {v v' : Value} (hd : A.depth ≤ 900) (hu : A.units + 1 + n ≤ 9000) (H : Has s.heap.get? t v) (H' : Has s.heap.get? t v') (h : Q (.bool false) s) :
    wpAny (model prog w) A (compareOp .NotEq v v') Q E s := by
  have hline : (9000 : Nat) < cLine := by decide
  cases t with
  | byt b =>
    unfold Has at H H'; obtain ⟨_, t1, rfl⟩ := H; obtain ⟨_, t2, rfl⟩ := H'
    refine ne_bytes ?_
    rw [bne_self_eq_false]; exact h
  | ba b =>
    unfold Has at H H'; obtain ⟨_, x, rfl, e1⟩ := H; obtain ⟨_, y, rfl, e2⟩ := H'
    refine wpAny_richCompare_same_room (op := .NotEq) ⟨_, e1, rfl⟩ ⟨_, e2, rfl⟩ slot_ba_ne ?_ (by (clear e1 e2 hd; omega))
    refine wpAny_mono (av_le (ba_ne e1 e2) hd (by (clear e1 e2 hd hline hn; omega))) (fun v s' q => ?_) fun _ _ q => q.elim
    obtain ⟨rfl, rfl⟩ := q
    exact ⟨(fun e => nomatch e), h⟩
  | lst xs =>
    unfold Has at H H'; unfold T.ht at hn
    obtain ⟨a, vs, ep, rfl, e1, _, h1⟩ := H
    obtain ⟨a', vs', ep', rfl, e2, _, h2⟩ := H'
    have hsz : vs.size = vs'.size := by rw [← Array.length_toList, ← Array.length_toList, h1.length, h2.length]
    refine RcNeAt.lists (A := A) (e := fun _ => true) ⟨_, e1, rfl, ep, rfl⟩ ⟨_, e2, rfl, ep', rfl⟩ hsz (by (clear e1 e2 hd hsz; omega)) (kids_eq hd hu xs vs vs' (by (clear e1 e2 hd hline hsz hu; omega)) h1 h2) _ _ _ _ ?_
    rw [range_all]; exact h
  | tup xs =>
    unfold Has at H H'; unfold T.ht at hn
    obtain ⟨a, vs, ep, rfl, e1, _, h1⟩ := H
    obtain ⟨a', vs', ep', rfl, e2, _, h2⟩ := H'
    have hsz : vs.size = vs'.size := by rw [← Array.length_toList, ← Array.length_toList, h1.length, h2.length]
    refine RcNeAt.tuples (A := A) (e := fun _ => true) ⟨_, e1, rfl, ep, rfl⟩ ⟨_, e2, rfl, ep', rfl⟩ (by (clear e1 e2 hd hsz; omega)) (kids_eq hd hu xs vs vs' (by (clear e1 e2 hd hline hsz hu; omega)) h1 h2) _ _ _ _ ?_
    rw [range_all, hsz]; simpa using h
  | non => unfold Has at H H'; subst H H'; exact RcNeAt.none_none _ _ _ _ h
  | boo b => unfold Has at H H'; subst H H'; refine RcNeAt.bool_bool b b _ _ _ _ ?_; rw [beq_self_eq_true]; exact h
  | num i => unfold Has at H H'; obtain ⟨t1, rfl⟩ := H; obtain ⟨t2, rfl⟩ := H'; refine RcNeAt.int_int i t1 i t2 _ _ _ _ ?_; rw [beq_self_eq_true]; exact h
end
end Mine
end DeepNe_part
section Dec_part
open PySem PySem.W PySem.Calls PyProof.Rows
set_option Elab.async false
set_option maxRecDepth 100000
set_option maxHeartbeats 4000000
namespace Mine
section
variable {prog : Program} {w : World} {A : Around} {E : Value → Shared → Prop} {s : Shared} {name : Str} {scope : Scope} {L f : Addr} {cd : Value} {h₀ : Heap} {m : Str → Option Value} {news : List (Addr × Obj)}
theorem unpack2 {x1 x2 : Str} {p1 p2 tpos pos : Pos} {k : Nat} {value : Expr} {Q : Flow → Shared → Prop} (hh : A.handled = none)
    (h : ∀ Q' : Value → Shared → Prop, (∀ a v1 v2 ep m news s₁, s₁.heap.get? a = some (tupO #[v1, v2] ep) → Fr h₀ L s₁.heap m → News h₀ L s₁.heap news →
      (∀ h' tk, Fr h₀ L h' (set1 (set1 m x1 v1) x2 v2) → News h₀ L h' news → (∀ b o, b ≠ L → s₁.heap.get? b = some o → h'.get? b = some o) → Q .next { s₁ with heap := h', toks := tk }) → Q' (.ref a) s₁) → wpAny (model prog w) A (eval value (envOf name scope L f cd)) Q' E s)
    (hk : scope.kind = .function) (l1 : (envOf name scope L f cd).kindOf x1 = some .local) (l2 : (envOf name scope L f cd).kindOf x2 = some .local)
    (hs : swapsWithSole [.Tuple [.Name x1 p1, .Name x2 p2] k tpos] value pos.line (envOf name scope L f cd) = pure false)
    (hw : swappedStores [.Tuple [.Name x1 p1, .Name x2 p2] k tpos] value (envOf name scope L f cd) = pure none) :
    wpAny (model prog w) A (exec (.Assign [.Tuple [.Name x1 p1, .Name x2 p2] k tpos] value pos) (envOf name scope L f cd)) Q E s := by
  refine Assign_Tuple (h _ fun a v1 v2 ep m news s₁ ha F N hQ => ?_) hs hw
  refine assign_Tuple_tuple hh (items := _) ⟨_, ha, rfl, ep, rfl⟩ rfl rfl fun h2 he => ?_
  have F2 := F.extBut he (Nat.le_refl _)
  have N2 := N.extBut he (Nat.le_refl _)
  have k2 : ∀ b o, s₁.heap.get? b = some o → h2.get? b = some o := fun b o e => he b o (Nat.ne_of_lt (Heap.lt_size e)) e
  refine assignInOrder_cons (assign_Name (stK F2 N2 (fun h3 F3 N3 k3 => ?_) hk l1))
  refine assignInOrder_cons (assign_Name (stK F3 N3 (fun h4 F4 N4 k4 => ?_) hk l2))
  exact assignInOrder_nil (hQ h4 _ F4 N4 fun b o hb e => k4 b o hb (k3 b o hb (k2 b o e)))
end
section
variable {w : World} {E : Value → Shared → Prop} {s : Shared} {G : Glo}
/-- call of a function of the text that has defaults -/
theorem call_fnD {n k : Nat} {a : Addr} {args : List Value} {binds : List (Str × Value)} {Q : Value → Shared → Prop} (hn : n < 100) (W : Wld w G s.heap.get?) (hF : (k, a) ∈ G.fns) (hdef : (fd k).params.defaults.isEmpty = false)
    (hbind : ∀ pm cd doc T vs, ConstVals (fd k).params.defaults vs → s.heap.get? T = some { cls := .type "tuple", data := .seq vs.toArray } → BindsTo s { docDef (fd k).name (fd k).params (fd k).body (fd k).scope pm cd doc with defaults := .ref T } ⟨args, []⟩ binds)
    (hok : ((binds.all fun x => decide ((fd k).scope.names.lookup x.1 = some .local)) && !(fd k).scope.isCoroutine && !(fd k).scope.isGenerator && ((fd k).scope.kind == .function) && (fd k).scope.names.all fun x => x.2 != .cell) = true)
    (h : ∀ h₁ cd, Fr s.heap s.heap.objs.size h₁ (fun x => binds.reverse.lookup x) →
      wpAny (model pw w) (AT n) (execs (fd k).body (envOf (fd k).name (fd k).scope s.heap.objs.size a cd)) (fun f s' => Q (match f with | .ret v => v | _ => .none) s') (fun _ _ => False) { s with heap := h₁, toks := s.toks + binds.length }) :
    wpAny (model pw w) (AT (n + 1)) (call (.ref a) args) Q E s := by
  obtain ⟨pm, c, doc, dV, vs, dict, cvs, sl, qt, h1, h2, h3, h4, h5⟩ := W.fns _ hF
  simp only [Bool.and_eq_true, List.all_eq_true, decide_eq_true_eq, Bool.not_eq_true', beq_iff_eq, bne_iff_ne, ne_eq] at hok
  obtain ⟨⟨⟨⟨k1, k2⟩, k3⟩, k4⟩, k5⟩ := hok
  rcases h3 with ⟨rfl, _⟩ | ⟨_, T, rfl, hT⟩
  · dsimp only at h2
    cases q : (fd k).params.defaults with
    | nil => rw [q] at hdef; cases hdef
    | cons x xs => rw [q] at h2; exact h2.elim
  · refine wpAny_call (call_plainD (name := (fd k).name) (params := (fd k).params) (body := (fd k).body) (scope := (fd k).scope) (dV := .ref T) (pm := pm) (cd := .ref c) (doc := doc) (by show 880 - 8 * (n + 1) < 1000; (clear h1 h4 h5 hT hdef k2 k3; omega)) h1 rfl W.limit ⟨c, _, cvs, qt, rfl, h4, rfl, h5⟩ (hbind _ _ _ _ _ h2 hT) k1 (fun h₁ F => ?_) k2 k3 k4 k5)
    refine wpAny_mono (at_le (n := n) (h h₁ (.ref c) F) rfl (by show 880 - 8 * (n + 1) + 1 ≤ 880 - 8 * n; (clear h1 h4 h5 hT hdef k2 k3; omega)) (by show 8800 - 80 * (n + 1) + 3 ≤ 8800 - 80 * n; (clear h1 h4 h5 hT hdef k2 k3; omega))) (fun f s' q => q) fun _ _ q => q.elim
theorem item_ok {n : Nat} (hn' : n ≤ 40) {t : T} (hht : t.ht ≤ n) (hp : t.isP = true) (hsm : t.small) (hz : t.put.size < 60000) {V : View} {t1 t2 : Tok} (hVs : VLe V s.heap.get?) (W : Wld w G s.heap.get?) :
    wpAny (model pw w) (AT (2 * n + 3)) (call (.ref G.a18) [.bytes t.put t1, .int 0 t2]) (fun r s' => PayR V s s' t t.put.size (3 + t.qb) r) (fun _ _ => False) s := by
  have hput := T.put_list hp
  have hsz : t.put.size = t.hd.length + t.pay.length := by rw [← Array.length_toList, hput]; simp
  have eqR : t.put = (([] : List UInt8) ++ (t.hd ++ t.pay) ++ ([] : List UInt8)).toArray := by rw [List.nil_append, List.append_nil, ← hput]
  refine call_fn (k := 18) (binds := [("rlp", .bytes t.put t1), ("start", .int 0 t2)]) (by (clear eqR hht hp hput hsz hz; omega)) W (Glo.m18 _) (by kernel_rfl) (fun pm cd doc => by kernel_rfl) (by kernel_rfl) fun h₁ cd F => ?_
  refine wpQ fun Q0 q0 => ?_
  have W₁ := W.keeps F.keep
  refine wpAny_execs_cons (unpack4 (h₀ := s.heap) rfl (fun Q4 q4 => ?_) rfl rfl rfl rfl rfl (by rfl) (by rfl))
  refine Call_Name2 (gname W₁ ⟨rfl, rfl, rfl⟩ rfl (lk_consume_length_prefix _ _) ?_) rfl
  refine callWith_g (k := 16) W₁ (Glo.m16 _) (spliced_cons (ld F rfl (spliced_cons (ld F rfl (spliced_nil ⟨fun _ _ _ e => e, ?_⟩)))))
  have c := clp_tree (s := { s with heap := h₁, toks := s.toks + 2 }) (n := 2 * n) (by (clear eqR hht hp hput hsz hz; omega)) hp (by (clear eqR hht hn' hp hput; omega)) (pre := []) (post := []) (t1 := t1) (t2 := t2) W₁ (by simp; (clear eqR hht hn' hp hput; omega))
  rw [← eqR] at c
  refine wpAny_mono c (fun r s8 h8 => ?_) fun _ _ h => h.elim
  refine h8.elim fun h8 tk8 a8 Pb u1 u2 u3 u4 k8 _ ha8 hPb => ?_
  dsimp only at k8
  refine q4 a8 _ _ _ _ 0 _ [] _ ha8 (F.keeps k8) News.nil fun h9 tk9 F9 _ k9 => ?_
  have W9 : Wld w G h9.get? := W.keeps F9.keep
  refine wpAny_execs_cons (wpAny_Return_some ?_)
  refine Call_Name rfl (gname W9 ⟨rfl, rfl, rfl⟩ rfl (lk_consume_payload _ _) ?_)
  refine callWith_g (k := 17) W9 (Glo.m17 _) (spliced_cons (ld F9 rfl (spliced_cons (ld F9 rfl (spliced_cons (ld F9 rfl (spliced_cons (ld F9 rfl (spliced_cons (ld F9 rfl (spliced_nil ⟨fun _ _ _ e => e, ?_⟩)))))))))))
  have eqR2 : t.put = (t.hd ++ t.pay ++ ([] : List UInt8)).toArray := by rw [List.append_nil, ← hput]
  have hV9 : VLe V h9.get? := fun b o e => F9.keep b o (hVs b o e)
  have c2 := pay_ok w G n t hht (by (clear eqR eqR2 hPb ha8 hht hp hput hsz hz; omega)) hp hsm (by (clear eqR eqR2 hPb ha8 hht hn' hp hput; omega)) { s with heap := h9, toks := tk9 } V t.hd [] Pb t1 u1 u4 u2 u3 hPb hV9 W9 (by simp; (clear eqR eqR2 hPb ha8 hht hn' hp hput; omega))
  rw [← eqR2, ← hsz] at c2
  simp only [List.length_nil, Nat.zero_add] at c2 ⊢
  refine at_le (n := 2 * n + 1) (wpAny_mono c2 (fun r s10 h10 => ?_) fun _ _ h => h.elim) rfl (by show 880 - 8 * (2 * n + 2) ≤ 880 - 8 * (2 * n + 1); (clear eqR eqR2 hPb ha8 hht hp hput hsz hz; omega)) (by show 8800 - 80 * (2 * n + 2) ≤ 8800 - 80 * (2 * n + 1); (clear eqR eqR2 hPb ha8 hht hp hput hsz hz; omega))
  refine h10.elim fun h10 tk10 a10 v10 l10 q10 tq10 rest10 ep10 V10 tn10 k10 ha10 X10 hv10 hl10 hfr10 hq10 => ?_
  dsimp only at k10 X10 hfr10
  have dn : ∀ b, h9.get? b = none → s.heap.get? b = none := fun b e => by
    cases z : s.heap.get? b with
    | none => rfl
    | some o' => have := F9.keep b o' z; rw [e] at this; cases this
  exact q0 _ _ ⟨⟨h10, tk10, rfl, fun b o e => k10 b o (F9.keep b o e)⟩, a10, v10, l10, q10, tq10, rest10, ep10, V10, tn10, rfl, ha10, ⟨X10.le, X10.at', fun b o e => (X10.new b o e).imp id (dn b)⟩, hv10, hl10, dn _ hfr10, by (clear eqR eqR2 ha10 ha8 hfr10 hht hl10 hn' hp hput hsz hz; omega)⟩
end
end Mine
end Dec_part
section Leaf5_part
open PySem PySem.W PySem.W.X PySem.Calls PyProof.Rows
set_option Elab.async false
set_option maxRecDepth 100000
set_option maxHeartbeats 4000000
namespace Mine
section
variable {prog : Program} {w : World} {h : Heap} {g : Array GenState} {d : Drawn} {tk : Nat} {os : OsState}
theorem isi_bb_bytes {p : Addr} {b : Array UInt8} {t0 : Tok} (hp : h.get? p = some ⟨.type "tuple", none, .seq #[.type "bytes", .type "bytearray"] 0, #[]⟩) :
    wpAny (model prog w) Amax (call (.builtin "isinstance") [.bytes b t0, .ref p]) (fun r s' => Keeps ⟨h, g, d, tk, os⟩ s' ∧ r = .bool true) (fun _ _ => False) ⟨h, g, d, tk, os⟩ :=
  isi_two (s := ⟨h, g, d, tk, os⟩) (cs := [.type "bytes", .type "bytearray"]) (vs := [true, false]) ⟨Answers.of_true PySem.F.isi_meta_bytes PySem.F.sub_bytes_bytes, ans_by (by decide +kernel) PySem.F.isi_meta_bytearray PySem.F.sub_bytes_bytearray, trivial⟩ (PySem.W.typeIs_bytes _ _ _) hp
end
end Mine
end Leaf5_part
section Dec2_part
open PySem PySem.W PySem.Calls PyProof.Rows
set_option Elab.async false
set_option maxRecDepth 100000
set_option maxHeartbeats 4000000
namespace Mine
noncomputable def DecR (V : View) (s s' : Shared) (t : T) (r : Value) : Prop :=
  Keeps s s' ∧ ∃ a v l V', r = .ref a ∧ s'.heap.get? a = some (tupO #[v, .ref l] 0) ∧ Ext V s.heap V' s'.heap ∧ Has V' t v
section
variable {w : World} {E : Value → Shared → Prop} {s : Shared} {G : Glo}
theorem isb_any {n : Nat} (hn : n < 90) {b : Array UInt8} {t0 : Tok} (W : Wld w G s.heap.get?) : wpAny (model pw w) (AT (n + 1)) (call (.ref G.a7) [.bytes b t0]) (fun r s' => Keeps s s' ∧ r = .bool true) (fun _ _ => False) s := by
  refine call_fn (k := 7) (binds := [("value", .bytes b t0)]) (by omega) W (Glo.m7 _) (by kernel_rfl) (fun pm cd doc => by kernel_rfl) (by kernel_rfl) fun h₁ cd F => ?_
  have W₁ := W.keeps F.keep
  refine wpAny_execs_cons (wpAny_Return_some ?_)
  refine Call_Name2 (bname W₁ ⟨rfl, rfl, rfl⟩ rfl (glo_isinstance _ _) (blt_isinstance _) ?_) rfl
  refine callWith_builtin rfl (evalArgs_plain (spliced_cons (ld F rfl (spliced_cons (wpAny_Tuple ?_)))))
  refine spliced_cons (bname W₁ ⟨rfl, rfl, rfl⟩ rfl (glo_bytes _ _) (blt_bytes _) (spliced_cons (bname W₁ ⟨rfl, rfl, rfl⟩ rfl (glo_bytearray _ _) (blt_bytearray _) (spliced_nil ⟨by size_fits, spliced_nil ?_⟩))))
  have kp : ∀ o b' o', s.heap.get? b' = some o' → (h₁.push o).get? b' = some o' := fun o b' o' e => Heap.get?_push_of_some _ (F.keep b' o' e)
  refine wpAny_mono (at_max (isi_bb_bytes (Heap.get?_push_size _ rfl))) (fun r s' h => ⟨?_, h.2⟩) fun _ _ h => h
  exact keeps_trans ⟨_, _, rfl, kp _⟩ h.1
theorem decraw_ok {n : Nat} (hn' : n ≤ 40) {t : T} (hht : t.ht ≤ n) (hp : t.isP = true) (hsm : t.small) (hz : t.put.size < 60000) {V : View} {t1 : Tok} {x : Value} (hVs : VLe V s.heap.get?) (W : Wld w G s.heap.get?) :
    wpAny (model pw w) (AT (2 * n + 4)) (call (.ref G.a12) [.bytes t.put t1, .bool true, x]) (fun r s' => DecR V s s' t r) (fun _ _ => False) s := by
  refine call_fn (k := 12) (binds := [("item", .bytes t.put t1), ("strict", .bool true), ("_", x)]) (by (clear hht hp hz; omega)) W (Glo.m12 _) (by kernel_rfl) (fun pm cd doc => by kernel_rfl) (by kernel_rfl) fun h₁ cd F => ?_
  refine wpQ fun Q0 q0 => ?_
  have W₁ := W.keeps F.keep
  refine wpAny_execs_cons (wpAny_Try_except ?_)
  refine wpAny_execs_cons (unpack3 (h₀ := s.heap) rfl (fun Q4 q4 => ?_) rfl rfl rfl rfl (by rfl) (by rfl))
  refine Call_Name2 (gname W₁ ⟨rfl, rfl, rfl⟩ rfl (lk_consume_item _ _) ?_) rfl
  refine callWith_g (k := 18) W₁ (Glo.m18 _) (spliced_cons (ld F rfl (spliced_cons (wpAny_Constant_int (spliced_nil ⟨fun _ _ _ e => e, ?_⟩)))))
  have hV1 : VLe V h₁.get? := fun b o e => F.keep b o (hVs b o e)
  refine wpAny_mono (item_ok hn' hht hp hsm hz hV1 W₁) (fun r s10 h10 => ?_) fun _ _ h => h.elim
  refine h10.elim fun h10 tk10 a10 v10 l10 q10 tq10 rest10 ep10 V10 tn10 k10 ha10 X10 hv10 hl10 hfr10 hq10 => ?_
  dsimp only at k10 X10 hfr10
  refine q4 a10 v10 (.ref l10) _ 0 _ [] _ ha10 (F.keeps k10) News.nil fun h11 tk11 F11 _ k11 => ?_
  have W11 := W.keeps F11.keep
  refine wpAny_execs_nil ?_
  dsimp only
  refine wpAny_execs_nil ?_
  dsimp only
  refine wpAny_execs_cons (wpAny_If (wpAny_isTrue_BoolOp (wpAny_allTrue_And_cons (wpAny_isTrue_Compare1 (ld F11 rfl ?_) (by rfl)))))
  refine Call_Name1 (bname W11 ⟨rfl, rfl, rfl⟩ rfl (glo_len _ _) (blt_len _) ?_) rfl
  refine callWith_builtin rfl (evalArgs_plain (spliced_cons (ld F11 rfl (spliced_nil ?_))))
  refine mono_k (at_max (len_bytes (by (clear ha10 hfr10 hht hl10 hn' hp hq10; omega)))) fun h12 tk12 t12 k12 => ?_
  dsimp only at k12 ⊢
  refine ne_int (wpAny_truthy_bool ?_)
  rw [bne_self_eq_false]
  refine wpAny_execs_nil ?_
  dsimp only
  have F12 := F11.keeps k12
  refine wpAny_execs_cons (wpAny_Return_some (wpAny_Tuple (spliced_cons (ld F12 rfl (spliced_cons (ld F12 rfl (spliced_nil ⟨by size_fits, ?_⟩)))))))
  dsimp only
  have hLh : ∃ o, h₁.get? s.heap.objs.size = some o := by obtain ⟨o, _, _, ho, _⟩ := F.ns; exact ⟨o, ho⟩
  have hLV : V s.heap.objs.size = none := by
    cases q : V s.heap.objs.size with
    | none => rfl
    | some o => exact absurd (Heap.lt_size (hVs _ _ q)) (Nat.lt_irrefl _)
  have hoffL : V10 s.heap.objs.size = none := by obtain ⟨o, ho⟩ := hLh; exact X10.off ho hLV
  refine q0 _ _ ⟨⟨_, _, rfl, fun b o e => Heap.get?_push_of_some _ (F12.keep b o e)⟩, h12.objs.size, v10, l10, V10, rfl, Heap.get?_push_size _ rfl, ⟨X10.le, fun b o e => ?_, fun b o e => ?_⟩, hv10⟩
  · exact Heap.get?_push_of_some _ (k12 b o (k11 b o (fun hb => by rw [hb, hoffL] at e; cases e) (X10.at' b o e)))
  · refine (X10.new b o e).imp id fun e' => ?_
    cases z : s.heap.get? b with
    | none => rfl
    | some o' => have := F.keep b o' z; rw [e'] at this; cases this
theorem decode_ok {n : Nat} (hn' : n ≤ 40) {t : T} (hht : t.ht ≤ n) (hp : t.isP = true) (hsm : t.small) (hz : t.put.size < 60000) {V : View} {t1 : Tok} (hVs : VLe V s.heap.get?) (W : Wld w G s.heap.get?) :
    wpAny (model pw w) (AT (2 * n + 5)) (call (.ref G.a19) [.bytes t.put t1]) (fun r s' => Keeps s s' ∧ ∃ V', Ext V s.heap V' s'.heap ∧ Has V' t r) (fun _ _ => False) s := by
  refine call_fnD (k := 19) (binds := [("rlp", .bytes t.put t1), ("sedes", .none), ("strict", .bool true), ("recursive_cache", .bool false)]) (by (clear hht hp hz; omega)) W (Glo.m19 _) (by kernel_rfl) (fun pm cd doc T vs hc hT => ?_) (by kernel_rfl) fun h₁ cd F => ?_
  · have : vs = [.none, .bool true, .bool false] := by
      revert hc
      match vs with
      | [] => exact fun h => h.elim
      | [_] => exact fun h => h.2.elim
      | [_, _] => exact fun h => h.2.2.elim
      | [_, _, _] => exact fun h => by obtain ⟨h1, h2, h3, _⟩ := h; rw [show _ = _ from h1, show _ = _ from h2, show _ = _ from h3]
      | _ :: _ :: _ :: _ :: _ => exact fun h => h.2.2.2.elim
    subst this
    exact BindsTo.of_defaults rfl hT rfl rfl rfl
  have W₁ := W.keeps F.keep
  refine wpAny_execs_cons (wpAny_If (isTrue_not (isTrue_plain ?_)))
  refine Call_Name1 (gname W₁ ⟨rfl, rfl, rfl⟩ rfl (lk_is_bytes _ _) ?_) rfl
  refine callWith_g (k := 7) W₁ (Glo.m7 _) (spliced_cons (ld F rfl (spliced_nil ⟨fun _ _ _ e => e, ?_⟩)))
  refine at_le (n := 2 * n + 4) (mono_k0 (isb_any (n := 2 * n + 3) (by (clear hht hp hz; omega)) W₁) fun h2 tk2 k2 => ?_) rfl (Nat.le_refl _) (Nat.le_refl _)
  refine wpAny_truthy_bool ?_
  dsimp only at k2 ⊢
  rw [Bool.not_true]
  refine wpAny_execs_nil ?_
  dsimp only
  have F2 := F.keeps k2
  have W2 := W.keeps F2.keep
  refine wpAny_execs_cons (unpack2 (h₀ := s.heap) rfl (fun Q5 q5 => ?_) rfl rfl rfl (by rfl) (by rfl))
  refine Call_Name rfl (gname W2 ⟨rfl, rfl, rfl⟩ rfl (lk_decode_raw _ _) ?_)
  refine callWith_g (k := 12) W2 (Glo.m12 _) (spliced_cons (ld F2 rfl (spliced_cons (ld F2 rfl (spliced_cons (ld F2 rfl (spliced_nil ⟨fun _ _ _ e => e, ?_⟩)))))))
  have hV2 : VLe V h2.get? := fun b o e => F2.keep b o (hVs b o e)
  refine wpAny_mono (decraw_ok hn' hht hp hsm hz hV2 W2) (fun r s10 h10 => ?_) fun _ _ h => h.elim
  obtain ⟨⟨h10, tk10, rfl, k10⟩, a10, v10, l10, V10, rfl, ha10, X10, hv10⟩ := h10
  dsimp only at k10 ha10 X10 ⊢
  refine q5 a10 v10 (.ref l10) 0 _ [] _ ha10 (F2.keeps k10) News.nil fun h11 tk11 F11 _ k11 => ?_
  refine wpAny_execs_cons (wpAny_If (isTrue_plain (ld F11 rfl ?_)))
  refine wpAny_of_eq (a := false) rfl ?_
  refine wpAny_execs_cons (wpAny_Return_some (ld F11 rfl ?_))
  dsimp only
  have hLV : V s.heap.objs.size = none := by
    cases q : V s.heap.objs.size with
    | none => rfl
    | some o => exact absurd (Heap.lt_size (hVs _ _ q)) (Nat.lt_irrefl _)
  have hoffL : V10 s.heap.objs.size = none := by obtain ⟨o, _, _, ho, _⟩ := F2.ns; exact X10.off ho hLV
  refine ⟨⟨_, _, rfl, fun b o e => F11.keep b o e⟩, V10, ⟨X10.le, fun b o e => ?_, fun b o e => ?_⟩, hv10⟩
  · exact k11 b o (fun hb => by rw [hb, hoffL] at e; cases e) (X10.at' b o e)
  · refine (X10.new b o e).imp id fun e' => ?_
    cases z : s.heap.get? b with
    | none => rfl
    | some o' => have := F2.keep b o' z; rw [e'] at this; cases this
end
end Mine
end Dec2_part
section G1_part
open PySem PySem.W PySem.Calls PyProof.Rows
set_option Elab.async false
set_option maxRecDepth 100000
set_option maxHeartbeats 2000000
namespace Mine
section
variable {M : Model} {A : Around} {E : Value → Shared → Prop} {s : Shared}
theorem isSub_46 {P : Params} {base : Value} {Q : Bool → Shared → Prop} (h46 : s.heap.get? 46 = some (o46 P))
    (h : Q ([Value.ref 46, .ref 24, .type "Exception", .type "BaseException", .type "object"].contains base) s) : wpAny M A (isSubtype (.ref 46) base) Q E s := by
  obtain ⟨hp, g, d, t, os⟩ := s
  dsimp only at h46 h
  unfold o46 at h46
  unfold isSubtype
  repeat (any_goals (first | assumption | wp_step))
theorem isInst_46 {P : Params} {e : Addr} {ob : Obj} {base : Value} {Q : Bool → Shared → Prop} (he : s.heap.get? e = some ob) (hc : ob.cls = .ref 46) (h46 : s.heap.get? 46 = some (o46 P))
    (h : Q ([Value.ref 46, .ref 24, .type "Exception", .type "BaseException", .type "object"].contains base) s) : wpAny M A (isInstance (.ref e) base) Q E s := by
  unfold isInstance
  refine wpAny_bind (wpAny_typeOf_ref he ?_)
  rw [hc]
  exact isSub_46 h46 h
end
section
variable {prog : Program} {w : World} {A : Around} {E : Value → Shared → Prop} {s : Shared}
/-- the state of a generator whose turn ended with an exception of ours -/
noncomputable def GenRaised (P : Params) (E : Value → Shared → Prop) (a : Addr) (g : Nat) (r : Result) (s₁ : Shared) : Prop :=
  ∃ e ob n, r = .error (.ref e) ∧ s₁.heap.get? e = some ob ∧ ob.cls = .ref 46 ∧ s₁.heap.get? 46 = some (o46 P) ∧ s₁.heap.IsGen a n ∧ E (.ref e) (s₁.setGen g .finished)
theorem pyNext_genE {P : Params} {a : Addr} {g n : Nat} {gs : GenState} {R : GenEnd} {Y : Protocol} {Q : Option Value → Shared → Prop} (hh : A.handled = none)
    (hl : s.heap.NoLimit) (hroom : A.depth < recursionLimit)
    (hg : s.heap.IsGen a g) (hgs : s.gens[g]? = some gs)
    (hgo : gs.Goes (model prog w) A.in1 R Y n (.send .none) (s.setGen g .running))
    (hY : ∀ v s₁ gs', gs'.bare = true → Y (n - 1) (s.setGen g .running) v s₁ (fun r' s'' => match n with
        | 0 => False
        | m + 1 => gs'.Goes (model prog w) A.in1 R Y m r' s'') → Q (some v) (s₁.setGen g gs'))
    (hR : ∀ r s₁, R n (s.setGen g .running) r s₁ → (r = .ok .next ∧ ∀ h', (∀ b o, s₁.heap.get? b = some o → h'.get? b = some o) → Q none { s₁.setGen g .finished with heap := h' }) ∨ GenRaised P E a g r s₁) :
    wpAny (model prog w) A (pyNext (.ref a)) Q E s := by
  unfold pyNext
  refine wpAny_bind (wpAny_attempt (wpAny_callSpecial?_slot (name := Str.ofString "__next__") hg.typeIs slot_gen_next
    (wpAny_call_entry slot_gen_next hg.typeIs entry_gen_next ?_ (args_gen_next _))))
  show wpAny _ A.in1 (Builtin.Generator.genWake (.ref a) (.send .none)) _ _ s
  unfold Builtin.Generator.genWake
  refine wpAny_bind (wpAny_holding (wpAny_genNumber hg (wpAny_bind (wpAny_genState hgs ?_))))
  cases gs with
  | running => exact hgo.elim
  | finished => exact hgo.elim
  | _ =>
    refine wpAny_bind (wpAny_roomToWake hl hroom ?_)
    show wpAny _ A.in1 (.resume g (.send .none) [] _) _ _ s
    refine wpAny_resumeQ hgs hgo (fun x s₁ hx => ?_) (fun v s₁ gs' hb hv => ?_)
    · rcases hR x s₁ hx with ⟨rfl, hp⟩ | ⟨e, ob, n, rfl, he, hc, h46, hgn, hE⟩
      · show wpAny _ A.in1 (newExc (.type "StopIteration") [] >>= _) _ _ _
        refine wpAny_bind ?_
        simp only [newExc, newTuple]
        refine wpAny_bind (wpAny_newObj_type ?_ (by size_fits))
        refine wpAny_bind (m := firstArgMember _ _) (wpAny_of_eq (a := Value.none) (by first | rfl | (simp only [firstArgMember]; rfl)) ?_)
        refine wpAny_newObj_type ?_ (by size_fits)
        simp only [raiseNew]
        refine wpAny_bind (wpAny_bind (wpAny_handled ?_))
        first | rw [show A.in1.handled = none from hh] | rw [hh]
        refine wpAny_throw ?_
        refine wpAny_bind (wpAny_isInstance (T := "StopIteration") (b := true) ⟨_, Heap.get?_push_size _ rfl, rfl⟩ isSubtype_stop ?_)
        exact wpAny_pure (hp _ fun b o hb => Heap.get?_push_of_some _ (Heap.get?_push_of_some _ hb))
      · obtain ⟨og, nm, qn, hog, hocls, hodat, hosl⟩ := hgn
        show wpAny _ A.in1 (Builtin.Generator.genLeft (.ref a) (.ref e)) _ _ _
        unfold Builtin.Generator.genLeft Builtin.Generator.madeByALambda
        refine wpAny_bind (wpAny_bind (wpAny_load hog ?_))
        rw [hocls, hodat]
        refine wpAny_pure ?_
        refine wpAny_bind (isInst_46 (s := s₁.setGen g .finished) he hc h46 ?_)
        rw [show ([Value.ref 46, .ref 24, .type "Exception", .type "BaseException", .type "object"].contains (Value.type "StopIteration")) = false by decide]
        show wpAny _ A.in1 (Builtin.Generator.genEscaped (.ref e)) _ _ _
        unfold Builtin.Generator.genEscaped
        refine wpAny_bind (isInst_46 (s := s₁.setGen g .finished) he hc h46 ?_)
        rw [show ([Value.ref 46, .ref 24, .type "Exception", .type "BaseException", .type "object"].contains (Value.type "StopIteration")) = false by decide]
        show wpAny _ A.in1 (throw (Value.ref e)) _ _ _
        refine wpAny_throw ?_
        refine wpAny_bind (isInst_46 (s := s₁.setGen g .finished) he hc h46 ?_)
        rw [show ([Value.ref 46, .ref 24, .type "Exception", .type "BaseException", .type "object"].contains (Value.type "StopIteration")) = false by decide]
        exact wpAny_throw hE
    · exact wpAny_pure ⟨v, rfl, wpAny_pure (hY v s₁ gs' hb hv)⟩
end
end Mine
end G1_part
section G2_part
open PySem PySem.W PySem.Calls PyProof.Rows
set_option Elab.async false
set_option maxRecDepth 100000
set_option maxHeartbeats 2000000
namespace Mine
/-- an iterator that may raise: its states, what it gives, how it ends -/
structure WalksE (prog : Program) (w : World) (A : Around) (I : Addr) (N₀ n : Nat) (P : Nat → Value → Prop) (St : Nat → Shared → Prop) (Fin : Shared → Prop) (Err : Value → Shared → Prop) : Prop where
  item : ∀ i (s : Shared) (Q : Option Value → Shared → Prop) (E : Value → Shared → Prop), i < n → St i s →
    (∀ v s', P i v → St (i + 1) s' → (∀ b o, N₀ ≤ b → s.heap.get? b = some o → s'.heap.get? b = some o) → Q (some v) s') → (∀ e s', Err e s' → E e s') → wpAny (model prog w) A (pyNext (.ref I)) Q E s
  done : ∀ (s : Shared) (Q : Option Value → Shared → Prop) (E : Value → Shared → Prop), St n s → (∀ s', Fin s' → (∀ b o, N₀ ≤ b → s.heap.get? b = some o → s'.heap.get? b = some o) → Q none s') →
    wpAny (model prog w) A (pyNext (.ref I)) Q E s
  self : ∀ i (s : Shared) (Q : Value → Shared → Prop) (E : Value → Shared → Prop), St i s → Q (.ref I) s → wpAny (model prog w) A (pyIter (.ref I)) Q E s
  ty : ∀ i s, St i s → s.TypeIs (.ref I) "generator"
  frame : ∀ i (s : Shared) h' tk, St i s → (∀ b o, b < N₀ → s.heap.get? b = some o → h'.get? b = some o) → St i { s with heap := h', toks := tk }
section
variable {prog : Program} {w : World} {A : Around} {R : Result → Shared → Prop} {E : Value → Shared → Prop} {s : Shared}
variable {I : Addr} {N₀ n : Nat} {P : Nat → Value → Prop} {St : Nat → Shared → Prop} {Fin : Shared → Prop} {Err : Value → Shared → Prop}
theorem ext_loopE (W : WalksE prog w A.in1 I N₀ n P St Fin Err) (hn : n ≤ sizeLine) (S : Addr) (hSN : N₀ ≤ S) (res : Value)
    (hE : ∀ e s', Err e s' → R (.error e) s')
    (hR : ∀ s' acc' c', Fin s' → s'.heap.get? S = some (listO acc' c') → ItemsOf P acc' n → R (.ok (.ret res)) s') :
    ∀ (k i : Nat) (s : Shared) (acc : Array Value) (c : Nat), n - i = k → i ≤ n → St i s → s.heap.get? S = some (listO acc c) → ItemsOf P acc i →
    codeAny (model prog w) A (.builtin "list.extend.loop" ⟨[.ref S, .ref I, res], []⟩) R s := by
  intro k
  induction k with
  | zero =>
    intro i s acc c hk hi hst hS hacc
    obtain rfl : i = n := by (clear hS hSN hn; omega)
    refine codeAny_builtin PySem.F.entry_extend_loop ?_
    rw [Around.under_plainId PySem.F.plain_extend_loop _]
    show wpAny _ A.in1 (pyNext (.ref I) >>= _) _ _ s
    refine wpAny_bind (W.done s _ _ hst fun s' hf hk => ?_)
    exact wpAny_pure (hR s' acc c hf (hk S _ hSN hS) hacc)
  | succ k ih =>
    intro i s acc c hk hi hst hS hacc
    have hlt : i < n := by (clear hS hSN hn; omega)
    refine codeAny_builtin PySem.F.entry_extend_loop ?_
    rw [Around.under_plainId PySem.F.plain_extend_loop _]
    show wpAny _ A.in1 (pyNext (.ref I) >>= _) _ _ s
    refine wpAny_bind (W.item i s _ _ hlt hst (fun v s' hP hst' hm => ?_) hE)
    have hS' := hm S _ hSN hS
    show wpAny _ A.in1 (updateSeq S (·.push v) >>= _) _ _ _
    refine wpAny_bind ?_
    refine wpAny_updateSeq hS' rfl (wpAny_pure ⟨plainId_quiet PySem.F.plain_extend_loop _, ih (i + 1) _ (acc.push v) _ (by (clear hS hS' hSN hi hn; omega)) hlt (W.frame _ s' _ s'.toks hst' fun b o hb e => ?_) (Heap.get?_update_self _ hS' rfl) (hacc.push hP)⟩)
      (by rw [hacc.1]; (clear hS hS' hSN hi hk; omega)) (by show (acc.push v).size ≤ sizeLine + 1; rw [Array.size_push, hacc.1]; (clear hS hS' hSN hi hk; omega))
    exact (Heap.get?_update_other _ _ (Nat.ne_of_gt (Nat.lt_of_lt_of_le hb hSN))).trans e
theorem extendE (W : WalksE prog w A.in1 I N₀ n P St Fin Err) (hn : n ≤ sizeLine) (hIN : I < N₀) (S : Addr) (hSN : N₀ ≤ S) (res : Value) (c₀ : Nat) (hst : St 0 s)
    (hS : s.heap.get? S = some { cls := .type "list", data := .seq #[] c₀ })
    (hE : ∀ e s', Err e s' → R (.error e) s')
    (hR : ∀ s' acc' c', Fin s' → s'.heap.get? S = some (listO acc' c') → ItemsOf P acc' n → R (.ok (.ret res)) s') :
    wpAny (model prog w) A.in1 (Builtin.List.listExtendWith (.ref S) (.ref I) res)
      (fun fin s' => match fin with | .done f => R (.ok f) s' | .again c' => c'.quiet = true ∧ codeAny (model prog w) A c' R s') (fun e s' => R (.error e) s') s := by
  have hSI : S ≠ I := Nat.ne_of_gt (Nat.lt_of_lt_of_le hIN hSN)
  unfold Builtin.List.listExtendWith
  refine wpAny_bind (wpAny_typeOf (W.ty 0 _ hst) ?_)
  have h1 : Builtin.List.listSameRef (.ref S) (.ref I) = false := by simp [Builtin.List.listSameRef, hSI]
  have h2 : (Value.type "generator" == Value.type "list") = false := by decide
  have h3 : (Value.type "generator" == Value.type "tuple") = false := by decide
  simp only [h1, h2, h3, Bool.or_false, Bool.false_eq_true, if_false]
  refine wpAny_bind (W.self 0 _ _ _ hst ?_)
  refine wpAny_bind (wpAny_holding ?_)
  unfold Builtin.List.listLengthHint
  refine wpAny_bind (wpAny_specialOf (W.ty 0 _ hst) PySem.F.gen_no_len ?_)
  show wpAny _ A.in1 (specialOf (Value.ref I) (Str.ofString "__length_hint__") >>= _) _ _ _
  refine wpAny_bind (wpAny_specialOf (W.ty 0 _ hst) PySem.F.gen_no_hint ?_)
  refine wpAny_pure ?_
  show wpAny _ A.in1 (rule "list.extend.makes-room" >>= fun _ => Builtin.List.listTouch (.ref S) >>= fun _ =>
    again (.builtin "list.extend.loop" ⟨[.ref S, .ref I, res], []⟩)) _ _ _
  refine wpAny_bind (wpAny_rule ?_)
  refine wpAny_bind ?_
  show wpAny _ A.in1 (updateSeq S (·.push .none) >>= fun _ => updateSeq S (·.pop)) _ _ _
  refine wpAny_bind (wpAny_updateSeq hS rfl ?_)
  have hS₂ := Heap.get?_update_self (Obj.mapSeq (·.push Value.none)) hS rfl
  refine wpAny_updateSeq (hz := by seq_fits) hS₂ rfl ?_
  have hS₃ := Heap.get?_update_self (Obj.mapSeq (·.pop)) hS₂ rfl
  have oth : ∀ b o, b ≠ S → s.heap.get? b = some o → ((s.heap.update S (Obj.mapSeq (·.push Value.none))).update S (Obj.mapSeq (·.pop))).get? b = some o :=
    fun b o hb e => (Heap.get?_update_other _ _ (Ne.symm hb)).trans ((Heap.get?_update_other _ _ (Ne.symm hb)).trans e)
  refine wpAny_pure ⟨plainId_quiet PySem.F.plain_extend_loop _, ext_loopE W hn _ hSN _ hE hR n 0 _ _ _ rfl (Nat.zero_le _)
    (W.frame 0 s _ s.toks hst fun b o hb e => oth b o (Nat.ne_of_lt (Nat.lt_of_lt_of_le hb hSN)) e) hS₃ (ItemsOf.nil P)⟩
theorem call_listE {Q : Value → Shared → Prop} (W : WalksE prog w A.in1.in1 I N₀ n P St Fin Err) (hn : n ≤ sizeLine) (hIN : I < N₀) (hst : St 0 s) (hN : N₀ ≤ s.heap.objs.size)
    (hE : ∀ e s', Err e s' → E e s')
    (hQ : ∀ s' acc' c', Fin s' → s'.heap.get? s.heap.objs.size = some (listO acc' c') → ItemsOf P acc' n → Q (.ref s.heap.objs.size) s') :
    wpAny (model prog w) A (call (.type "list") [.ref I]) Q E s := by
  refine callType_codes (Q₁ := fun obj s₁ => obj = .ref s.heap.objs.size ∧ s₁ = { s with heap := s.heap.push { cls := .type "list", data := .seq #[] } }) PySem.F.called_list (PySem.F.typeCall_list_1 _) PySem.F.entry_list_init
    (code_list_new _ ⟨rfl, rfl⟩) fun obj s₁ h₁ => ?_
  obtain ⟨rfl, rfl⟩ := h₁
  have hS : (s.heap.push { cls := .type "list", data := .seq #[] }).get? s.heap.objs.size = some { cls := .type "list", data := .seq #[] } := Heap.get?_push_size _ rfl
  refine ⟨⟨_, hS, rfl⟩, PySem.F.args_list_init_2 _ _, ?_⟩
  have hst₁ := W.frame 0 s (s.heap.push { cls := .type "list", data := .seq #[] }) s.toks hst (fun b o _ e => Heap.get?_push_of_some _ e)
  show wpAny _ A.in1.in1 (do let old ← Builtin.List.listItems (.ref s.heap.objs.size); Builtin.List.listUpdate (.ref s.heap.objs.size) (fun _ => #[]); letGo old.toList.reverse; Builtin.List.listExtendWith (.ref s.heap.objs.size) (.ref I) .none) _ _ _
  refine wpAny_bind ?_
  unfold Builtin.List.listItems
  refine wpAny_bind (wpAny_seqItems hS rfl (wpAny_pure ?_))
  show wpAny _ A.in1.in1 (updateSeq s.heap.objs.size (fun _ => #[]) >>= fun _ => letGo (#[] : Array Value).toList.reverse >>= fun _ => Builtin.List.listExtendWith (.ref s.heap.objs.size) (.ref I) .none) _ _ _
  refine wpAny_bind (wpAny_updateSeq hS rfl ?_)
  have hS₂ := Heap.get?_update_self (Obj.mapSeq (fun _ => (#[] : Array Value))) hS rfl
  refine wpAny_bind (wpAny_letGo ?_)
  refine extendE (A := A.in1) (R := wants (fun r s₂ => r = .none ∧ Q (.ref s.heap.objs.size) s₂) E) W hn hIN s.heap.objs.size hN .none _ (W.frame 0 _ _ _ hst₁ fun b o hb e => (Heap.get?_update_other _ _ (Nat.ne_of_gt (Nat.lt_of_lt_of_le hb hN))).trans e) hS₂ hE fun s' acc' c' hf hS' hacc => ?_
  exact ⟨rfl, hQ s' acc' c' hf hS' hacc⟩
end
end Mine
end G2_part
section G3_part
open PySem PySem.W PySem.Calls PyProof.Rows
set_option Elab.async false
set_option maxRecDepth 100000
set_option maxHeartbeats 2000000
namespace Mine
noncomputable abbrev gexp (elt iter : Expr) (x : Str) (px : Pos) (scope : Scope) (pos : Pos) : Expr := .GeneratorExp elt [⟨.Name x px, iter, [], 0⟩] scope pos
noncomputable def SinceG (N₀ : Nat) (s₀ s : Shared) : Prop := (∀ b o, N₀ ≤ b → s₀.heap.get? b = some o → s.heap.get? b = some o) ∧ ∀ k, k < s₀.gens.size → s.gens[k]? = s₀.gens[k]?
theorem SinceG.refl (N₀ : Nat) (s : Shared) : SinceG N₀ s s := ⟨fun _ _ _ e => e, fun _ _ => rfl⟩
theorem SinceG.trans {N₀ : Nat} {s₀ s₁ s₂ : Shared} (a : SinceG N₀ s₀ s₁) (b : SinceG N₀ s₁ s₂) : SinceG N₀ s₀ s₂ := by
  refine ⟨fun x o h e => b.1 x o h (a.1 x o h e), fun k hk => ?_⟩
  have h1 := a.2 k hk
  have : k < s₁.gens.size := by
    rcases Nat.lt_or_ge k s₁.gens.size with h | h
    · exact h
    · rw [Array.getElem?_eq_none h, Array.getElem?_eq_getElem hk] at h1; cases h1
  exact (b.2 k this).trans h1
structure GenHyp (prog : Program) (w : World) (A : Around) (elt iter : Expr) (x : Str) (px : Pos) (scope : Scope) (pos : Pos) (cenv : Env) (I N₀ n : Nat) (fp : List Addr) (P : Nat → Value → Prop) (St₀ : Nat → Heap → Prop)
    (F : Nat → Value → Prop) (Inv : Shared → Prop) (ErrG : Value → Shared → Prop) : Prop where
  hh : A.handled = none
  W₀ : ∀ A' : Around, A'.handled = none → Walks prog w A' I fp [I] n P St₀
  hx : cenv.kindOf x = some .local
  hp : (cenv.scope.kind == .class || (cenv.scope.kind == .module && cenv.locals != cenv.globals)) = false
  hco : cenv.scope.isCoroutine = false
  CI : cenv.locals ≠ I
  Cf : cenv.locals ∉ fp
  fpN : ∀ b ∈ fp, b < N₀
  CN : cenv.locals < N₀
  IN : I < N₀
  inv_frame : ∀ (s : Shared) h' tk, Inv s → (∀ b o, b < N₀ → b ≠ cenv.locals → b ≠ I → s.heap.get? b = some o → h'.get? b = some o) → Inv { s with heap := h', toks := tk }
  elt : ∀ i v (s₂ : Shared) m₂, i < n → P i v → Inv s₂ → s₂.heap.Ns cenv.locals m₂ → m₂ x = some v → wpAny (model prog w) (A.over (.compLoop (gexp elt iter x px scope pos) 0 (.ref I) .none cenv) []) (eval elt cenv)
    (fun y s₃ => F i y ∧ Inv s₃ ∧ (∀ b o, b ∈ fp ∨ b = cenv.locals ∨ N₀ ≤ b → s₂.heap.get? b = some o → s₃.heap.get? b = some o) ∧ (∀ k, k < s₂.gens.size → s₃.gens[k]? = s₂.gens[k]?))
    (fun e s₃ => wpAny (model prog w) (A.over (.compLoop (gexp elt iter x px scope pos) 0 (.ref I) .none cenv) []) (leaving cenv e) (fun _ s₄ => ErrG e s₄) (fun _ _ => False) s₃) s₂
noncomputable def genEnd (N₀ : Nat) (Inv : Shared → Prop) (ErrG : Value → Shared → Prop) : GenEnd := fun n s₀ r s₁ => (r = .ok .next ∧ n = 0 ∧ Inv s₁ ∧ SinceG N₀ s₀ s₁) ∨ ∃ e, r = .error e ∧ n ≠ 0 ∧ ErrG e s₁
noncomputable def genY (N₀ n : Nat) (F : Nat → Value → Prop) (Inv : Shared → Prop) : Protocol := fun m s₀ v s kap =>
  (∃ i, i + m + 1 = n ∧ F i v) ∧ Inv s ∧ SinceG N₀ s₀ s ∧ ∀ s'' : Shared, (∀ b o, b < N₀ → s.heap.get? b = some o → s''.heap.get? b = some o) → Inv s'' → kap (.send .none) s''
section
variable {prog : Program} {w : World} {A : Around} {elt iter : Expr} {x : Str} {px : Pos} {scope : Scope} {pos : Pos} {cenv : Env} {I N₀ n : Nat} {fp : List Addr} {P : Nat → Value → Prop} {St₀ : Nat → Heap → Prop}
    {F : Nat → Value → Prop} {Inv : Shared → Prop} {ErrG : Value → Shared → Prop}
theorem seg_loopE (H : GenHyp prog w A elt iter x px scope pos cenv I N₀ n fp P St₀ F Inv ErrG) :
    ∀ (k i : Nat) (s₀ s : Shared) (m : Str → Option Value), n - i = k → i ≤ n → St₀ i s.heap → s.heap.Ns cenv.locals m → Inv s → SinceG N₀ s₀ s →
      Seg (model prog w) A (genEnd N₀ Inv ErrG) (genY N₀ n F Inv) k s₀ (.compLoop (gexp elt iter x px scope pos) 0 (.ref I) .none cenv)
        ((model prog w).den (.compLoop (gexp elt iter x px scope pos) 0 (.ref I) .none cenv)) [] s := by
  have hh' : (A.over (.compLoop (gexp elt iter x px scope pos) 0 (.ref I) .none cenv) []).handled = none := H.hh
  have hCw : cenv.locals ∉ [I] := fun h => H.CI (List.mem_singleton.mp h)
  intro k
  induction k with
  | zero =>
    intro i s₀ s m hk hi hst hn hinv hsince
    obtain rfl : i = n := by (clear hh'; omega)
    show Seg _ A _ _ _ s₀ _ ((compTurn (gexp elt iter x px scope pos) 0 (.ref I) .none cenv).onRaise (leaving cenv)) [] s
    rw [compTurn_gen, Sem.onRaise_eq_wrap]
    refine seg_bind_wrap (wpAny_standAt ?_)
    refine seg_bind_wrap ((H.W₀ _ hh').done s _ _ hst fun h' tk hk' => ?_)
    refine seg_end (.ok .next) (.inl ⟨rfl, rfl, H.inv_frame s h' tk hinv fun b o _ _ hI e => hk' b o (fun h => hI (List.mem_singleton.mp h)) e, hsince.trans ⟨fun b o hb e => hk' b o (fun h => ?_) e, fun _ _ => rfl⟩⟩)
    rw [List.mem_singleton.mp h] at hb
    exact absurd H.IN (Nat.not_lt.mpr hb)
  | succ k ih =>
    intro i s₀ s m hk hi hst hn hinv hsince
    have hlt : i < n := by (clear hh'; omega)
    show Seg _ A _ _ _ s₀ _ ((compTurn (gexp elt iter x px scope pos) 0 (.ref I) .none cenv).onRaise (leaving cenv)) [] s
    rw [compTurn_gen, Sem.onRaise_eq_wrap]
    refine seg_bind_wrap (wpAny_standAt ?_)
    refine seg_bind_wrap ((H.W₀ _ hh').item i s _ _ hlt hst fun v h₁ tk₁ hPv hst₁ hk₁ => ?_)
    refine seg_bind_wrap (wpAny_of_eq (rfl : letOwnedTupleGo (.Name x px) (.ref I) v = pure ()) ?_)
    refine seg_bind_wrap (wpAny_assign_Name (wpAny_storeName_local H.hx (hn.at' fun o e => hk₁ _ o hCw e) (fun h₂ hn₂ hs₂ => ?_) H.hp))
    have up₂ : ∀ b o, b ≠ cenv.locals → b ≠ I → s.heap.get? b = some o → h₂.get? b = some o := fun b o hbC hbI e => hs₂.extBut b o hbC (hk₁ b o (fun h => hbI (List.mem_singleton.mp h)) e)
    have hst₂ : St₀ (i + 1) h₂ := (H.W₀ A H.hh).frame _ _ _ hst₁ fun b hb o e => hs₂.extBut b o (fun h => H.Cf (h ▸ hb)) e
    have hinv₂ := H.inv_frame s h₂ (tk₁ + 1) hinv fun b o _ hC hI e => up₂ b o hC hI e
    have hsince₂ : SinceG N₀ s₀ { s with heap := h₂, toks := tk₁ + 1 } := hsince.trans ⟨fun b o hb e => up₂ b o (fun h => absurd H.CN (Nat.not_lt.mpr (h ▸ hb))) (fun h => absurd H.IN (Nat.not_lt.mpr (h ▸ hb))) e, fun _ _ => rfl⟩
    refine seg_bind_wrap (wpAny_of_eq (a := true) rfl ?_)
    simp only [if_true]
    have hy : ∀ v, yieldOut cenv v = yieldValue v := fun v => by simp only [yieldOut, H.hco, Bool.false_eq_true, if_false]
    simp only [hy]
    rw [Sem.bind_eq_wrap', Sem.bind_eq_wrap', Sem.wrap_wrap, Sem.wrap_wrap]
    refine seg_wrap (wpAny_mono (H.elt i v _ _ hlt hPv hinv₂ hn₂ (by simp)) (fun y s₃ h₃ => ?_) fun e s₃ h₃ => ?_)
    · obtain ⟨hF, hinv₃, hk₃, hg₃⟩ := h₃
      dsimp only at hk₃ hg₃
      have hsince₃ : SinceG N₀ s₀ s₃ := hsince₂.trans ⟨fun b o hb e => hk₃ b o (.inr (.inr hb)) e, hg₃⟩
      refine seg_at (seg_yield rfl rfl rfl ⟨⟨i, by (clear hh' hi; omega), hF⟩, hinv₃, hsince₃, fun s'' hal hinv'' => ?_⟩)
      have hst₃ : St₀ (i + 1) s₃.heap := (H.W₀ A H.hh).frame _ _ _ hst₂ fun b hb o e => hk₃ b o (.inl hb) e
      refine seg_again rfl (ih (i + 1) s'' s'' (fun y => if y = x then some v else m y) (by (clear hh' hi; omega)) hlt ((H.W₀ A H.hh).frame _ _ _ hst₃ fun b hb o e => hal b o (H.fpN b hb) e) ?_ hinv'' (SinceG.refl _ _))
      exact (hn₂.at' fun o e => hk₃ _ o (.inr (.inl rfl)) e).at' fun o e => hal _ o H.CN e
    · show Seg _ A _ _ _ s₀ _ ((leaving cenv e).bind fun _ => Sem.raise e) [] s₃
      rw [Sem.bind_eq_wrap]
      exact seg_wrap (wpAny_mono h₃ (fun _ s₄ h₄ => seg_end (.error e) (.inr ⟨e, rfl, Nat.succ_ne_zero _, h₄⟩)) fun _ _ h => h.elim)
theorem seg_startE (H : GenHyp prog w A elt iter x px scope pos cenv I N₀ n fp P St₀ F Inv ErrG) (s₀ s : Shared) (m : Str → Option Value) (hst : St₀ 0 s.heap) (hn : s.heap.Ns cenv.locals m) (hinv : Inv s) (hsince : SinceG N₀ s₀ s) :
    Seg (model prog w) A (genEnd N₀ Inv ErrG) (genY N₀ n F Inv) n s₀ (.compStart (gexp elt iter x px scope pos) 0 (.ref I) .none cenv)
        ((model prog w).den (.compStart (gexp elt iter x px scope pos) 0 (.ref I) .none cenv)) [] s := by
  have hh' : (A.over (.compStart (gexp elt iter x px scope pos) 0 (.ref I) .none cenv) []).handled = none := H.hh
  have loop := seg_loopE H n 0 s₀ s m (Nat.sub_zero _) (Nat.zero_le _) hst hn hinv hsince
  show Seg _ A _ _ _ s₀ _ ((compStart (gexp elt iter x px scope pos) 0 (.ref I) .none cenv).onRaise (leaving cenv)) [] s
  unfold compStart
  rw [Sem.onRaise_eq_wrap]
  show Seg _ A _ _ _ s₀ _ ((ask >>= _).wrap _ _ _ _) [] s
  refine seg_bind_wrap (wpAny_askSetting ?_)
  split
  · exact seg_again rfl loop
  · first
      | exact seg_bind_wrap (wpAny_rule (seg_bind_wrap (wpAny_standAt (seg_bind_wrap ((H.W₀ _ hh').self 0 s _ _ hst (seg_again rfl loop))))))
      | (refine seg_bind_wrap (wpAny_rule ?_); show Seg _ A _ _ _ s₀ _ ((standAt iter.pos >>= _).wrap _ _ _ _) [] s; exact seg_bind_wrap (wpAny_standAt (seg_bind_wrap ((H.W₀ _ hh').self 0 s _ _ hst (seg_again rfl loop)))))
/-- where a generator of ours stands -/
noncomputable def GenStE (prog : Program) (w : World) (A : Around) (g N₀ n : Nat) (F : Nat → Value → Prop) (Inv : Shared → Prop) (ErrG : Value → Shared → Prop) (j : Nat) (s : Shared) : Prop :=
  Inv s ∧ ∃ gs, s.gens[g]? = some gs ∧ gs.bare = true ∧ ∀ s'' : Shared, (∀ b o, b < N₀ → s.heap.get? b = some o → s''.heap.get? b = some o) → Inv s'' → gs.Goes (model prog w) A.in1 (genEnd N₀ Inv ErrG) (genY N₀ n F Inv) (n - j) (.send .none) s''
theorem setGen_get {s : Shared} {g : Nat} {gs y : GenState} (h : s.gens[g]? = some gs) : (s.setGen g y).gens[g]? = some y := setGen_self h
theorem walksE {P' : Params} {a g : Nat} {Fin : Shared → Prop} {Err : Value → Shared → Prop} (hh : A.handled = none) (hroom : A.depth < recursionLimit) (aN : a < N₀) (hsN : 2 < N₀)
    (inv_is : ∀ s, Inv s → s.heap.IsGen a g) (inv_lim : ∀ s, Inv s → s.heap.NoLimit)
    (inv_frame : ∀ (s : Shared) h' tk, Inv s → (∀ b o, b < N₀ → s.heap.get? b = some o → h'.get? b = some o) → Inv { s with heap := h', toks := tk })
    (inv_gen : ∀ (s : Shared) y, Inv s → y.bare = true → Inv (s.setGen g y))
    (hfin : ∀ s, Inv s → Fin s)
    (herr : ∀ e s, ErrG e s → GenRaised P' Err a g (.error e) s) :
    WalksE prog w A a N₀ n F (GenStE prog w A g N₀ n F Inv ErrG) Fin Err where
  item := fun i s Q E hi st hQ hE => by
    obtain ⟨hinv, gs, hgs, hb, hgo⟩ := st
    obtain ⟨m, hm⟩ : ∃ m, n - i = m + 1 := ⟨n - i - 1, by (clear aN hb hgs hh hroom hsN; omega)⟩
    rw [hm] at hgo
    refine pyNext_genE (P := P') hh (inv_lim _ hinv) hroom (inv_is _ hinv) hgs (hgo _ (fun _ _ _ e => e) (inv_gen _ .running hinv rfl)) (fun v s₁ gs' hb' hv => ?_) fun r s₁ hr => ?_
    · obtain ⟨⟨i', hi', hF⟩, hinv₁, hs₁, hkap⟩ := hv
      obtain rfl : i' = i := by (clear aN hb hb' hgs hh hroom hsN; omega)
      have hg1 : s₁.gens[g]? = some .running := by
        have h0 : (s.setGen g .running).gens[g]? = some .running := setGen_self hgs
        have hlt : g < (s.setGen g .running).gens.size := by
          rcases Nat.lt_or_ge g (s.setGen g .running).gens.size with h | h
          · exact h
          · rw [Array.getElem?_eq_none h] at h0; cases h0
        exact (hs₁.2 g hlt).trans h0
      refine hQ v _ hF ⟨inv_gen _ _ hinv₁ hb', gs', setGen_self hg1, hb', fun s'' hal hinv'' => ?_⟩ fun b o hb e => hs₁.1 b o hb e
      rw [show n - (i' + 1) = m by (clear aN hb hb' hg1 hgs hh hroom hsN; omega)]
      exact hkap s'' hal hinv''
    · rcases hr with ⟨_, h0, _⟩ | ⟨e, rfl, _, he⟩
      · (clear aN hb hgs hh hi hm hroom hsN; omega)
      · obtain ⟨e', ob, n', h1, h2, h3, h4, h5, h6⟩ := herr e s₁ he
        exact .inr ⟨e', ob, n', h1, h2, h3, h4, h5, hE _ _ h6⟩
  done := fun s Q E st hQ => by
    obtain ⟨hinv, gs, hgs, hb, hgo⟩ := st
    rw [Nat.sub_self] at hgo
    refine pyNext_genE (P := P') hh (inv_lim _ hinv) hroom (inv_is _ hinv) hgs (hgo _ (fun _ _ _ e => e) (inv_gen _ .running hinv rfl)) (fun v s₁ gs' hb' hv => ?_) fun r s₁ hr => ?_
    · obtain ⟨_, hinv₁, _, hkap⟩ := hv
      exact (hkap s₁ (fun _ _ _ e => e) hinv₁).elim
    · rcases hr with ⟨rfl, _, hinv₁, hs₁⟩ | ⟨e, _, h0, _⟩
      · refine .inl ⟨rfl, fun h' hk => hQ _ (hfin _ ?_) fun b o hb e => hk b o (hs₁.1 b o hb e)⟩
        exact inv_frame (s₁.setGen g .finished) h' s₁.toks (inv_gen s₁ .finished hinv₁ rfl) fun b o _ e => hk b o e
      · exact absurd rfl h0
  self := fun _ s _ _ st hQ => wpAny_pyIter_gen (inv_is s st.1) hQ
  ty := fun _ s st => (inv_is s st.1).typeIs
  frame := fun i s h' tk st hk => ⟨inv_frame s h' tk st.1 hk, let ⟨gs, hgs, hb, hgo⟩ := st.2; ⟨gs, hgs, hb, fun s'' hal hinv => hgo s'' (fun b o hb e => hal b o hb (hk b o hb e)) hinv⟩⟩
end
end Mine
end G3_part
section J1_part
open PySem PySem.W PySem.Calls PyProof.Rows
set_option Elab.async false
set_option maxRecDepth 100000
set_option maxHeartbeats 4000000
namespace Mine
open Builtin
theorem slot_join : Slot "bytes" "join" "bytes.join" :=
  .of (owner := "bytes") (n := "join") (by rw [typeLookup_type, builtinLookup_eq_fast]; kernel_rfl) (by decide +kernel) (by decide +kernel) (by decide +kernel)
    (by first | exact .inl (by decide +kernel) | exact .inr (by decide +kernel)) (by rw [isSubtype_type]; kernel_rfl)
theorem entry_join : entryFor table "bytes.join" = some Builtin.«bytes.join» := entryFor_of_fast (by kernel_rfl)
theorem args_join (a b : Value) : argsOk "bytes.join" ⟨[a, b], []⟩ := by unfold argsOk; kernel_rfl
theorem type_join : typeOf (.builtin "bytes.join") = pure (.type "method_descriptor") := by show builtinType _ = _; rw [builtinType_eq_fast]; kernel_rfl
theorem ba_look_buffer : typeLookup (.type "bytearray") "__buffer__" = pure (some (.builtin "bytearray.__buffer__")) := by rw [typeLookup_type, builtinLookup_eq_fast]; kernel_rfl
theorem ba_look_release : typeLookup (.type "bytearray") "__release_buffer__" = pure (some (.builtin "bytearray.__release_buffer__")) := by rw [typeLookup_type, builtinLookup_eq_fast]; kernel_rfl
theorem sub_ba_ba : isSubtype (.type "bytearray") (.type "bytearray") = pure true := by rw [isSubtype_type]; kernel_rfl
section
variable {M : Model} {A : Around} {E : Value → Shared → Prop} {s : Shared} {b : Array UInt8} {a : Addr}
theorem buffer_full {id : String} {full : Bool} {t : Tok} : Bytes.buffer? id (.bytes b t) full = pure (some b) := by
  unfold Bytes.buffer?
  rw [KBy.special_eq KBy.look_buffer, KBy.own_buffer, KBy.own_release]
  kernel_rfl
theorem take_bytes {t : Tok} {id : String} {Q : Option (Array UInt8 × Option Value) → Shared → Prop} (h : Q (some (b, none)) s) : wpAny M A (Bytes.takeBufferQuiet? id (.bytes b t) 0) Q E s := by
  refine wpAny_of_eq (a := some (b, none)) ?_ h
  unfold Bytes.takeBufferQuiet? Bytes.takeBuffer?
  rw [KBy.special_eq KBy.look_buffer, KBy.own_buffer, buffer_full]
  kernel_rfl
theorem own_ba {name : String} {id : String} {Q : Bool → Shared → Prop} (ha : s.heap.get? a = some (baO b)) (hl : typeLookup (.type "bytearray") (name : PySem.Str) = pure (some (.builtin id)))
    (h1 : id.endsWith ("." ++ name) = true) (h2 : id.dropRight (name.length + 1) = "bytearray") (h : Q true s) : wpAny M A (Bytes.slotIsOwn (.ref a) name) Q E s := by
  have hT : s.TypeIs (.ref a) "bytearray" := ⟨_, ha, rfl⟩
  unfold Bytes.slotIsOwn
  refine wpAny_bind (wpAny_specialOf hT hl ?_)
  dsimp only
  rw [h1, h2]
  exact wpAny_isInstance hT sub_ba_ba h
theorem take_ba {id : String} {Q : Option (Array UInt8 × Option Value) → Shared → Prop} (ha : s.heap.get? a = some (baO b)) (h : Q (some (b, none)) s) : wpAny M A (Bytes.takeBufferQuiet? id (.ref a) 0) Q E s := by
  have hT : s.TypeIs (.ref a) "bytearray" := ⟨_, ha, rfl⟩
  unfold Bytes.takeBufferQuiet? Bytes.takeBuffer?
  refine wpAny_bind (wpAny_attempt (wpAny_bind (wpAny_specialOf hT ba_look_buffer ?_)))
  dsimp only
  refine wpAny_bind (own_ba ha ba_look_buffer (by decide +kernel) (by decide +kernel) ?_)
  rw [Bool.not_true]
  show wpAny M A (specialOf (.ref a) "__buffer__" >>= _) _ _ s
  refine wpAny_bind (wpAny_specialOf hT ba_look_buffer ?_)
  show wpAny M A (Bytes.buffer? id (.ref a) _ >>= _) _ _ s
  refine wpAny_bind ?_
  unfold Bytes.buffer?
  refine wpAny_bind (wpAny_specialOf hT ba_look_buffer ?_)
  dsimp only
  refine wpAny_bind (own_ba ha ba_look_buffer (by decide +kernel) (by decide +kernel) ?_)
  rw [Bool.not_true]
  show wpAny M A (specialOf (.ref a) "__buffer__" >>= _) _ _ s
  refine wpAny_bind (wpAny_specialOf hT ba_look_buffer ?_)
  show wpAny M A (Bytes.ownRelease (.ref a) >>= _) _ _ s
  unfold Bytes.ownRelease
  refine wpAny_bind (wpAny_bind (own_ba ha ba_look_release (by decide +kernel) (by decide +kernel) (wpAny_pure ?_)))
  rw [Bool.not_true]
  show wpAny M A (Bytes.payload (.ref a) >>= _) _ _ s
  unfold Bytes.payload Bytes.payload?
  refine wpAny_bind (wpAny_bind (wpAny_bind (wpAny_load ha (wpAny_pure (wpAny_pure ?_)))))
  exact wpAny_pure (wpAny_pure (wpAny_pure h))
end
end Mine
end J1_part
section J2_part
open PySem PySem.W PySem.Calls PyProof.Rows
set_option Elab.async false
set_option maxRecDepth 100000
set_option maxHeartbeats 4000000
namespace Mine
open Builtin
/-- bytes or a bytearray that holds b -/
noncomputable def EncV (V : View) (b : Array UInt8) (r : Value) : Prop := (∃ tk, r = .bytes b tk) ∨ ∃ a, r = .ref a ∧ V a = some (baO b)
theorem EncV.mono {V W : View} (h : VLe V W) {b : Array UInt8} {r : Value} : EncV V b r → EncV W b r
  | .inl x => .inl x
  | .inr ⟨a, e, x⟩ => .inr ⟨a, e, h _ _ x⟩
noncomputable def cat : List (Array UInt8) → Array UInt8
  | [] => #[]
  | b :: r => b ++ cat r
theorem cat_foldl : ∀ (ps : List (Array UInt8)) (a : Array UInt8), ps.foldl (· ++ ·) a = a ++ cat ps
  | [], a => by simp [cat]
  | p :: ps, a => by rw [List.foldl_cons, cat_foldl ps, cat, Array.append_assoc]
theorem joined_cat (ps : List (Array UInt8)) : Bytes.joined #[] ps = cat ps := by
  have key : ∀ (ps : List (Array UInt8)) (k : Nat) (a : Array UInt8), (ps.zipIdx k).foldl (fun out (p : Array UInt8 × Nat) => (if p.2 > 0 then out ++ #[] else out) ++ p.1) a = a ++ cat ps := by
    intro ps
    induction ps with
    | nil => intro k a; simp [cat]
    | cons p ps ih =>
      intro k a
      rw [List.zipIdx_cons, List.foldl_cons, ih, cat]
      simp
  have := key ps 0 #[]
  rw [Array.empty_append] at this
  exact this
theorem size_foldl : ∀ (ps : List (Array UInt8)) (n : Nat), ps.foldl (fun a (p : Array UInt8) => a + p.size) n = n + (cat ps).size
  | [], n => by simp [cat]
  | p :: ps, n => by rw [List.foldl_cons, size_foldl ps, cat, Array.size_append]; omega
section
variable {prog : Program} {w : World} {A : Around} {E : Value → Shared → Prop} {s : Shared}
theorem call_join {V : View} {t0 : Tok} {I g : Nat} {Q : Value → Shared → Prop} (hI : s.heap.IsGen I g)
    (hl : wpAny (model prog w) A.in1 (call (.type "list") [.ref I]) (fun r s' => ∃ l vs ep parts, r = .ref l ∧ s'.heap.get? l = some (listO vs ep) ∧ VLe V s'.heap.get? ∧ vs.size = parts.length ∧ (cat parts).size ≤ 100000 ∧
      (∀ (i : Nat) v p, vs[i]? = some v → parts[i]? = some p → EncV V p v) ∧ ∀ t' k, Q (.bytes (cat parts) t') { s' with toks := k }) E s) :
    wpAny (model prog w) A (call (.builtin "bytes.join") [.bytes #[] t0, .ref I]) Q E s := by
  refine wpAny_call_entry slot_join (typeIs_bytes _ _ _) entry_join ?_ (args_join _ _)
  unfold Builtin.«bytes.join» Bytes.joinM
  refine wpAny_bind (wpAny_of_eq (a := (.bytes #[] t0, .ref I)) rfl ?_)
  show wpAny (model prog w) A.in1 (Bytes.joinItems (.ref I) >>= _) _ _ s
  refine wpAny_bind ?_
  unfold Bytes.joinItems
  refine wpAny_bind (wpAny_typeOf hI.typeIs ?_)
  rw [show ((Value.type "generator" == Value.type "list") || (Value.type "generator" == Value.type "tuple")) = false by decide]
  show wpAny (model prog w) A.in1 ((pyIter (.ref I)).tryCatch _ >>= _) _ _ s
  refine wpAny_bind (wpAny_tryCatch (wpAny_pyIter_gen hI ?_))
  refine wpAny_mono hl (fun r s' h' => ?_) fun _ _ e => e
  obtain ⟨l, vs, ep, parts, rfl, hl', hV, hsz, hlen, hE, hQ⟩ := h'
  refine wpAny_bind (wpAny_seqItems hl' rfl ?_)
  dsimp (config := {zeta := false}) only
  lift_lets
  intro ps0 tk0 jp
  have main : ∀ u, wpAny (model prog w) A.in1 (jp u) (fun fin s' => ∃ v, fin = Fin.done (Flow.ret v) ∧ Q v s') E s' := by
    intro u
    show wpAny _ _ (forIn [:vs.size] _ _ >>= _) _ _ _
    rw [KPc.range_list]
    refine wpAny_bind ?_
    refine wpAny_forIn_list _ (fun rest st s₂ => ∃ k, s₂ = { s' with toks := k } ∧ ∃ i, i ≤ vs.size ∧ rest = List.range' i (vs.size - i) 1 ∧ st.1.toList = parts.take i ∧ ∀ p ∈ st.2, p.2 = none) _ ?_ ?_ _ _ ⟨s'.toks, rfl, 0, Nat.zero_le _, by simp, by simp [ps0], by simp [tk0]⟩
    · rintro i rest ⟨ps, taken⟩ s₂ ⟨k, rfl, i', hi', hr, hps, htk⟩
      obtain ⟨n, hn⟩ : ∃ n, vs.size - i' = n + 1 := by
        cases q : vs.size - i' with
        | zero => rw [q] at hr; simp at hr
        | succ n => exact ⟨n, rfl⟩
      rw [hn, List.range'_succ] at hr
      obtain ⟨rfl, rfl⟩ := List.cons.inj hr
      have hlt : i < vs.size := by (clear hl' hlen hps hr; omega)
      have hx : vs[i]? = some vs[i] := Array.getElem?_eq_getElem hlt
      have hp : parts[i]? = some (parts[i]'(by (clear hi' hl' hlen hn hps hr hx; omega))) := List.getElem?_eq_getElem (by (clear hi' hl' hlen hn hps hr hx; omega))
      have hEi := hE i _ _ hx hp
      have hgd : vs.getD i .none = vs[i] := by simp [Array.getD, hlt]
      generalize hxv : vs[i] = x at hEi hgd
      generalize hpv : parts[i]'(by (clear hi' hl' hlen hn hp hps hr hx; omega)) = p at hEi hp
      dsimp only at hps ⊢
      refine wpAny_bind (wpAny_seqItems hl' rfl ?_)
      dsimp (config := {zeta := false}) only
      rw [hgd]
      have fin : wpAny (model prog w) A.in1 (Bytes.takeBufferQuiet? "bytes.join" x 0) (fun r s₃ => r = some (p, none) ∧ s₃ = { s' with toks := k }) E { s' with toks := k } := by
        rcases hEi with ⟨tk, rfl⟩ | ⟨a, rfl, ha⟩
        · exact take_bytes ⟨rfl, rfl⟩
        · exact take_ba (hV _ _ ha) ⟨rfl, rfl⟩
      have hspec : wpAny (model prog w) A.in1 (specialOf x "__buffer__") (fun r s₃ => (∃ id, r = some (.builtin id)) ∧ s₃ = { s' with toks := k }) E { s' with toks := k } := by
        rcases hEi with ⟨tk, rfl⟩ | ⟨a, rfl, ha⟩
        · exact wpAny_specialOf (typeIs_bytes _ _ _) KBy.look_buffer ⟨⟨_, rfl⟩, rfl⟩
        · exact wpAny_specialOf (T := "bytearray") ⟨_, hV _ _ ha, rfl⟩ ba_look_buffer ⟨⟨_, rfl⟩, rfl⟩
      split
      · refine wpAny_bind (wpAny_mono hspec (fun r s₃ hr => ?_) fun _ _ e => e)
        obtain ⟨⟨id, rfl⟩, rfl⟩ := hr
        dsimp only
        refine wpAny_bind (wpAny_holding (wpAny_mono fin (fun r s₃ hr => ?_) fun _ _ e => e))
        obtain ⟨rfl, rfl⟩ := hr
        dsimp only
        refine wpAny_bind (wpAny_seqItems hl' rfl ?_)
        dsimp only
        rw [bne_self_eq_false, if_neg (by simp)]
        refine wpAny_pure ⟨k, rfl, i + 1, by (clear hi' hl' hlen hn hp hps hpv hr hx; omega), ?_, ?_, fun q hq => (List.mem_append.mp hq).elim (htk q) fun h => by rw [List.mem_singleton.mp h]⟩
        · rw [show vs.size - (i + 1) = n by (clear hi' hl' hlen hp hps hpv hr hx; omega)]
        · rw [Array.toList_push, hps, List.take_add_one, hp]
          rfl
      · skip
        refine wpAny_bind (wpAny_holding (wpAny_mono fin (fun r s₃ hr => ?_) fun _ _ e => e))
        obtain ⟨rfl, rfl⟩ := hr
        dsimp only
        refine wpAny_bind (wpAny_seqItems hl' rfl ?_)
        dsimp only
        rw [bne_self_eq_false, if_neg (by simp)]
        refine wpAny_pure ⟨k, rfl, i + 1, by (clear hi' hl' hlen hn hp hps hpv hr hx; omega), ?_, ?_, fun q hq => (List.mem_append.mp hq).elim (htk q) fun h => by rw [List.mem_singleton.mp h]⟩
        · rw [show vs.size - (i + 1) = n by (clear hi' hl' hlen hp hps hpv hr hx; omega)]
        · rw [Array.toList_push, hps, List.take_add_one, hp]
          rfl
    · rintro ⟨ps, taken⟩ s₂ ⟨k, rfl, i', hi', hr, hps, htk⟩
      have hi : i' = vs.size := by
        cases q : vs.size - i' with
        | zero => (clear hl' hlen hps hr; omega)
        | succ n => rw [q, List.range'_succ] at hr; cases hr
      have hps2 : ps.toList = parts := by
        dsimp only at hps
        rw [hps, hi, hsz, List.take_length]
      refine wpAny_bind (wpAny_of_eq (a := #[]) rfl ?_)
      dsimp only
      have hfold : Array.foldl (fun x1 (x2 : Array UInt8) => x1 + x2.size) ((#[] : Array UInt8).size * (ps.size - 1)) ps = (cat parts).size := by
        rw [← Array.foldl_toList, hps2, size_foldl]
        simp
      rw [hfold, KBy.tooLong_not (by (clear hi hi' hl' hps hps2 hr hsz; omega)), if_neg (by simp), joined_cat, hps2]
      have hline : (100000 : Nat) ≤ sizeLine := by decide
      refine wpAny_bind (wpAny_mkBytes ?_ (by (clear hi hi' hl' hps hps2 hr hsz; omega)))
      refine wpAny_bind (wpAny_holding (wpAny_point ?_))
      have lets : ∀ (tk : List (Value × Option Value)) (Q' : Unit → Shared → Prop) (s₄ : Shared) (kp : List Value), (∀ p ∈ tk, p.2 = none) → Q' () s₄ → wpAny (model prog w) A.in1 (Bytes.joinLetGo tk kp) Q' E s₄ := by
        intro tk
        induction tk with
        | nil => intro Q' s₄ kp _ h; exact wpAny_pure h
        | cons q tk ih =>
          intro Q' s₄ kp hq h
          obtain ⟨x, w⟩ := q
          obtain rfl : w = none := hq (x, w) (.head _)
          unfold Bytes.joinLetGo
          dsimp only
          refine wpAny_bind (wpAny_letGo (ih _ _ _ (fun p hp => hq p (.tail _ hp)) h))
      refine wpAny_bind (lets _ _ _ _ ?_ ?_)
      · exact htk
      · exact wpAny_pure ⟨_, rfl, hQ _ _⟩
  show wpAny _ _ (if (Bytes.Kind.bytes == Bytes.Kind.bytes) = true then _ else _) _ _ _
  rw [if_pos (by decide)]
  have key : ∀ (ls : List Value), vs = ⟨ls⟩ → wpAny (model prog w) A.in1 (match (⟨ls⟩ : Array Value) with | #[x] => (do let __do_lift ← typeOf x; if (__do_lift == Value.type "bytes") = true then do { rule "bytes.join.one-item"; ret x } else jp ()) | _ => jp ()) (fun fin s' => ∃ v, fin = Fin.done (Flow.ret v) ∧ Q v s') E s' := by
    intro ls hv
    match ls, hv with
    | [], _ => exact main ()
    | _ :: _ :: _, _ => exact main ()
    | [x], hv =>
      have hs1 : vs.size = 1 := by rw [hv]; rfl
      obtain ⟨p, rfl⟩ := list1 (l := parts) (by omega)
      show wpAny _ _ (typeOf x >>= _) _ _ _
      rcases hE 0 x p (by rw [hv]; rfl) rfl with ⟨tk, rfl⟩ | ⟨a, rfl, ha⟩
      · refine wpAny_bind (wpAny_typeOf (typeIs_bytes _ _ _) ?_)
        rw [if_pos (by decide)]
        have := hQ tk s'.toks
        refine wpAny_bind (wpAny_rule (wpAny_pure ⟨_, rfl, ?_⟩))
        have e : cat [p] = p := by simp [cat]
        rw [e] at this
        exact this
      · refine wpAny_bind (wpAny_typeOf (T := "bytearray") ⟨_, hV _ _ ha, rfl⟩ ?_)
        rw [if_neg (by decide)]
        exact main ()
  exact key vs.toList rfl
end
end Mine
end J2_part
section Lp_part
open PySem PySem.W PySem.Calls PyProof.Rows
set_option Elab.async false
set_option maxRecDepth 100000
set_option maxHeartbeats 4000000
namespace Mine
section
variable {w : World} {s : Shared} {G : Glo}
theorem ib_len {x : Int} (h0 : 56 ≤ x) (h1 : x < 65536) : ((Builtin.Int.intBits x : Int) + 7).fdiv 8 = ((digs x).length : Int) := by
  have e16 : Builtin.Int.intBits x ≤ 16 := intBits_le_iff.mpr (by omega)
  rw [Int.fdiv_eq_ediv_of_nonneg _ (by decide)]
  unfold digs
  split
  · rename_i h
    have e8 : Builtin.Int.intBits x ≤ 8 := intBits_le_iff.mpr (by (clear e16; omega))
    have e1 : ¬ Builtin.Int.intBits x ≤ 0 := fun q => by have := intBits_le_iff.mp q; (clear e16 e8 q; omega)
    simp; (clear h h0 h1; omega)
  · rename_i h
    have e1 : ¬ Builtin.Int.intBits x ≤ 8 := fun q => by have := intBits_le_iff.mp q; (clear e16 q; omega)
    simp; (clear h h0 h1; omega)
theorem ib_dig {x : Int} {b : Array UInt8} (h0 : 56 ≤ x) (h1 : x < 65536) (hb : KBw.bInts b = (KTBy.little (digs x).length x).reverse) : b = byteArr (digs x) := by
  unfold byteArr
  refine bInts_inj (hb.trans ?_)
  rw [List.map_map]
  unfold digs
  split
  · rename_i h
    simp [KTBy.little, Function.comp]
    (clear hb; omega)
  · rename_i h
    simp [KTBy.little, Function.comp]
    (clear h h0 h1 hb; omega)
theorem ib_ok {n : Nat} (hn : n < 90) {x : Int} {t1 : Tok} (W : Wld w G s.heap.get?) (h0 : 56 ≤ x) (h1 : x < 65536) :
    wpAny (model pw w) (AT (n + 1)) (call (.ref G.a9) [.int x t1]) (fun r s' => Keeps s s' ∧ ∃ t', r = .bytes (byteArr (digs x)) t') (fun _ _ => False) s := by
  refine call_fn (k := 9) (binds := [("value", .int x t1)]) (by (clear h0 h1; omega)) W (Glo.m9 _) (by kernel_rfl) (fun pm cd doc => by kernel_rfl) (by kernel_rfl) fun h₁ cd F => ?_
  refine wpAny_execs_cons (wpAny_Return_some (call_attr (by rfl) (by rfl) (by rfl) (ld F rfl fun pl => ?_)))
  refine KTBy.method ?_
  refine callWith_builtin rfl (evalArgs_plain (spliced_cons (BoolOp_or ?_)))
  refine wpAny_BinOp (wpAny_BinOp (call_attr (by rfl) (by rfl) (by rfl) (ld F rfl fun pl => ?_)))
  refine getMethod_int_bit_length ?_
  refine callWith_method0 (call_int_bit_length ?_)
  refine wpAny_Constant_int (add_int (wpAny_Constant_int (floordiv_int (by decide) ?_)))
  rw [ib_len h0 h1]
  refine PyProof.Rows.truthy_int ?_
  have hl := digs_len (size := x)
  rw [show ((((digs x).length : Int)) != 0) = true by simp; intro h; rw [h] at hl; simp at hl]
  rw [if_pos rfl]
  refine spliced_cons (Constant_str (k := 0) (pos := default) (spliced_nil ?_))
  refine KTBy.to_big (k := (digs x).length) (B := 256 ^ (digs x).length) (by (clear h0 h1 hn; omega)) rfl (by (clear hl hn; omega)) ?_ fun b t' k' hb hl' => ?_
  · unfold digs
    split
    · simpa using by (clear h0 h1 hl hn; omega)
    · simpa using by (clear h0 hl hn; omega)
  · exact ⟨⟨h₁, k', rfl, F.keep⟩, t', by rw [ib_dig h0 h1 hb]⟩
theorem lk_LONG_LENGTH (G : Glo) (w : World) : lookE "LONG_LENGTH" (G.e31 w) = some (.int (256 ^ 8) G.v13) := by kernel_rfl
theorem tab_item {A : Around} {E : Value → Shared → Prop} {Q : Value → Shared → Prop} {value slice : Expr} {x : Int} {t : Tok} (W : Wld w G s.heap.get?) (h0 : 0 ≤ x) (h1 : x < 256)
    (hs : subscripted slice false (.ref G.a6) (.int x t) = operate [.ref G.a6, .int x t] (getItem (.ref G.a6) (.int x t)) := by with_unfolding_all rfl) (ht : ∀ r, letTemporaryGo value (.ref G.a6) r = pure () := by intro _; with_unfolding_all rfl)
    (h : ∀ tk, Q (.bytes #[x.toNat.toUInt8] tk) s) : wpAny (model pw w) A (subscriptTail value slice (.ref G.a6) (.int x t)) Q E s := by
  obtain ⟨vs, ep, e1, e2, e3⟩ := W.tab
  have hlt : x.toNat < vs.size := by rw [e2]; (clear e1 e2 hs; omega)
  obtain ⟨tk, hv⟩ := e3 x.toNat vs[x.toNat] (Array.getElem?_eq_getElem hlt)
  refine item_tuple (items := vs) (j := x.toNat) (x := vs[x.toNat]) ⟨_, e1, rfl, ep, rfl⟩ (by (clear e1 e2 hs; omega)) (by (clear e1 e2 hs; omega)) ?_ (Array.getElem?_eq_getElem hlt) ?_ hs ht
  · unfold seqIndex?
    rw [if_neg (show ¬ x < 0 by (clear e1 e2 hs; omega)), e2]
    show (if (decide (0 ≤ x) && decide (x < ((256 : Nat) : Int))) = true then some x.toNat else none) = _
    rw [decide_eq_true h0, decide_eq_true (by (clear e1 e2 h0 hs; omega))]
    rfl
  · rw [hv]; exact h tk
theorem lp_ok {n : Nat} (hn : n < 90) {x off : Int} {t1 t2 : Tok} (W : Wld w G s.heap.get?) (h0 : 0 ≤ x) (h1 : x < 65536) (ho : off = 128 ∨ off = 192) :
    wpAny (model pw w) (AT (n + 2)) (call (.ref G.a14) [.int x t1, .int off t2]) (fun r s' => Keeps s s' ∧ ∃ t', r = .bytes (byteArr (headL off x)) t') (fun _ _ => False) s := by
  refine call_fn (k := 14) (binds := [("length", .int x t1), ("offset", .int off t2)]) (by (clear h0 h1 ho; omega)) W (Glo.m14 _) (by kernel_rfl) (fun pm cd doc => by kernel_rfl) (by kernel_rfl) fun h₁ cd F => ?_
  have W₁ := W.keeps F.keep
  by_cases hs : x < 56
  · refine wpAny_execs_cons (wpAny_If (wpAny_isTrue_Compare1 (ld F rfl (wpAny_Constant_int (lt_int (wpAny_truthy_bool ?_)))) (by rfl)))
    rw [decide_eq_true hs, if_pos rfl]
    refine wpAny_execs_cons (wpAny_Return_some (Subscript_ (gname W₁ ⟨rfl, rfl, rfl⟩ rfl (lk_ALL_BYTES _ _) (wpAny_BinOp (ld F rfl (ld F rfl (add_int ?_)))))))
    refine tab_item (W.keeps F.keep) (by (clear hn; omega)) (by (clear hn; omega)) (h := fun tk => ?_)
    refine ⟨⟨h₁, _, rfl, F.keep⟩, tk, ?_⟩
    unfold headL byteArr
    rw [if_pos hs]
    simp
  · refine wpAny_execs_cons (wpAny_If (wpAny_isTrue_Compare1 (ld F rfl (wpAny_Constant_int (lt_int (wpAny_truthy_bool ?_)))) (by rfl)))
    rw [decide_eq_false hs, if_neg (by simp)]
    refine wpAny_execs_cons (wpAny_If (wpAny_isTrue_Compare1 (ld F rfl (gname (W.keeps F.keep) ⟨rfl, rfl, rfl⟩ rfl (lk_LONG_LENGTH _ _) (lt_int (wpAny_truthy_bool ?_)))) (by rfl)))
    rw [decide_eq_true (by (clear hn ho; omega)), if_pos rfl]
    refine wpAny_execs_cons (wpAny_Assign_Name ?_ (by rfl))
    refine Call_Name1 (gname (W.keeps F.keep) ⟨rfl, rfl, rfl⟩ rfl (lk_int_to_big_endian _ _) ?_) rfl
    refine callWith_g (k := 9) (W.keeps F.keep) (Glo.m9 _) (spliced_cons (ld F rfl (spliced_nil ⟨fun _ _ _ e => e, ?_⟩)))
    refine mono_k (ib_ok (by (clear h0 h1 ho hs; omega)) (W.keeps F.keep) (by (clear hn ho; omega)) h1) fun h2 tk2 t' k2 => ?_
    dsimp only at k2 ⊢
    have F2 := F.keeps k2
    refine st F2 (fun h3 F3 => ?_)
    dsimp only
    refine wpAny_execs_cons (wpAny_Return_some (wpAny_BinOp (Subscript_ (gname (W.keeps F3.keep) ⟨rfl, rfl, rfl⟩ rfl (lk_ALL_BYTES _ _) (wpAny_BinOp (wpAny_BinOp (wpAny_BinOp (ld F3 rfl (wpAny_Constant_int (add_int (wpAny_Constant_int (sub_int ?_))))))))))))
    refine Call_Name1 (bname (W.keeps F3.keep) ⟨rfl, rfl, rfl⟩ rfl (glo_len _ _) (blt_len _) ?_) rfl
    refine callWith_builtin rfl (evalArgs_plain (spliced_cons (ld F3 rfl (spliced_nil ?_))))
    have hl := digs_len (size := x)
    have hsz : (byteArr (digs x)).size = (digs x).length := by simp [byteArr]
    refine mono_k (at_max (len_bytes (by (clear h0 h1 hn ho hs; omega)))) fun h4 tk4 t4 k4 => ?_
    dsimp only at k4 ⊢
    have F4 := F3.keeps k4
    refine add_int (tab_item (W.keeps F4.keep) (by (clear h0 h1 hn hs; omega)) (by (clear h0 h1 hn hs; omega)) (h := fun tk => ?_))
    refine ld F4 rfl (KBy.add_bytes (by simp only [List.size_toArray, List.length_cons, List.length_nil]; (clear h0 h1 hn ho hs; omega)) fun t' k => ?_)
    refine ⟨⟨h4, k, rfl, F4.keep⟩, t', ?_⟩
    congr 1
    unfold headL
    rw [if_neg hs, hsz]
    unfold byteArr
    rw [List.map_cons]
    have e : off + 56 - 1 + ((digs x).length : Int) = off + 55 + (digs x).length := by (clear h0 h1 hl hn ho hs hsz; omega)
    rw [e]
    simp
end
end Mine
end Lp_part
section X2_part
open PySem PySem.W PySem.Calls PyProof.Rows
set_option Elab.async false
set_option maxRecDepth 100000
set_option maxHeartbeats 4000000
namespace Mine
section
variable {prog : Program} {w : World} {A : Around} {E : Value → Shared → Prop} {h : Heap} {g : Array GenState} {d : Drawn} {t : Nat} {os : OsState}
variable {nm q : PySem.Str} {C N : Addr} {bs bm bmB : List Value} {hdct : Bool} {sn : List PySem.Str} {sub : List Value} {ab : Bool} {col : Option Bool} {dd : Option Addr} {k0 k1 k2 k3 k5 : Option Value} {B Bn newId nid initId inN : String} {bmN : List Value}
theorem type_call_initU (F : ExcBaseFacts B newId initId bmB) (T : OwnTail h bmB bm) {mN : PySem.Str → Option Value} {rest : List Value} {fI : Addr} {oI : Obj} {Q : Fin → Shared → Prop}
    (hC : h.get? C = some (excClassObj nm q C N bs bm hdct sn sub ab col dd k0 k1 k2 k3 k5 newId)) (hn : h.Ns N mN) (hi : mN "__init__" = some (.ref fI))
    (hfI : h.get? fI = some oI) (hfc : oI.cls = .type "function")
    (hq : ∀ h' e, Heap.MadeExcOf h h' e (.ref C) rest →
      wpAny (model prog w) A (call (.ref fI) (.ref e :: rest)) (fun r s' => r = .none ∧ Q (.done (.ret (.ref e))) s') E ⟨h', g, d, t, os⟩) (hrest : rest.length ≤ sizeLine := by size_fits) :
    wpAny (model prog w) A (Builtin.«type.__call__» ⟨.ref C :: rest, []⟩) Q E ⟨h, g, d, t, os⟩ := by
  repeat (first | with_reducible refine wpAny_loadPart_at hC ?_ | with_reducible refine wpAny_madeBy_exc hC ?_ | wp_step)
  refine codeAny_call_builtin_code (Code.quiet_builtin _ F.quiet) (wpAny_check_new_subU F F.hasB T hC ?_)
  refine codeAny_exc_new_subU F F.hasB F T hC ?_ hrest
  show wpAny _ _ _ _ _ _
  have hC₁ := Heap.get?_push_of_some { cls := .ref C, data := .fields #[.ref h.objs.size, .none, .none, .none, .bool false, .none] }
    (Heap.get?_push_of_some { cls := .type "tuple", data := .seq rest.toArray } hC)
  have hfI₁ := Heap.get?_push_of_some { cls := .ref C, data := .fields #[.ref h.objs.size, .none, .none, .none, .bool false, .none] }
    (Heap.get?_push_of_some { cls := .type "tuple", data := .seq rest.toArray } hfI)
  have hn₁ : ((h.push { cls := .type "tuple", data := .seq rest.toArray }).push { cls := .ref C, data := .fields #[.ref h.objs.size, .none, .none, .none, .bool false, .none] }).Ns N mN :=
    let ⟨o, es, ep, e, r⟩ := hn; ⟨o, es, ep, Heap.get?_push_of_some _ (Heap.get?_push_of_some _ e), r⟩
  have hget : ((h.push { cls := .type "tuple", data := .seq rest.toArray }).push
      { cls := .ref C, data := .fields #[.ref h.objs.size, .none, .none, .none, .bool false, .none] }).get? (h.objs.size + 1) = some
      { cls := .ref C, data := .fields #[.ref h.objs.size, .none, .none, .none, .bool false, .none] } := by heap_get
  have hcC : (Value.ref C :: bm).contains (.ref C) = true := by simp
  have T₁ := T.keeps (h' := (h.push { cls := .type "tuple", data := .seq rest.toArray }).push { cls := .ref C, data := .fields #[.ref h.objs.size, .none, .none, .none, .bool false, .none] })
    fun b o e => Heap.get?_push_of_some _ (Heap.get?_push_of_some _ e)
  unfold isInstance
  repeat (first | with_reducible refine wpAny_loadPart_at hget ?_ | (with_reducible refine wpAny_isSubtype_exc hC₁ ?_; rw [hcC]) | wp_step)
  show wpAny _ _ (typeLookup (.ref C) _) _ _ _
  refine wpAny_typeLookup_tail hC₁ hn₁ T₁ F.mroIs F.init.lookup ?_
  rw [hi]
  refine wpAny_holding (wpAny_bind ?_)
  unfold bindSpecial
  refine wpAny_bind (wpAny_typeOf (T := "function") ⟨_, hfI₁, hfc⟩ ?_)
  rw [if_pos (by decide)]
  refine wpAny_pure (wpAny_bind (wpAny_mono (hq _ (h.objs.size + 1) ⟨fun b o hb => Heap.get?_push_of_some _ (Heap.get?_push_of_some _ hb), Heap.get?_none_of_le (Nat.le_succ _), h.objs.size, hget, Heap.get?_none_of_le (Nat.le_refl _), ?_⟩) (fun r s' hr => ?_) fun _ _ x => x))
  · exact Heap.get?_push_of_some _ (Heap.get?_push_at rfl rfl)
  · obtain ⟨rfl, hQ⟩ := hr
    wp_walk
    exact hQ
theorem call_initU (F : ExcBaseFacts B newId initId bmB) (T : OwnTail h bmB bm) {mN : PySem.Str → Option Value} {rest : List Value} {fI : Addr} {oI : Obj} {Q : Value → Shared → Prop}
    (hC : h.get? C = some (excClassObj nm q C N bs bm hdct sn sub ab col dd k0 k1 k2 k3 k5 newId)) (hn : h.Ns N mN) (hi : mN "__init__" = some (.ref fI))
    (hfI : h.get? fI = some oI) (hfc : oI.cls = .type "function")
    (hq : ∀ h' e, Heap.MadeExcOf h h' e (.ref C) rest →
      wpAny (model prog w) (A.under (.builtin "type.__call__" ⟨.ref C :: rest, []⟩)) (call (.ref fI) (.ref e :: rest)) (fun r s' => r = .none ∧ Q (.ref e) s') E ⟨h', g, d, t, os⟩) (hrest : rest.length ≤ sizeLine := by size_fits) :
    wpAny (model prog w) A (call (.ref C) rest) Q E ⟨h, g, d, t, os⟩ := by
  have f1 := tc_lookup
  have f2 := tc_bind (.ref C)
  have hT : (⟨h, g, d, t, os⟩ : Shared).TypeIs (.ref C) "type" := ⟨_, hC, rfl⟩
  refine wpAny_call (codeAny_of_tree ?_)
  show wpAny _ _ (callAny (.ref C) _) _ _ _
  repeat (any_goals (first | assumption | with_reducible refine wpAny_loadPart_at hC ?_ | wp_step))
  refine ⟨rfl, ?_⟩
  refine codeAny_call_builtin_at (Code.quiet_builtin _ (by decide +kernel)) entry_typeCall (wpAny_check_type_call_sub hC (type_call_initU (hrest := hrest) F T hC hn hi hfI hfc fun h' e hm => ?_))
  exact hq h' e hm
end
end Mine
end X2_part
section X4_part
open PySem PySem.W PySem.W.X PySem.Calls PyProof.Rows
set_option Elab.async false
set_option maxRecDepth 100000
set_option maxHeartbeats 4000000
set_option linter.unusedVariables false
namespace Mine
noncomputable def mwO (e : Addr) : Obj := ⟨.type "method-wrapper", none, .fields #[.builtin "Exception.__init__", .ref e], #[]⟩
noncomputable abbrev o46r (P : Params) : Obj := ⟨.type "type", none, .cls ⟨"EncodingError", [.ref (nat_lit 24)], [.ref (nat_lit 46), .ref (nat_lit 24), .type "Exception", .type "BaseException", .type "object"], (nat_lit 45), "EncodingError", true, [], [], false, none, false⟩, #[some (.ref (nat_lit 28)), none, some (.str "EncodingError" 209), some (.str "EncodingError" 217), some (.builtin "Exception.__new__"), some (.bool true)]⟩
section
variable {prog : Program} {w : World} {h : Heap} {g : Array GenState} {d : Drawn} {tk : Nat} {os : OsState} {P : Params}
theorem wd_get {e : Addr} {oe : Array Value} (x46 : h.get? (nat_lit 46) = some (o46r P)) (he : h.get? e = some ⟨.ref (nat_lit 46), none, .fields oe, #[]⟩) :
    wpAny (model prog w) Amax (call (.builtin "wrapper_descriptor.__get__") [.builtin "Exception.__init__", .ref e, .ref (nat_lit 46)]) (fun r s' => Keeps ⟨h, g, d, tk, os⟩ s' ∧ ∃ b, r = .ref b ∧ s'.heap.get? b = some (mwO e)) (fun _ _ => False) ⟨h, g, d, tk, os⟩ := by
  unfold o46r at x46
  unfold mwO
  x_run
end
end Mine
end X4_part
section X5_part
open PySem PySem.W PySem.Calls PyProof.Rows
set_option Elab.async false
set_option maxRecDepth 100000
set_option maxHeartbeats 4000000
namespace Mine
theorem kind_exc_init : builtinKind "Exception.__init__" = some .slot := by kernel_rfl
theorem wd_lookup : typeLookup (.type "wrapper_descriptor") "__get__" = pure (some (.builtin "wrapper_descriptor.__get__")) := by rw [typeLookup_type, builtinLookup_eq_fast]; kernel_rfl
noncomputable def K46 (P : Params) : Frag := [(46, o46 P), (24, o24 P), (23, o23 P), (45, o45 P), (2, o2 P)]
section
variable {prog : Program} {w : World} {h : Heap} {g : Array GenState} {d : Drawn} {t : Nat} {os : OsState} {G : Glo} {A : Around} {E : Value → Shared → Prop}
theorem K46_in (W : Wld w G h.get?) : (K46 w.params).In h := Frag.in_of rfl (by simp only [K46, List.map_cons, List.map_nil, W.c46, W.c24, W.c23, W.c45, W.stat])
theorem amaxA {α : Type} {M : Model} {t : Sem α} {Q : α → Shared → Prop} {s : Shared} (h : wpAny M Amax t Q E s) (hh : A.handled = none) (hd : A.depth ≤ 900) (hu : A.units ≤ 9000) : wpAny M A t Q E s := amax h hh hd hu
theorem super_ga46 {so e : Addr} {oe : Array Value} {tok : Tok} {Q : Fin → Shared → Prop} (W : Wld w G h.get?) (hh : A.handled = none) (hd : A.depth ≤ 900) (hu : A.units ≤ 9000)
    (hso : h.get? so = some { cls := .type "super", dict := none, data := .fields #[.ref 46, .ref e, .ref 46], slots := #[] }) (he : h.get? e = some ⟨.ref 46, none, .fields oe, #[]⟩) (he46 : e ≠ 46)
    (hq : ∀ h' tk b, (∀ y o, h.get? y = some o → h'.get? y = some o) → h'.get? b = some (mwO e) → Q (.done (.ret (.ref b))) ⟨h', g, d, tk, os⟩) :
    wpAny (model prog w) A (Builtin.«super.__getattribute__» ⟨[.ref so, .str "__init__" tok], []⟩) Q E ⟨h, g, d, t, os⟩ := by
  have X := K46_in W
  have hne : (Value.ref e == Value.ref 46) = false := by simp [he46]
  have hno : Looks (model prog w) h (opaqueClassAbove (.ref 46)) none := Looks.of_peek X (by kernel_rfl)
  have hC : Looks (model prog w) h (mroOf (.ref 46)) [.ref 46, .ref 24, .type "Exception", .type "BaseException", .type "object"] := Looks.of_peek X (by kernel_rfl)
  have hf : alongIn (K46 w.params) "__init__" [.ref 24, .type "Exception", .type "BaseException", .type "object"] = some (some (.builtin "Exception.__init__")) := by kernel_rfl
  have hdt : ({ cls := .type "super", dict := none, data := .fields #[.ref 46, .ref e, .ref 46], slots := #[] } : Obj).data = .fields #[.ref 46, .ref e, .ref 46] := rfl
  have f0 : (#[.ref 46, .ref e, .ref 46] : Array Value)[0]? = some (.ref 46) := rfl
  have f1 : (#[.ref 46, .ref e, .ref 46] : Array Value)[1]? = some (.ref e) := rfl
  have f2 : (#[.ref 46, .ref e, .ref 46] : Array Value)[2]? = some (.ref 46) := rfl
  have hl : ([.ref 46, .ref 24, .type "Exception", .type "BaseException", .type "object"].dropWhile (· != Value.ref 46)).drop 1 = [.ref 24, .type "Exception", .type "BaseException", .type "object"] := by decide
  unfold Builtin.«super.__getattribute__»
  repeat (first
    | (with_reducible refine wpAny_field hso hdt f0 ?_) | (with_reducible refine wpAny_field hso hdt f1 ?_) | (with_reducible refine wpAny_field hso hdt f2 ?_)
    | (with_reducible refine ks_wpAny_notOpaque hno ?_)
    | (with_reducible refine Looks.at hC ?_; rw [hl])
    | (refine ks_forIn_along X (fun _ _ => rfl) rfl ?_ hf)
    | (simp only [hne, Bool.or_false, Bool.false_eq_true, if_false])
    | wp_step
    | dsimp only)
  rw [kind_exc_init]
  refine wpAny_of_eq wd_lookup ?_
  dsimp only
  refine wpAny_bind (wpAny_holding (wpAny_mono (amaxA (wd_get (P := w.params) W.c46 he) hh hd hu) (fun r s' h' => ?_) fun _ _ z => z.elim))
  obtain ⟨⟨h', tk', rfl, k'⟩, b, rfl, hb⟩ := h'
  exact wpAny_pure (wpAny_pure (hq h' tk' b k' hb))
theorem super_meth46 {so e : Addr} {oe : Array Value} {pl : Sem Bool} {Q : Value × List Value → Shared → Prop} (W : Wld w G h.get?) (hh : A.handled = none) (hd : A.depth ≤ 898) (hu : A.units ≤ 8990)
    (hso : h.get? so = some { cls := .type "super", dict := none, data := .fields #[.ref 46, .ref e, .ref 46], slots := #[] }) (he : h.get? e = some ⟨.ref 46, none, .fields oe, #[]⟩) (he46 : e ≠ 46)
    (hq : ∀ h' tk b, (∀ y o, h.get? y = some o → h'.get? y = some o) → h'.get? b = some (mwO e) → Q (.ref b, []) ⟨h', g, d, tk, os⟩) :
    wpAny (model prog w) A (getMethod (.ref so) "__init__" pl) Q E ⟨h, g, d, t, os⟩ := by
  have hlk := PySem.F.ks_slot_super_ga.lookup
  have hcan := PySem.F.ks_canon_super_ga
  have hT : ∀ t', (⟨h, g, d, t', os⟩ : Shared).TypeIs (.ref so) "super" := fun _ => ⟨_, hso, rfl⟩
  unfold getMethod
  refine wpAny_bind (wpAny_specialOf (hT _) hlk ?_)
  show wpAny _ _ (if (Manifest.canonical "super.__getattribute__" != "object.__getattribute__") = true then _ else _) _ _ _
  rw [if_pos hcan]
  unfold getAttr getAttrBy
  refine wpAny_bind (wpAny_bind (wpAny_mkText (wpAny_holding (wpAny_bind (wpAny_typeOf (hT _) (wpAny_bind (wpAny_of_eq hlk ?_)))))))
  show wpAny _ _ (getAttrByItsOwn (.ref so) (.str "__init__" t) (.type "super") (.builtin "super.__getattribute__") true false) _ _ _
  unfold getAttrByItsOwn hookBefore callGetattribute boundAndCalled
  refine wpAny_bind (wpAny_of_eq (show (if onTheHeap (.type "super") then typeLookup (.type "super") "__getattr__" else pure none) = pure none from rfl) ?_)
  refine wpAny_bind (wpAny_attempt (wpAny_holding ?_))
  show wpAny _ _ (bindSpecial (.builtin "super.__getattribute__") (.ref so) >>= _) _ _ _
  refine wpAny_bind (wpAny_of_eq (PySem.F.ks_slot_super_ga.bind _) ?_)
  refine wpAny_mono (Q := fun v s' => ∃ h' tk b, (∀ y o, h.get? y = some o → h'.get? y = some o) ∧ h'.get? b = some (mwO e) ∧ v = .ref b ∧ s' = ⟨h', g, d, tk, os⟩) (E := fun _ _ => False)
    (wpAny_call_entry PySem.F.ks_slot_super_ga (hT _) PySem.F.ks_entry_super_ga (super_ga46 W hh (by show A.in1.depth ≤ 900; simp only [Around.in1]; (clear hcan he he46 hh hlk hso hu; omega)) (by show A.in1.units ≤ 9000; simp only [Around.in1]; (clear hcan hd he he46 hh hlk hso; omega)) hso he he46 fun h' tk b k hb => ⟨_, rfl, h', tk, b, k, hb, rfl, rfl⟩) (PySem.F.ks_gaArgs_super _ _)) (fun v s' hv => ?_) fun _ _ z => z.elim
  obtain ⟨h', tk, b, k, hb, rfl, rfl⟩ := hv
  exact wpAny_pure (wpAny_pure (hq h' tk b k hb))
end
end Mine
end X5_part
section X6_part
open PySem PySem.W PySem.Calls PyProof.Rows
set_option Elab.async false
set_option maxRecDepth 100000
set_option maxHeartbeats 4000000
namespace Mine
section
variable {prog : Program} {w : World} {h : Heap} {g : Array GenState} {d : Drawn} {t : Nat} {os : OsState} {G : Glo} {A : Around} {E : Value → Shared → Prop}
theorem kw_mw {pos : Pos} {u e : Addr} {first : List Value} {args : List (Bool × Sem Value)} {Q : Value → Shared → Prop} {s : Shared} (hplain : args.any (·.1) = false)
    (h : wpAny (model prog w) A (evalArgs (.ref u) true args []) (fun x s₁ => s₁.heap.get? u = some (mwO e) ∧ wpAny (model prog w) A (call (.ref u) (first ++ x.pos) x.kw) Q E s₁) E s) : wpAny (model prog w) A (callWith pos (.ref u) first args []) Q E s := by
  unfold callWith
  refine wpAny_bind (wpAny_holding (wpAny_mono h (fun x s₁ h₁ => wpAny_bind (wpAny_standAt ?_)) fun _ _ x => x))
  obtain ⟨ho, hcall⟩ := h₁
  simp only [hplain, List.any_nil, Bool.or_false]
  refine wpAny_bind (m := keeperOf (.ref u)) ?_
  unfold keeperOf
  refine wpAny_bind (wpAny_load ho ?_)
  simp only [mwO, show (Value.type "method-wrapper" != Value.type "method") = true by decide, show (Value.type "method-wrapper" == Value.type "builtin_function_or_method" || Value.type "method-wrapper" == Value.type "method-wrapper") = true by decide, if_true]
  refine wpAny_pure ?_
  exact wpAny_bind (wpAny_mono hcall (fun r s₂ hr => wpAny_bind (wpAny_holding (wpAny_point (wpAny_pure hr)))) fun _ _ x => x)
theorem mw_call {u e T : Addr} {msg : PySem.Str} {t1 : Tok} {Q : Value → Shared → Prop} (W : Wld w G h.get?) (hu : h.get? u = some (mwO e)) (he : h.get? e = some { cls := .ref 46, data := .fields #[.ref T, .none, .none, .none, .bool false, .none] })
    (hq : ∀ h' T', h'.get? e = some { cls := .ref 46, data := .fields #[.ref T', .none, .none, .none, .bool false, .none] } → (∀ b o, b ≠ e → h.get? b = some o → h'.get? b = some o) → Q .none ⟨h', g, d, t, os⟩) :
    wpAny (model prog w) A (call (.ref u) [.str msg t1]) Q E ⟨h, g, d, t, os⟩ := by
  refine wpAny_call (codeAny_of_tree ?_)
  show wpAny _ A.in1 (callAny (.ref u) _) _ _ _
  unfold callAny
  refine wpAny_bind (wpAny_load hu ?_)
  simp only [mwO, show (Value.type "method-wrapper" == Value.type "method" || Value.type "method-wrapper" == Value.type "builtin_function_or_method" || Value.type "method-wrapper" == Value.type "method-wrapper") = true by decide, if_true]
  show wpAny _ _ (checkBoundCall "Exception.__init__" ⟨[.ref e, .str msg t1], []⟩ >>= fun _ => again (.builtin "Exception.__init__" ⟨[.ref e, .str msg t1], []⟩)) _ _ _
  refine wpAny_bind ?_
  unfold checkBoundCall
  have hC := W.c46
  unfold o46 at hC
  rw [PySem.F.excBase_Exception.initRow, kind_exc_init]
  dsimp only
  rw [if_pos (by decide)]
  unfold Bind.checkArgs
  repeat (first | (with_reducible refine wpAny_loadPart_at he ?_) | with_reducible refine wpAny_loadPart_at hC ?_ | wp_step)
  refine ⟨Code.quiet_builtin _ (by decide +kernel), codeAny_builtin PySem.F.excBase_Exception.initEntry ?_⟩
  show wpAny _ _ (newTuple [.str msg t1] >>= fun tu => Builtin.BaseException.bexcPut (.ref e) 0 tu >>= fun _ => ret .none) _ _ _
  unfold newTuple
  refine wpAny_bind (wpAny_newObj_type ?_ (by size_fits))
  have he1 := Heap.get?_push_of_some { cls := .type "tuple", data := .seq [Value.str msg t1].toArray } he
  refine wpAny_bind ?_
  unfold Builtin.BaseException.bexcPut
  refine wpAny_bind (wpAny_field he1 rfl (x := .ref T) rfl ?_)
  refine wpAny_bind (wpAny_setField_rec he1 (by simp) fun h2 e2 s2 => ?_)
  dsimp only
  refine wpAny_letGo ?_
  refine wpAny_pure (hq h2 h.objs.size ?_ fun b o hb eb => s2.extBut b o hb (Heap.get?_push_of_some _ eb))
  rw [e2]
  simp
theorem check_sa46 {M : Model} {e : Addr} {oe : Obj} {nameV v : Value} {Q : Unit → Shared → Prop} (W : Wld w G h.get?) (he : h.get? e = some oe) (hc : oe.cls = .ref 46) (hq : Q () ⟨h, g, d, t, os⟩) :
    wpAny M A (checkBuiltinCall "object.__setattr__" ⟨[.ref e, nameV, v], []⟩) Q E ⟨h, g, d, t, os⟩ := by
  have hcB : ([Value.ref 46, .ref 24, .type "Exception", .type "BaseException", .type "object"].contains (.type "object")) = true := by decide
  have ha := PySem.F.store_Exception.args (.ref e) nameV v
  simp only [checkBuiltinCall, PySem.F.store_Exception.kind, PySem.F.store_Exception.split]
  refine wpAny_bind ?_
  unfold isInstance
  refine wpAny_bind (wpAny_typeOf_ref he ?_)
  rw [hc]
  refine isSub_46 W.c46 ?_
  rw [hcB]
  simp only [Bool.not_true, Bool.false_eq_true, if_false]
  cases hsig : Manifest.signature? "object.__setattr__" with
  | none => exact wpAny_pure hq
  | some sig =>
    simp only [argsOk, hsig] at ha
    have h2 : Bind.checkArgs "object.__setattr__" sig ⟨[.ref e, nameV, v], []⟩ = pure () := ha
    show wpAny M A (Bind.checkArgs "object.__setattr__" sig ⟨[.ref e, nameV, v], []⟩) Q E _
    rw [h2]; exact wpAny_pure hq
open Builtin Builtin.ObjectAttr in
theorem sa_run {e T : Addr} {v : Value} {tk : Tok} {Q : Fin → Shared → Prop} (W : Wld w G h.get?) (he : h.get? e = some { cls := .ref 46, data := .fields #[.ref T, .none, .none, .none, .bool false, .none] })
    (hq : ∀ h' tk dd vs, h'.get? e = some { cls := .ref 46, dict := dd, data := .fields vs } → vs[1]? = some .none → (∀ b o, b ≠ e → h.get? b = some o → h'.get? b = some o) → Q (.done (.ret .none)) ⟨h', g, d, tk, os⟩) :
    wpAny (model prog w) A (Builtin.«object.__setattr__» ⟨[.ref e, .str "obj" tk, v], []⟩) Q E ⟨h, g, d, t, os⟩ := by
  have X := K46_in W
  have hpass := PySem.F.store_Exception.passes (.ref e)
  have hC : Looks (model prog w) h (mroOf (.ref 46)) [.ref 46, .ref 24, .type "Exception", .type "BaseException", .type "object"] := Looks.of_peek X (by kernel_rfl)
  have hL : Looks (model prog w) h (typeLookup (.ref 46) "obj") none := Looks.of_peek X (by kernel_rfl)
  have hcd : Looks (model prog w) h (classData 46) (match (o46 w.params).data with | .cls c => c | _ => default) := Looks.of_peek X (by kernel_rfl)
  obtain ⟨o, hx, hc, hdn, hdat, hsl⟩ : ∃ o, h.get? e = some o ∧ o.cls = .ref 46 ∧ o.dict = none ∧ o.data = .fields #[.ref T, .none, .none, .none, .bool false, .none] ∧ o.slots = #[] := ⟨_, he, rfl, rfl, rfl, rfl⟩
  clear he
  unfold Builtin.«object.__setattr__»
  repeat (first | rw [refuse_eq] | (rw [refuseLoop_ref, refuseLoop_ref, hpass]) | (with_reducible refine wpAny_loadPart_at hx ?_; rw [hc]) | with_reducible refine Looks.at hC ?_ | (with_reducible refine Looks.at hL ?_) | (with_reducible refine Looks.at hcd ?_) | wp_step)
  rw [hdn, if_neg (by simp [typeHasDict])]
  split
  · rename_i hcd
    cases hcd
  split
  · rename_i c hcd
    rw [hdat] at hcd; cases hcd
  · have hx₁ : (h.push { cls := .type "dict", data := .dict #[] }).get? e = some o := Heap.get?_push_of_some _ hx
    have hxs : e ≠ h.objs.size := Nat.ne_of_lt (Heap.lt_size hx)
    refine wpAny_bind (wpAny_alloc' ?_)
    refine wpAny_bind (wpAny_update' hx₁ ?_)
    refine wpAny_pure ?_
    have hgd : ((h.push { cls := .type "dict", data := .dict #[] }).update e fun o => { cls := o.cls, dict := some h.objs.size, data := o.data, slots := o.slots }).get? h.objs.size
        = some { cls := .type "dict", data := .dict #[] } :=
      (Heap.get?_update_ne _ _ _ _ hxs.symm).trans (Heap.get?_push_at rfl rfl)
    have hnd : ((h.push { cls := .type "dict", data := .dict #[] }).update e fun o => { cls := o.cls, dict := some h.objs.size, data := o.data, slots := o.slots }).Ns h.objs.size (fun _ => none) :=
      ⟨_, #[], _, hgd, rfl, fun e he => absurd he (by simp), fun _ => rfl⟩
    show wpAny _ _ (storeInDict h.objs.size (.str "obj" tk) "obj" v) _ _ _
    unfold storeInDict newKeyGuard
    refine wpAny_bind (wpAny_pure (wpAny_bind (wpAny_nsSet1 (Heap.Ns1.of_empty hnd) fun h' hn' hs => ?_)))
    obtain ⟨oD, esD, epD, hoD, hdD, hcD⟩ := hn'.count (Within.cons "obj" v Within.nil)
    refine wpAny_bind (wpAny_lookBehind hoD (by rw [hdD]; exact pastItsLine_dict (Nat.le_trans hcD (by rw [List.length_cons, List.length_nil, sizeLine_eq]; (clear hcD hdn hgd hoD hpass hsl hx hxs hx₁; omega)))) ?_)
    wp_walk
    refine hq h' _ (some h.objs.size) #[.ref T, .none, .none, .none, .bool false, .none] ?_ rfl (fun b ob hbx hb => ?_)
    · refine (hs.2 e hxs).trans ((Heap.get?_update_self _ hx₁ ?_).trans ?_)
      · rw [hdat]; rfl
      · rw [hc, hdat, hsl]
    · exact (hs.2 b (Nat.ne_of_lt (Heap.lt_size hb))).trans ((Heap.get?_update_ne _ _ _ _ hbx).trans (Heap.get?_push_of_some _ hb))
theorem set_obj {e T : Addr} {v : Value} {Q : Unit → Shared → Prop} (W : Wld w G h.get?) (he : h.get? e = some { cls := .ref 46, data := .fields #[.ref T, .none, .none, .none, .bool false, .none] })
    (hq : ∀ h' tk dd vs, h'.get? e = some { cls := .ref 46, dict := dd, data := .fields vs } → vs[1]? = some .none → (∀ b o, b ≠ e → h.get? b = some o → h'.get? b = some o) → Q () ⟨h', g, d, tk, os⟩) :
    wpAny (model prog w) A (setAttr (.ref e) "obj" v) Q E ⟨h, g, d, t, os⟩ := by
  have X := K46_in W
  unfold setAttr
  refine wpAny_bind (wpAny_mkText ?_)
  refine wpAny_bind ?_
  unfold callSpecial?
  refine wpAny_bind ?_
  unfold specialOf
  refine wpAny_bind (wpAny_typeOf_ref he ?_)
  dsimp only
  refine Looks.at (Looks.of_peek (r := some (.builtin "object.__setattr__")) X (by kernel_rfl)) ?_
  dsimp only
  refine wpAny_holding (wpAny_bind (wpAny_of_eq (PySem.F.store_Exception.slot.bind (.ref e)) ?_))
  dsimp only
  refine wpAny_bind (wpAny_call (codeAny_call_builtin PySem.F.store_Exception.slot.plain PySem.F.store_Exception.entry (check_sa46 W he rfl (sa_run W he fun h' tk dd vs e1 e2 e3 => ?_))))
  exact wpAny_pure (wpAny_pure (hq h' tk dd vs e1 e2 e3))
end
end Mine
end X6_part
section X3_part
open PySem PySem.W PySem.Calls PyProof.Rows
set_option Elab.async false
set_option maxRecDepth 100000
set_option maxHeartbeats 4000000
namespace Mine
noncomputable def ExcR (c : Nat) (s s' : Shared) (r : Value) : Prop := Keeps s s' ∧ ∃ e oe vs, r = .ref e ∧ s.heap.get? e = none ∧ s'.heap.get? e = some oe ∧ oe.cls = .ref c ∧ oe.data = .fields vs ∧ vs[1]? = some .none
theorem blt_super (P : Params) : lookE "super" (bltE P) = some (.type "super") := by kernel_rfl
theorem glo_super (G : Glo) (w : World) : lookE "super" (G.e31 w) = none := by kernel_rfl
section
variable {w : World} {h : Heap} {g : Array GenState} {d : Drawn} {tk : Nat} {os : OsState} {G : Glo} {A : Around}
theorem ns23 (W : Wld w G h.get?) : h.Ns 23 (fun x => lookE x (dEnts (o23 w.params).data)) := ns_of_dict (n := 3) W.c23 (isStrE_all (by kernel_rfl))
theorem ns45 (W : Wld w G h.get?) : h.Ns 45 (fun x => lookE x (dEnts (o45 w.params).data)) := ns_of_dict (n := 3) W.c45 (isStrE_all (by kernel_rfl))
theorem tail46 (W : Wld w G h.get?) : OwnTail h [.type "Exception", .type "BaseException", .type "object"] [.ref 24, .type "Exception", .type "BaseException", .type "object"] :=
  .own W.c24 (ns23 W) (by kernel_rfl) .base
theorem init_46 {h0 : Heap} (W0 : Wld w G h0.get?) (k0 : ∀ b o, h0.get? b = some o → h.get? b = some o) (hh : A.handled = none) (hA : A.depth ≤ 880) (hu : A.units ≤ 8900) {msg : PySem.Str} {t1 : Tok} {v : Value} {e : Addr} (hn0 : h0.get? e = none) {T : Addr} (he : h.get? e = some { cls := .ref 46, data := .fields #[.ref T, .none, .none, .none, .bool false, .none] }) :
    wpAny (model pw w) A (call (.ref 43) [.ref e, .str msg t1, v]) (fun r s' => r = .none ∧ ∃ h' tk', s' = ⟨h', g, d, tk', os⟩ ∧ (∀ b o, b ≠ e → h.get? b = some o → h'.get? b = some o) ∧ ∃ oe vs, h'.get? e = some oe ∧ oe.cls = .ref 46 ∧ oe.data = .fields vs ∧ vs[1]? = some .none) (fun _ _ => False) ⟨h, g, d, tk, os⟩ := by
  have W := W0.keeps k0
  have he46 : e ≠ 46 := by rintro rfl; rw [show h0.get? 46 = _ from W0.c46] at hn0; cases hn0
  refine wpAny_call (ks_codeAny_call_defAt (binds := [("self", .ref e), ("message", .str msg t1), ("obj", v)]) (by show A.depth < 1000; (clear he he46 hh hn0 hu; omega)) W.c43 rfl W.limit ⟨42, _, _, 222, rfl, W.c42, rfl, rfl⟩ rfl (.of_eq rfl) (by decide) (locs rfl) fun h₁ n₁ k₁ => ?_)
  dsimp only at k₁ n₁ ⊢
  have W₁ := W.keeps k₁
  have he₁ := k₁ _ _ he
  refine ks_wpAt_execs_cons (ks_wpAt_Expr_any (ks_wpAt_MethodCall (ks_wpAt_super_base (f := 43) (cc := 42) rfl rfl rfl rfl (k₁ _ _ W.c43) rfl rfl rfl (k₁ _ _ W.c42) rfl rfl (by decide) (by rfl) ?_)))
  refine ks_loadName_global rfl rfl (loadGlobal_builtin (mg := fun x => lookE x (G.e31 w)) (mb := fun x => lookE x (bltE w.params)) W₁.mg (glo_super _ _) W₁.mb (blt_super _) ⟨rfl, ?_⟩)
  refine wpAny_loadName_free rfl rfl rfl ⟨_, W₁.c31, rfl⟩ ?_
  refine wpAny_loadName_local rfl rfl n₁ rfl ?_
  refine ks_wpAny_isType_cls W₁.c46 rfl ⟨rfl, ?_⟩
  refine ks_wpAny_call_super W₁.c46 rfl he₁ rfl (fun c hc => by cases hc) (Looks.of_peek (K46_in W₁) (by kernel_rfl)) fun h₂ e₂ k₂ => ?_
  have W₂ := W₁.keeps k₂
  refine super_meth46 W₂ hh (by show A.depth + 1 ≤ 898; (clear e₂ he he46 he₁ hh hn0 hu; omega)) (by show A.units + 3 ≤ 8990; (clear e₂ hA he he46 he₁ hh hn0; omega)) e₂ (k₂ _ _ he₁) he46 fun h₃ t₃ b k₃ e₃ => ?_
  have n₃ := (n₁.keeps k₂).keeps k₃
  refine kw_mw rfl (evalArgs_plain (spliced_cons (wpAny_Name (wpAny_loadName_local rfl rfl n₃ rfl (spliced_nil ⟨e₃, ?_⟩)) (by decide))))
  refine mw_call (W₂.keeps k₃) e₃ (k₃ _ _ (k₂ _ _ he₁)) fun h₄ T' e₄ k₄ => ?_
  have hLe : h.objs.size ≠ e := Nat.ne_of_gt (Heap.lt_size he)
  have k34 : ∀ b o, b ≠ e → h₁.get? b = some o → h₄.get? b = some o := fun b o hb eb => k₄ b o hb (k₃ b o (k₂ b o eb))
  have n₄ := n₃.at' fun o eo => k₄ _ o hLe eo
  have W₄ : Wld w G h₄.get? := W0.keeps fun b o eb => k34 b o (by rintro rfl; rw [hn0] at eb; cases eb) (k₁ b o (k0 b o eb))
  dsimp only
  refine ks_wpAt_execs_cons (ks_wpAt_Assign_Attr (wpAt_of_wpAny (wpAny_Name (wpAny_loadName_local rfl rfl n₄ rfl (wpAny_Name (wpAny_loadName_local rfl rfl n₄ rfl (set_obj W₄ e₄ fun h₅ t₅ dd vs e₅ v₅ k₅ => ?_)) (by decide))) (by decide))))
  dsimp only
  refine wpAt_of_wpAny (wpAny_execs_nil ?_)
  exact ⟨rfl, h₅, t₅, rfl, fun b o hb eb => k₅ b o hb (k34 b o hb (k₁ b o eb)), _, vs, e₅, rfl, rfl, v₅⟩
theorem under_tc (A : Around) (a : Addr) (args : List Value) : (A.under (.builtin "type.__call__" ⟨.ref a :: args, []⟩)).depth ≤ A.depth + 1 ∧ (A.under (.builtin "type.__call__" ⟨.ref a :: args, []⟩)).units ≤ A.units + 1 := by
  refine ⟨?_, ?_⟩
  · show A.depth + Code.weight (.builtin "type.__call__" ⟨.ref a :: args, []⟩) ≤ A.depth + 1
    have : Code.weight (.builtin "type.__call__" ⟨.ref a :: args, []⟩) ≤ 1 := by
      exact Nat.le_of_eq (by kernel_rfl)
    omega
  · show A.units + Code.cUnits (.builtin "type.__call__" ⟨.ref a :: args, []⟩) ≤ A.units + 1
    have : Code.cUnits (.builtin "type.__call__" ⟨.ref a :: args, []⟩) ≤ 1 := by
      exact Nat.le_of_eq (by kernel_rfl)
    omega
theorem mk_46 (W : Wld w G h.get?) (hh : A.handled = none) (hA : A.depth ≤ 870) (hu : A.units ≤ 8800) {msg : PySem.Str} {t1 : Tok} {v : Value} :
    wpAny (model pw w) A (call (.ref 46) [.str msg t1, v]) (fun r s' => ExcR 46 ⟨h, g, d, tk, os⟩ s' r) (fun _ _ => False) ⟨h, g, d, tk, os⟩ := by
  have hC := W.c46
  unfold o46 at hC
  refine call_initU PySem.F.excBase_Exception (tail46 W) hC (ns45 W) (fI := 43) (by kernel_rfl) W.c43 rfl fun h' e hm => ?_
  obtain ⟨T, he, _, _⟩ := hm.there
  refine wpAny_mono (init_46 (A := A.under (.builtin "type.__call__" ⟨[.ref 46, .str msg t1, v], []⟩)) W hm.keeps hh ?_ ?_ hm.new he) (fun r s' hr => ?_) fun _ _ z => z
  · have := (under_tc A 46 [.str msg t1, v]).1; (clear hC he hh hu; omega)
  · have := (under_tc A 46 [.str msg t1, v]).2; (clear hA hC he hh; omega)
  · obtain ⟨rfl, h₂, t₂, rfl, k₂, oe, vs, e1, e2, e3, e4⟩ := hr
    refine ⟨rfl, ⟨h₂, t₂, rfl, fun b o eb => k₂ b o (by rintro rfl; rw [show h.get? b = none from hm.new] at eb; cases eb) (hm.keeps b o eb)⟩, e, oe, vs, rfl, hm.new, e1, e2, e3, e4⟩
end
end Mine
end X3_part
section Y88_part
open PySem PySem.W PySem.W.X PySem.Calls PyProof.Rows
set_option Elab.async false
set_option maxRecDepth 100000
set_option maxHeartbeats 4000000
set_option linter.unusedVariables false
namespace Mine
section
variable {M : Model} {A : Around} {E : Value → Shared → Prop} {s : Shared}
theorem isSub_88 {P : Params} {base : Value} {Q : Bool → Shared → Prop} (h88 : s.heap.get? 88 = some (o88 P))
    (h : Q ([Value.ref 88, .ref 24, .type "Exception", .type "BaseException", .type "object"].contains base) s) : wpAny M A (isSubtype (.ref 88) base) Q E s := by
  obtain ⟨hp, g, d, t, os⟩ := s
  dsimp only at h88 h
  unfold o88 at h88
  unfold isSubtype
  repeat (any_goals (first | assumption | wp_step))
theorem isInst_88 {P : Params} {e : Addr} {ob : Obj} {base : Value} {Q : Bool → Shared → Prop} (he : s.heap.get? e = some ob) (hc : ob.cls = .ref 88) (h88 : s.heap.get? 88 = some (o88 P))
    (h : Q ([Value.ref 88, .ref 24, .type "Exception", .type "BaseException", .type "object"].contains base) s) : wpAny M A (isInstance (.ref e) base) Q E s := by
  unfold isInstance
  refine wpAny_bind (wpAny_typeOf_ref he ?_)
  rw [hc]
  exact isSub_88 h88 h
end
noncomputable abbrev o88r (P : Params) : Obj := ⟨.type "type", none, .cls ⟨"SerializationError", [.ref (nat_lit 24)], [.ref (nat_lit 88), .ref (nat_lit 24), .type "Exception", .type "BaseException", .type "object"], (nat_lit 87), "SerializationError", true, [], [], false, none, false⟩, #[some (.ref (nat_lit 70)), none, some (.str "SerializationError" 265), some (.str "SerializationError" 273), some (.builtin "Exception.__new__"), some (.bool true)]⟩
section
variable {prog : Program} {w : World} {h : Heap} {g : Array GenState} {d : Drawn} {tk : Nat} {os : OsState} {P : Params}
theorem wd_get88 {e : Addr} {oe : Array Value} (x88 : h.get? (nat_lit 88) = some (o88r P)) (he : h.get? e = some ⟨.ref (nat_lit 88), none, .fields oe, #[]⟩) :
    wpAny (model prog w) Amax (call (.builtin "wrapper_descriptor.__get__") [.builtin "Exception.__init__", .ref e, .ref (nat_lit 88)]) (fun r s' => Keeps ⟨h, g, d, tk, os⟩ s' ∧ ∃ b, r = .ref b ∧ s'.heap.get? b = some (mwO e)) (fun _ _ => False) ⟨h, g, d, tk, os⟩ := by
  unfold o88r at x88
  unfold mwO
  x_run
end
noncomputable def K88 (P : Params) : Frag := [(88, o88 P), (24, o24 P), (23, o23 P), (87, o87 P), (2, o2 P)]
section
variable {prog : Program} {w : World} {h : Heap} {g : Array GenState} {d : Drawn} {t : Nat} {os : OsState} {G : Glo} {A : Around} {E : Value → Shared → Prop}
theorem K88_in (W : Wld w G h.get?) : (K88 w.params).In h := Frag.in_of rfl (by simp only [K88, List.map_cons, List.map_nil, W.c88, W.c24, W.c23, W.c87, W.stat])
theorem super_ga88 {so e : Addr} {oe : Array Value} {tok : Tok} {Q : Fin → Shared → Prop} (W : Wld w G h.get?) (hh : A.handled = none) (hd : A.depth ≤ 900) (hu : A.units ≤ 9000)
    (hso : h.get? so = some { cls := .type "super", dict := none, data := .fields #[.ref 88, .ref e, .ref 88], slots := #[] }) (he : h.get? e = some ⟨.ref 88, none, .fields oe, #[]⟩) (he88 : e ≠ 88)
    (hq : ∀ h' tk b, (∀ y o, h.get? y = some o → h'.get? y = some o) → h'.get? b = some (mwO e) → Q (.done (.ret (.ref b))) ⟨h', g, d, tk, os⟩) :
    wpAny (model prog w) A (Builtin.«super.__getattribute__» ⟨[.ref so, .str "__init__" tok], []⟩) Q E ⟨h, g, d, t, os⟩ := by
  have X := K88_in W
  have hne : (Value.ref e == Value.ref 88) = false := by simp [he88]
  have hno : Looks (model prog w) h (opaqueClassAbove (.ref 88)) none := Looks.of_peek X (by kernel_rfl)
  have hC : Looks (model prog w) h (mroOf (.ref 88)) [.ref 88, .ref 24, .type "Exception", .type "BaseException", .type "object"] := Looks.of_peek X (by kernel_rfl)
  have hf : alongIn (K88 w.params) "__init__" [.ref 24, .type "Exception", .type "BaseException", .type "object"] = some (some (.builtin "Exception.__init__")) := by kernel_rfl
  have hdt : ({ cls := .type "super", dict := none, data := .fields #[.ref 88, .ref e, .ref 88], slots := #[] } : Obj).data = .fields #[.ref 88, .ref e, .ref 88] := rfl
  have f0 : (#[.ref 88, .ref e, .ref 88] : Array Value)[0]? = some (.ref 88) := rfl
  have f1 : (#[.ref 88, .ref e, .ref 88] : Array Value)[1]? = some (.ref e) := rfl
  have f2 : (#[.ref 88, .ref e, .ref 88] : Array Value)[2]? = some (.ref 88) := rfl
  have hl : ([.ref 88, .ref 24, .type "Exception", .type "BaseException", .type "object"].dropWhile (· != Value.ref 88)).drop 1 = [.ref 24, .type "Exception", .type "BaseException", .type "object"] := by decide
  unfold Builtin.«super.__getattribute__»
  repeat (first
    | (with_reducible refine wpAny_field hso hdt f0 ?_) | (with_reducible refine wpAny_field hso hdt f1 ?_) | (with_reducible refine wpAny_field hso hdt f2 ?_)
    | (with_reducible refine ks_wpAny_notOpaque hno ?_)
    | (with_reducible refine Looks.at hC ?_; rw [hl])
    | (refine ks_forIn_along X (fun _ _ => rfl) rfl ?_ hf)
    | (simp only [hne, Bool.or_false, Bool.false_eq_true, if_false])
    | wp_step
    | dsimp only)
  rw [kind_exc_init]
  refine wpAny_of_eq wd_lookup ?_
  dsimp only
  refine wpAny_bind (wpAny_holding (wpAny_mono (amaxA (wd_get88 (P := w.params) W.c88 he) hh hd hu) (fun r s' h' => ?_) fun _ _ z => z.elim))
  obtain ⟨⟨h', tk', rfl, k'⟩, b, rfl, hb⟩ := h'
  exact wpAny_pure (wpAny_pure (hq h' tk' b k' hb))
theorem super_meth88 {so e : Addr} {oe : Array Value} {pl : Sem Bool} {Q : Value × List Value → Shared → Prop} (W : Wld w G h.get?) (hh : A.handled = none) (hd : A.depth ≤ 898) (hu : A.units ≤ 8990)
    (hso : h.get? so = some { cls := .type "super", dict := none, data := .fields #[.ref 88, .ref e, .ref 88], slots := #[] }) (he : h.get? e = some ⟨.ref 88, none, .fields oe, #[]⟩) (he88 : e ≠ 88)
    (hq : ∀ h' tk b, (∀ y o, h.get? y = some o → h'.get? y = some o) → h'.get? b = some (mwO e) → Q (.ref b, []) ⟨h', g, d, tk, os⟩) :
    wpAny (model prog w) A (getMethod (.ref so) "__init__" pl) Q E ⟨h, g, d, t, os⟩ := by
  have hlk := PySem.F.ks_slot_super_ga.lookup
  have hcan := PySem.F.ks_canon_super_ga
  have hT : ∀ t', (⟨h, g, d, t', os⟩ : Shared).TypeIs (.ref so) "super" := fun _ => ⟨_, hso, rfl⟩
  unfold getMethod
  refine wpAny_bind (wpAny_specialOf (hT _) hlk ?_)
  show wpAny _ _ (if (Manifest.canonical "super.__getattribute__" != "object.__getattribute__") = true then _ else _) _ _ _
  rw [if_pos hcan]
  unfold getAttr getAttrBy
  refine wpAny_bind (wpAny_bind (wpAny_mkText (wpAny_holding (wpAny_bind (wpAny_typeOf (hT _) (wpAny_bind (wpAny_of_eq hlk ?_)))))))
  show wpAny _ _ (getAttrByItsOwn (.ref so) (.str "__init__" t) (.type "super") (.builtin "super.__getattribute__") true false) _ _ _
  unfold getAttrByItsOwn hookBefore callGetattribute boundAndCalled
  refine wpAny_bind (wpAny_of_eq (show (if onTheHeap (.type "super") then typeLookup (.type "super") "__getattr__" else pure none) = pure none from rfl) ?_)
  refine wpAny_bind (wpAny_attempt (wpAny_holding ?_))
  show wpAny _ _ (bindSpecial (.builtin "super.__getattribute__") (.ref so) >>= _) _ _ _
  refine wpAny_bind (wpAny_of_eq (PySem.F.ks_slot_super_ga.bind _) ?_)
  refine wpAny_mono (Q := fun v s' => ∃ h' tk b, (∀ y o, h.get? y = some o → h'.get? y = some o) ∧ h'.get? b = some (mwO e) ∧ v = .ref b ∧ s' = ⟨h', g, d, tk, os⟩) (E := fun _ _ => False)
    (wpAny_call_entry PySem.F.ks_slot_super_ga (hT _) PySem.F.ks_entry_super_ga (super_ga88 W hh (by show A.in1.depth ≤ 900; simp only [Around.in1]; (clear hcan he he88 hh hlk hso hu; omega)) (by show A.in1.units ≤ 9000; simp only [Around.in1]; (clear hcan hd he he88 hh hlk hso; omega)) hso he he88 fun h' tk b k hb => ⟨_, rfl, h', tk, b, k, hb, rfl, rfl⟩) (PySem.F.ks_gaArgs_super _ _)) (fun v s' hv => ?_) fun _ _ z => z.elim
  obtain ⟨h', tk, b, k, hb, rfl, rfl⟩ := hv
  exact wpAny_pure (wpAny_pure (hq h' tk b k hb))
end
section
variable {prog : Program} {w : World} {h : Heap} {g : Array GenState} {d : Drawn} {t : Nat} {os : OsState} {G : Glo} {A : Around} {E : Value → Shared → Prop}
theorem mw_call88 {u e T : Addr} {msg : PySem.Str} {t1 : Tok} {Q : Value → Shared → Prop} (W : Wld w G h.get?) (hu : h.get? u = some (mwO e)) (he : h.get? e = some { cls := .ref 88, data := .fields #[.ref T, .none, .none, .none, .bool false, .none] })
    (hq : ∀ h' T', h'.get? e = some { cls := .ref 88, data := .fields #[.ref T', .none, .none, .none, .bool false, .none] } → (∀ b o, b ≠ e → h.get? b = some o → h'.get? b = some o) → Q .none ⟨h', g, d, t, os⟩) :
    wpAny (model prog w) A (call (.ref u) [.str msg t1]) Q E ⟨h, g, d, t, os⟩ := by
  refine wpAny_call (codeAny_of_tree ?_)
  show wpAny _ A.in1 (callAny (.ref u) _) _ _ _
  unfold callAny
  refine wpAny_bind (wpAny_load hu ?_)
  simp only [mwO, show (Value.type "method-wrapper" == Value.type "method" || Value.type "method-wrapper" == Value.type "builtin_function_or_method" || Value.type "method-wrapper" == Value.type "method-wrapper") = true by decide, if_true]
  show wpAny _ _ (checkBoundCall "Exception.__init__" ⟨[.ref e, .str msg t1], []⟩ >>= fun _ => again (.builtin "Exception.__init__" ⟨[.ref e, .str msg t1], []⟩)) _ _ _
  refine wpAny_bind ?_
  unfold checkBoundCall
  have hC := W.c88
  unfold o88 at hC
  rw [PySem.F.excBase_Exception.initRow, kind_exc_init]
  dsimp only
  rw [if_pos (by decide)]
  unfold Bind.checkArgs
  repeat (first | (with_reducible refine wpAny_loadPart_at he ?_) | with_reducible refine wpAny_loadPart_at hC ?_ | wp_step)
  refine ⟨Code.quiet_builtin _ (by decide +kernel), codeAny_builtin PySem.F.excBase_Exception.initEntry ?_⟩
  show wpAny _ _ (newTuple [.str msg t1] >>= fun tu => Builtin.BaseException.bexcPut (.ref e) 0 tu >>= fun _ => ret .none) _ _ _
  unfold newTuple
  refine wpAny_bind (wpAny_newObj_type ?_ (by size_fits))
  have he1 := Heap.get?_push_of_some { cls := .type "tuple", data := .seq [Value.str msg t1].toArray } he
  refine wpAny_bind ?_
  unfold Builtin.BaseException.bexcPut
  refine wpAny_bind (wpAny_field he1 rfl (x := .ref T) rfl ?_)
  refine wpAny_bind (wpAny_setField_rec he1 (by simp) fun h2 e2 s2 => ?_)
  dsimp only
  refine wpAny_letGo ?_
  refine wpAny_pure (hq h2 h.objs.size ?_ fun b o hb eb => s2.extBut b o hb (Heap.get?_push_of_some _ eb))
  rw [e2]
  simp
theorem check_sa88 {M : Model} {e : Addr} {oe : Obj} {nameV v : Value} {Q : Unit → Shared → Prop} (W : Wld w G h.get?) (he : h.get? e = some oe) (hc : oe.cls = .ref 88) (hq : Q () ⟨h, g, d, t, os⟩) :
    wpAny M A (checkBuiltinCall "object.__setattr__" ⟨[.ref e, nameV, v], []⟩) Q E ⟨h, g, d, t, os⟩ := by
  have hcB : ([Value.ref 88, .ref 24, .type "Exception", .type "BaseException", .type "object"].contains (.type "object")) = true := by decide
  have ha := PySem.F.store_Exception.args (.ref e) nameV v
  simp only [checkBuiltinCall, PySem.F.store_Exception.kind, PySem.F.store_Exception.split]
  refine wpAny_bind ?_
  unfold isInstance
  refine wpAny_bind (wpAny_typeOf_ref he ?_)
  rw [hc]
  refine isSub_88 W.c88 ?_
  rw [hcB]
  simp only [Bool.not_true, Bool.false_eq_true, if_false]
  cases hsig : Manifest.signature? "object.__setattr__" with
  | none => exact wpAny_pure hq
  | some sig =>
    simp only [argsOk, hsig] at ha
    have h2 : Bind.checkArgs "object.__setattr__" sig ⟨[.ref e, nameV, v], []⟩ = pure () := ha
    show wpAny M A (Bind.checkArgs "object.__setattr__" sig ⟨[.ref e, nameV, v], []⟩) Q E _
    rw [h2]; exact wpAny_pure hq
open Builtin Builtin.ObjectAttr in
theorem sa_run88 {e T : Addr} {v : Value} {tk : Tok} {Q : Fin → Shared → Prop} (W : Wld w G h.get?) (he : h.get? e = some { cls := .ref 88, data := .fields #[.ref T, .none, .none, .none, .bool false, .none] })
    (hq : ∀ h' tk dd vs, h'.get? e = some { cls := .ref 88, dict := dd, data := .fields vs } → vs[1]? = some .none → (∀ b o, b ≠ e → h.get? b = some o → h'.get? b = some o) → Q (.done (.ret .none)) ⟨h', g, d, tk, os⟩) :
    wpAny (model prog w) A (Builtin.«object.__setattr__» ⟨[.ref e, .str "obj" tk, v], []⟩) Q E ⟨h, g, d, t, os⟩ := by
  have X := K88_in W
  have hpass := PySem.F.store_Exception.passes (.ref e)
  have hC : Looks (model prog w) h (mroOf (.ref 88)) [.ref 88, .ref 24, .type "Exception", .type "BaseException", .type "object"] := Looks.of_peek X (by kernel_rfl)
  have hL : Looks (model prog w) h (typeLookup (.ref 88) "obj") none := Looks.of_peek X (by kernel_rfl)
  have hcd : Looks (model prog w) h (classData 88) (match (o88 w.params).data with | .cls c => c | _ => default) := Looks.of_peek X (by kernel_rfl)
  obtain ⟨o, hx, hc, hdn, hdat, hsl⟩ : ∃ o, h.get? e = some o ∧ o.cls = .ref 88 ∧ o.dict = none ∧ o.data = .fields #[.ref T, .none, .none, .none, .bool false, .none] ∧ o.slots = #[] := ⟨_, he, rfl, rfl, rfl, rfl⟩
  clear he
  unfold Builtin.«object.__setattr__»
  repeat (first | rw [refuse_eq] | (rw [refuseLoop_ref, refuseLoop_ref, hpass]) | (with_reducible refine wpAny_loadPart_at hx ?_; rw [hc]) | with_reducible refine Looks.at hC ?_ | (with_reducible refine Looks.at hL ?_) | (with_reducible refine Looks.at hcd ?_) | wp_step)
  rw [hdn, if_neg (by simp [typeHasDict])]
  split
  · rename_i hcd
    cases hcd
  split
  · rename_i c hcd
    rw [hdat] at hcd; cases hcd
  · have hx₁ : (h.push { cls := .type "dict", data := .dict #[] }).get? e = some o := Heap.get?_push_of_some _ hx
    have hxs : e ≠ h.objs.size := Nat.ne_of_lt (Heap.lt_size hx)
    refine wpAny_bind (wpAny_alloc' ?_)
    refine wpAny_bind (wpAny_update' hx₁ ?_)
    refine wpAny_pure ?_
    have hgd : ((h.push { cls := .type "dict", data := .dict #[] }).update e fun o => { cls := o.cls, dict := some h.objs.size, data := o.data, slots := o.slots }).get? h.objs.size
        = some { cls := .type "dict", data := .dict #[] } :=
      (Heap.get?_update_ne _ _ _ _ hxs.symm).trans (Heap.get?_push_at rfl rfl)
    have hnd : ((h.push { cls := .type "dict", data := .dict #[] }).update e fun o => { cls := o.cls, dict := some h.objs.size, data := o.data, slots := o.slots }).Ns h.objs.size (fun _ => none) :=
      ⟨_, #[], _, hgd, rfl, fun e he => absurd he (by simp), fun _ => rfl⟩
    show wpAny _ _ (storeInDict h.objs.size (.str "obj" tk) "obj" v) _ _ _
    unfold storeInDict newKeyGuard
    refine wpAny_bind (wpAny_pure (wpAny_bind (wpAny_nsSet1 (Heap.Ns1.of_empty hnd) fun h' hn' hs => ?_)))
    obtain ⟨oD, esD, epD, hoD, hdD, hcD⟩ := hn'.count (Within.cons "obj" v Within.nil)
    refine wpAny_bind (wpAny_lookBehind hoD (by rw [hdD]; exact pastItsLine_dict (Nat.le_trans hcD (by rw [List.length_cons, List.length_nil, sizeLine_eq]; (clear hcD hdn hgd hoD hpass hsl hx hxs hx₁; omega)))) ?_)
    wp_walk
    refine hq h' _ (some h.objs.size) #[.ref T, .none, .none, .none, .bool false, .none] ?_ rfl (fun b ob hbx hb => ?_)
    · refine (hs.2 e hxs).trans ((Heap.get?_update_self _ hx₁ ?_).trans ?_)
      · rw [hdat]; rfl
      · rw [hc, hdat, hsl]
    · exact (hs.2 b (Nat.ne_of_lt (Heap.lt_size hb))).trans ((Heap.get?_update_ne _ _ _ _ hbx).trans (Heap.get?_push_of_some _ hb))
theorem set_obj88 {e T : Addr} {v : Value} {Q : Unit → Shared → Prop} (W : Wld w G h.get?) (he : h.get? e = some { cls := .ref 88, data := .fields #[.ref T, .none, .none, .none, .bool false, .none] })
    (hq : ∀ h' tk dd vs, h'.get? e = some { cls := .ref 88, dict := dd, data := .fields vs } → vs[1]? = some .none → (∀ b o, b ≠ e → h.get? b = some o → h'.get? b = some o) → Q () ⟨h', g, d, tk, os⟩) :
    wpAny (model prog w) A (setAttr (.ref e) "obj" v) Q E ⟨h, g, d, t, os⟩ := by
  have X := K88_in W
  unfold setAttr
  refine wpAny_bind (wpAny_mkText ?_)
  refine wpAny_bind ?_
  unfold callSpecial?
  refine wpAny_bind ?_
  unfold specialOf
  refine wpAny_bind (wpAny_typeOf_ref he ?_)
  dsimp only
  refine Looks.at (Looks.of_peek (r := some (.builtin "object.__setattr__")) X (by kernel_rfl)) ?_
  dsimp only
  refine wpAny_holding (wpAny_bind (wpAny_of_eq (PySem.F.store_Exception.slot.bind (.ref e)) ?_))
  dsimp only
  refine wpAny_bind (wpAny_call (codeAny_call_builtin PySem.F.store_Exception.slot.plain PySem.F.store_Exception.entry (check_sa88 W he rfl (sa_run88 W he fun h' tk dd vs e1 e2 e3 => ?_))))
  exact wpAny_pure (wpAny_pure (hq h' tk dd vs e1 e2 e3))
end
section
variable {w : World} {h : Heap} {g : Array GenState} {d : Drawn} {tk : Nat} {os : OsState} {G : Glo} {A : Around}
theorem ns87 (W : Wld w G h.get?) : h.Ns 87 (fun x => lookE x (dEnts (o87 w.params).data)) := ns_of_dict (n := 3) W.c87 (isStrE_all (by kernel_rfl))
theorem tail88 (W : Wld w G h.get?) : OwnTail h [.type "Exception", .type "BaseException", .type "object"] [.ref 24, .type "Exception", .type "BaseException", .type "object"] :=
  .own W.c24 (ns23 W) (by kernel_rfl) .base
theorem init_88 {h0 : Heap} (W0 : Wld w G h0.get?) (k0 : ∀ b o, h0.get? b = some o → h.get? b = some o) (hh : A.handled = none) (hA : A.depth ≤ 880) (hu : A.units ≤ 8900) {msg : PySem.Str} {t1 : Tok} {v : Value} {e : Addr} (hn0 : h0.get? e = none) {T : Addr} (he : h.get? e = some { cls := .ref 88, data := .fields #[.ref T, .none, .none, .none, .bool false, .none] }) :
    wpAny (model pw w) A (call (.ref 85) [.ref e, .str msg t1, v]) (fun r s' => r = .none ∧ ∃ h' tk', s' = ⟨h', g, d, tk', os⟩ ∧ (∀ b o, b ≠ e → h.get? b = some o → h'.get? b = some o) ∧ ∃ oe vs, h'.get? e = some oe ∧ oe.cls = .ref 88 ∧ oe.data = .fields vs ∧ vs[1]? = some .none) (fun _ _ => False) ⟨h, g, d, tk, os⟩ := by
  have W := W0.keeps k0
  have he88 : e ≠ 88 := by rintro rfl; rw [show h0.get? 88 = _ from W0.c88] at hn0; cases hn0
  refine wpAny_call (ks_codeAny_call_defAt (binds := [("self", .ref e), ("message", .str msg t1), ("obj", v)]) (by show A.depth < 1000; (clear he he88 hh hn0 hu; omega)) W.c85 rfl W.limit ⟨84, _, _, 278, rfl, W.c84, rfl, rfl⟩ rfl (.of_eq rfl) (by decide) (locs rfl) fun h₁ n₁ k₁ => ?_)
  dsimp only at k₁ n₁ ⊢
  have W₁ := W.keeps k₁
  have he₁ := k₁ _ _ he
  refine ks_wpAt_execs_cons (ks_wpAt_Expr_any (ks_wpAt_MethodCall (ks_wpAt_super_base (f := 85) (cc := 84) rfl rfl rfl rfl (k₁ _ _ W.c85) rfl rfl rfl (k₁ _ _ W.c84) rfl rfl (by decide) (by rfl) ?_)))
  refine ks_loadName_global rfl rfl (loadGlobal_builtin (mg := fun x => lookE x (G.e31 w)) (mb := fun x => lookE x (bltE w.params)) W₁.mg (glo_super _ _) W₁.mb (blt_super _) ⟨rfl, ?_⟩)
  refine wpAny_loadName_free rfl rfl rfl ⟨_, W₁.c73, rfl⟩ ?_
  refine wpAny_loadName_local rfl rfl n₁ rfl ?_
  refine ks_wpAny_isType_cls W₁.c88 rfl ⟨rfl, ?_⟩
  refine ks_wpAny_call_super W₁.c88 rfl he₁ rfl (fun c hc => by cases hc) (Looks.of_peek (K88_in W₁) (by kernel_rfl)) fun h₂ e₂ k₂ => ?_
  have W₂ := W₁.keeps k₂
  refine super_meth88 W₂ hh (by show A.depth + 1 ≤ 898; (clear e₂ he he88 he₁ hh hn0 hu; omega)) (by show A.units + 3 ≤ 8990; (clear e₂ hA he he88 he₁ hh hn0; omega)) e₂ (k₂ _ _ he₁) he88 fun h₃ t₃ b k₃ e₃ => ?_
  have n₃ := (n₁.keeps k₂).keeps k₃
  refine kw_mw rfl (evalArgs_plain (spliced_cons (wpAny_Name (wpAny_loadName_local rfl rfl n₃ rfl (spliced_nil ⟨e₃, ?_⟩)) (by decide))))
  refine mw_call88 (W₂.keeps k₃) e₃ (k₃ _ _ (k₂ _ _ he₁)) fun h₄ T' e₄ k₄ => ?_
  have hLe : h.objs.size ≠ e := Nat.ne_of_gt (Heap.lt_size he)
  have k34 : ∀ b o, b ≠ e → h₁.get? b = some o → h₄.get? b = some o := fun b o hb eb => k₄ b o hb (k₃ b o (k₂ b o eb))
  have n₄ := n₃.at' fun o eo => k₄ _ o hLe eo
  have W₄ : Wld w G h₄.get? := W0.keeps fun b o eb => k34 b o (by rintro rfl; rw [hn0] at eb; cases eb) (k₁ b o (k0 b o eb))
  dsimp only
  refine ks_wpAt_execs_cons (ks_wpAt_Assign_Attr (wpAt_of_wpAny (wpAny_Name (wpAny_loadName_local rfl rfl n₄ rfl (wpAny_Name (wpAny_loadName_local rfl rfl n₄ rfl (set_obj88 W₄ e₄ fun h₅ t₅ dd vs e₅ v₅ k₅ => ?_)) (by decide))) (by decide))))
  dsimp only
  refine wpAt_of_wpAny (wpAny_execs_nil ?_)
  exact ⟨rfl, h₅, t₅, rfl, fun b o hb eb => k₅ b o hb (k34 b o hb (k₁ b o eb)), _, vs, e₅, rfl, rfl, v₅⟩
theorem mk_88 (W : Wld w G h.get?) (hh : A.handled = none) (hA : A.depth ≤ 870) (hu : A.units ≤ 8800) {msg : PySem.Str} {t1 : Tok} {v : Value} :
    wpAny (model pw w) A (call (.ref 88) [.str msg t1, v]) (fun r s' => ExcR 88 ⟨h, g, d, tk, os⟩ s' r) (fun _ _ => False) ⟨h, g, d, tk, os⟩ := by
  have hC := W.c88
  unfold o88 at hC
  refine call_initU PySem.F.excBase_Exception (tail88 W) hC (ns87 W) (fI := 85) (by kernel_rfl) W.c85 rfl fun h' e hm => ?_
  obtain ⟨T, he, _, _⟩ := hm.there
  refine wpAny_mono (init_88 (A := A.under (.builtin "type.__call__" ⟨[.ref 88, .str msg t1, v], []⟩)) W hm.keeps hh ?_ ?_ hm.new he) (fun r s' hr => ?_) fun _ _ z => z
  · have := (under_tc A 88 [.str msg t1, v]).1; (clear hC he hh hu; omega)
  · have := (under_tc A 88 [.str msg t1, v]).2; (clear hA hC he hh; omega)
  · obtain ⟨rfl, h₂, t₂, rfl, k₂, oe, vs, e1, e2, e3, e4⟩ := hr
    refine ⟨rfl, ⟨h₂, t₂, rfl, fun b o eb => k₂ b o (by rintro rfl; rw [show h.get? b = none from hm.new] at eb; cases eb) (hm.keeps b o eb)⟩, e, oe, vs, rfl, hm.new, e1, e2, e3, e4⟩
end
end Mine
end Y88_part
section E1_part
open PySem PySem.W PySem.Calls PyProof.Rows
set_option Elab.async false
set_option maxRecDepth 100000
set_option maxHeartbeats 4000000
namespace Mine
noncomputable def gposOf : List Stmt → Pos
  | .If _ _ (.If _ (.Assign _ (.Call _ (.GeneratorExp _ _ _ pos :: _) _ _) _ :: _) _ _ :: _) _ :: _ => pos
  | _ => default
noncomputable def gpos : Pos := gposOf (fd 11).body
/-- what the walk of encode_raw knows beyond the world -/
structure EncF (G : Glo) (pm doc : Value) (c : Addr) (h : View) : Prop where
  fn : h G.a11 = some { cls := .type "function", data := .func (docDef (fd 11).name (fd 11).params (fd 11).body (fd 11).scope pm (.ref c) doc) }
  m4 : h 4 = some ⟨.type "module", some 0, .plain, #[]⟩
theorem EncF.keepsC {G : Glo} {pm doc : Value} {c : Addr} {h h' : View} (x : EncF G pm doc c h) (hk : ∀ b o, o.cls ≠ .none → h b = some o → h' b = some o) : EncF G pm doc c h' :=
  ⟨hk _ _ (by simp) x.fn, hk _ _ (by simp) x.m4⟩
/-- the table of encode_raw's code -/
structure EncT (c P : Addr) (h : Heap) : Prop where
  ex : ∃ ps, h.IsCode c P ps ∧ h.TableAt c P ps ∧ (ps = #[] ∨ ∃ c', ps = #[rawInt gpos.line, rawInt gpos.col, c'])
  rc : h.CodeRec (.ref c) (fd 11).name
theorem EncT.at {c P : Addr} {h h' : Heap} (x : EncT c P h) (hc : ∀ o, h.get? c = some o → h'.get? c = some o) (hP : ∀ o, h.get? P = some o → h'.get? P = some o) : EncT c P h' := by
  obtain ⟨⟨ps, ⟨o, vs, file, tf, flags, tg, inF, text, tt, op, a, r1, r2, r3, r4, r5, r6, b, r⟩, ⟨⟨o2, vs2, a2, q2⟩, t2⟩, h3⟩, ⟨c3, o3, vs3, t3, e3, g3, q3⟩⟩ := x
  cases e3
  exact ⟨⟨ps, ⟨o, vs, file, tf, flags, tg, inF, text, tt, op, hc _ a, r1, r2, r3, r4, r5, r6, hP _ b, r⟩, ⟨⟨o2, vs2, hc _ a2, q2⟩, hP _ t2⟩, h3⟩, ⟨c, o3, vs3, t3, rfl, hc _ g3, q3⟩⟩
theorem EncT.code {c P : Addr} {h : Heap} (x : EncT c P h) : ∃ o vs, h.get? c = some o ∧ o.cls = .type "code" ∧ o.data = .fields vs := by
  obtain ⟨⟨ps, _, ⟨⟨o2, vs2, a2, b2, c2, _⟩, t2⟩, h3⟩, _⟩ := x
  exact ⟨o2, vs2, a2, b2, c2⟩
theorem EncT.table {c P : Addr} {h : Heap} (x : EncT c P h) : ∃ ps, h.get? P = some { cls := .none, data := .fields ps } := by
  obtain ⟨⟨ps, _, ⟨_, t2⟩, h3⟩, _⟩ := x
  exact ⟨ps, t2⟩
/-- all kept but a code's table; the generators that were stay as they were -/
noncomputable def KeepsP (P : Addr) (s s' : Shared) : Prop := ∃ h' g' tk, s' = ⟨h', g', s.drawn, tk, s.os⟩ ∧ (∀ b o, b ≠ P → s.heap.get? b = some o → h'.get? b = some o) ∧ (∀ k, k < s.gens.size → g'[k]? = s.gens[k]?) ∧ (AllBare s.gens → AllBare g')
theorem KeepsP.of {P : Addr} {s s' : Shared} (k : Keeps s s') : KeepsP P s s' := by
  obtain ⟨h', tk, rfl, hk⟩ := k
  exact ⟨h', s.gens, tk, rfl, fun b o _ e => hk b o e, fun _ _ => rfl, id⟩
theorem KeepsP.heap {P : Addr} {s s' : Shared} (k : KeepsP P s s') : ∀ b o, b ≠ P → s.heap.get? b = some o → s'.heap.get? b = some o := by
  obtain ⟨h', g', tk, rfl, hk, _⟩ := k
  exact hk
theorem KeepsP.trans {P : Addr} {s s₁ s₂ : Shared} (a : KeepsP P s s₁) (b : KeepsP P s₁ s₂) : KeepsP P s s₂ := by
  obtain ⟨h', g', tk, rfl, hk, hg, hb⟩ := a
  obtain ⟨h'', g'', tk', rfl, hk', hg', hb'⟩ := b
  refine ⟨h'', g'', tk', rfl, fun x o hx e => hk' x o hx (hk x o hx e), fun k hk => ?_, fun h => hb' (hb h)⟩
  have h1 := hg k hk
  have : k < g'.size := by
    rcases Nat.lt_or_ge k g'.size with h | h
    · exact h
    · rw [Array.getElem?_eq_none h, Array.getElem?_eq_getElem hk] at h1; cases h1
  exact (hg' k this).trans h1
noncomputable abbrev noHeap : Heap := {}
noncomputable def frs (l : List Env) : List Addr := l.filterMap (·.frame)
/-- an exception of ours on its way out -/
noncomputable def ErrE (c P : Addr) (outer : List Env) (s : Shared) (e : Value) (s' : Shared) : Prop :=
  ∃ base' e', e = .ref e' ∧ (∀ b o, b ≠ P → b ∉ frs outer → s.heap.get? b = some o → base'.get? b = some o) ∧ EncT c P base' ∧ Heap.Flying base' outer e' (.ref 46) s'.heap ∧ s'.os = s.os ∧ s'.drawn = s.drawn ∧ (AllBare s.gens → AllBare s'.gens) ∧ s.heap.UpToSlots s'.heap
theorem frs_obj {h base : Heap} {l : List Env} (F : h.FunFrames base l) {b : Addr} (hb : b ∈ frs l) : ∃ o, h.get? b = some o ∧ ∀ vs, o.data ≠ .fields vs := (F.mem hb).2
theorem frames_in : ∀ {l : List Env} {as : List Addr}, (∀ b ∈ frs l, b ∈ as) → ∀ env ∈ l, ∀ a, env.frame = some a → a ∈ as := by
  intro l as h env he a ha
  exact h a (List.mem_filterMap.mpr ⟨env, he, ha⟩)
section
variable {M : Model} {A : Around} {E : Value → Shared → Prop} {s : Shared}
/-- an exception just made leaves its first frame -/
theorem leave_made {c P : Addr} {env : Env} {outer : List Env} {L e : Addr} {oe : Obj} {vs : Array Value} {s0 : Shared} {Q : Unit → Shared → Prop}
    (hfr : A.frames = some (env :: outer)) (hl : s.heap.FunFrames noHeap (env :: outer)) (hf : env.frame = some L)
    (he : s.heap.get? e = some oe) (hc : oe.cls = .ref 46) (hd : oe.data = .fields vs) (h1 : vs[1]? = some .none) (T : EncT c P s.heap)
    (hk : ∀ b o, b ≠ P → s0.heap.get? b = some o → s.heap.get? b = some o) (hen : s0.heap.get? e = none) (hL : s0.heap.get? L = none)
    (hos : s.os = s0.os) (hdr : s.drawn = s0.drawn) (hg : AllBare s0.gens → AllBare s.gens) (hP0 : ∀ o, s0.heap.get? P = some o → ∃ vs, o.data = .fields vs)
    (hQ : ∀ s', ErrE c P outer s0 (.ref e) s' → Q () s') : wpAny M A (leaving env (.ref e)) Q E s := by
  have hne : ∀ b ∈ frs (env :: outer), b ≠ e := fun b hb q => by
    obtain ⟨o, ho, hno⟩ := frs_obj hl hb
    rw [q, he] at ho; cases ho; exact hno _ hd
  have hfl : s.heap.FunFrames (hideAll s.heap (e :: frs (env :: outer))) (env :: outer) := funFrames_hide hl (frames_in fun b hb => .tail _ hb)
  have hfrs : frs (env :: outer) = L :: frs outer := by unfold frs; rw [List.filterMap_cons, hf]
  obtain ⟨oc, vc, c1, c2, c3⟩ := T.code
  obtain ⟨ps, p1⟩ := T.table
  have keepNF : ∀ b o vs', s.heap.get? b = some o → o.data = .fields vs' → o.cls ≠ .ref 46 → (hideAll s.heap (e :: frs (env :: outer))).get? b = some o := fun b o vs' hb hdb hcb => by
    refine hideAll_get _ hb fun hm => ?_
    rcases List.mem_cons.mp hm with rfl | hm
    · rw [he] at hb; cases hb; exact hcb hc
    · obtain ⟨o', ho', hno⟩ := frs_obj hl hm
      rw [hb] at ho'; cases ho'; exact hno _ hdb
  refine wpAny_leaving_first hfr hfl hf he (fun b o hb => of_hideAll _ hb) (hideAll_none _ (.head _)) hd h1 fun h' hL' => hQ _ ?_
  obtain ⟨k1, ⟨_, _, k2⟩, k3, k4⟩ := hL'
  refine ⟨hideAll s.heap (e :: frs (env :: outer)), e, rfl, fun b o hbP hbf hb => hideAll_get _ (hk b o hbP hb) fun hm => ?_, T.at (fun o ho => ?_) (fun o ho => ?_), ⟨k1, hideAll_none _ (.head _), k2, by rw [← hc]; exact k3⟩, hos, hdr, hg, fun b o hb hn => k4 b o (hk b o (fun q => by rw [q] at hb; obtain ⟨vs, hv⟩ := hP0 o hb; exact hn vs hv) hb) hn⟩
  · rcases List.mem_cons.mp hm with rfl | hm
    · rw [hen] at hb; cases hb
    · rw [hfrs] at hm
      rcases List.mem_cons.mp hm with rfl | hm
      · rw [hL] at hb; cases hb
      · exact hbf hm
  · rw [c1] at ho; cases ho; exact keepNF _ _ _ c1 c3 (by rw [c2]; simp)
  · rw [p1] at ho; cases ho; exact keepNF _ _ _ p1 rfl (by simp)
/-- it leaves a further frame -/
theorem leave_on {c P : Addr} {env : Env} {outer : List Env} {L : Addr} {e : Value} {s0 s1 : Shared} {Q : Unit → Shared → Prop}
    (hfr : A.frames = some (env :: outer)) (hf : env.frame = some L) (X : ErrE c P (env :: outer) s1 e s)
    (hk : ∀ b o, b ≠ P → s0.heap.get? b = some o → s1.heap.get? b = some o) (hL : s0.heap.get? L = none) (hos : s1.os = s0.os) (hdr : s1.drawn = s0.drawn) (hg : AllBare s0.gens → AllBare s1.gens) (hP0 : ∀ o, s0.heap.get? P = some o → ∃ vs, o.data = .fields vs)
    (hQ : ∀ s', ErrE c P outer s0 e s' → (∀ b o, b ≠ P → b ∉ frs (env :: outer) → s1.heap.get? b = some o → s'.heap.get? b = some o) → Q () s') : wpAny M A (leaving env e) Q E s := by
  obtain ⟨base', e', rfl, x1, x2, x3, x4, x5, x6, x7⟩ := X
  have hfrs : frs (env :: outer) = L :: frs outer := by unfold frs; rw [List.filterMap_cons, hf]
  obtain ⟨f1, f2, f3, f4⟩ := x3
  refine wpAny_leaving_next hfr f3 hf f4 f1 f2 fun h' hLf => ?_
  obtain ⟨k1, ⟨_, _, k2⟩, k3, k4⟩ := hLf
  refine hQ _ ⟨base', e', rfl, fun b o hbP hbf hb => x1 b o hbP (fun hm => ?_) (hk b o hbP hb), x2, ⟨k1, f2, k2, k3⟩, x4.trans hos, x5.trans hdr, fun h => x6 (hg h), ?_⟩ fun b o hbP hbf hb => k1 b o (x1 b o hbP hbf hb)
  rotate_left
  · exact (Heap.UpToSlots.trans (fun b o hb hn => ⟨o.slots, hk b o (fun q => by rw [q] at hb; obtain ⟨vs, hv⟩ := hP0 o hb; exact hn vs hv) hb⟩) x7).trans k4
  rw [hfrs] at hm
  rcases List.mem_cons.mp hm with rfl | hm
  · rw [hL] at hb; cases hb
  · exact hbf hm
end
end Mine
end E1_part
section E2_part
open PySem PySem.W PySem.Calls PyProof.Rows
set_option Elab.async false
set_option maxRecDepth 100000
set_option maxHeartbeats 4000000
namespace Mine
mutual
/-- what encode_raw gives -/
noncomputable def T.enc : T → Array UInt8
  | .byt b => if b.size = 1 ∧ b.toList.getD 0 0 < 128 then b else byteArr (headL 128 b.size) ++ b
  | .ba b => if b.size = 1 ∧ b.toList.getD 0 0 < 128 then b else byteArr (headL 128 b.size) ++ b
  | .lst xs => byteArr (headL 192 (T.encs xs).size) ++ T.encs xs
  | .tup xs => byteArr (headL 192 (T.encs xs).size) ++ T.encs xs
  | _ => #[]
noncomputable def T.encs : List T → Array UInt8
  | [] => #[]
  | x :: xs => T.enc x ++ T.encs xs
end
theorem encs_cat : ∀ xs : List T, cat (xs.map T.enc) = T.encs xs
  | [] => by simp [cat, T.encs]
  | x :: xs => by rw [List.map_cons, cat, encs_cat xs, T.encs]
theorem T.sers_mem : ∀ {xs : List T} {i : Nat} {t : T}, xs[i]? = some t → t.ser = false → T.sers xs = false
  | [], i, t, h, _ => by simp at h
  | x :: xs, 0, t, h, hs => by simp at h; subst h; rw [T.sers, hs]; rfl
  | x :: xs, i + 1, t, h, hs => by rw [T.sers, T.sers_mem (xs := xs) (i := i) (by simpa using h) hs, Bool.and_false]
theorem T.sers_all : ∀ {xs : List T}, (∀ (i : Nat) t, xs[i]? = some t → t.ser = true) → T.sers xs = true
  | [], _ => by rw [T.sers]
  | x :: xs, h => by rw [T.sers, h 0 x rfl, T.sers_all (xs := xs) fun i t hi => h (i + 1) t (by simpa using hi)]; rfl
theorem Wld.keepsP {w : World} {G : Glo} {c P : Addr} {h h' : Heap} (W : Wld w G h.get?) (T : EncT c P h) (hk : ∀ b o, b ≠ P → h.get? b = some o → h'.get? b = some o) : Wld w G h'.get? := by
  obtain ⟨ps, hp⟩ := T.table
  refine W.keepsC (fun b o hc hb => hk b o (by rintro rfl; rw [hp] at hb; cases hb; exact hc rfl) hb) ?_
  have h2 := W.stat
  exact (hk 2 _ (by rintro rfl; rw [hp] at h2; cases h2) h2).trans h2.symm
theorem EncF.keepsP {G : Glo} {pm doc : Value} {c c' P : Addr} {h h' : Heap} (X : EncF G pm doc c h.get?) (T : EncT c' P h) (hk : ∀ b o, b ≠ P → h.get? b = some o → h'.get? b = some o) : EncF G pm doc c h'.get? := by
  obtain ⟨ps, hp⟩ := T.table
  exact X.keepsC (fun b o hc hb => hk b o (by rintro rfl; rw [hp] at hb; cases hb; exact hc rfl) hb)
theorem FunFrames.keepsP {c P : Addr} {h h' base : Heap} {l : List Env} (F : h.FunFrames base l) (T : EncT c P h) (hk : ∀ b o, b ≠ P → h.get? b = some o → h'.get? b = some o) : h'.FunFrames base l := by
  obtain ⟨ps, hp⟩ := T.table
  exact F.of_keeps fun b o ho hn => ⟨o, hk b o (by rintro rfl; rw [hp] at ho; cases ho; exact hn _ rfl) ho, rfl⟩
theorem AllBare_setGen {s : Shared} {g : Nat} {y : GenState} (h : AllBare s.gens) (hy : y.bare = true) : AllBare (s.setGen g y).gens := by
  intro x hx
  unfold Shared.setGen at hx
  obtain ⟨i, hi, rfl⟩ := Array.mem_iff_getElem.mp hx
  dsimp only at hi ⊢
  rw [Array.getElem_setIfInBounds]
  · split
    · exact hy
    · exact h _ (Array.getElem_mem _)
  · simpa using hi
noncomputable def EncOk (w : World) (G : Glo) (pm doc : Value) (c P : Addr) (D U : Nat) (t : T) : Prop :=
  ∀ (A : Around) (outer : List Env) (s : Shared) (V : View) (v : Value), A.handled = none → A.frames = some outer → A.depth ≤ D → A.units ≤ U → s.heap.FunFrames noHeap outer → 46 ∉ frs outer →
    Wld w G s.heap.get? → EncF G pm doc c s.heap.get? → EncT c P s.heap → VLe V s.heap.get? → V P = none → Has V t v →
    wpAny (model pw w) A (call (.ref G.a11) [v]) (fun r s' => t.ser = true ∧ KeepsP P s s' ∧ EncT c P s'.heap ∧ EncV V t.enc r) (fun e s' => t.ser = false ∧ ErrE c P outer s e s') s
section
variable {prog : Program} {w : World} {A : Around} {E : Value → Shared → Prop} {s : Shared}
theorem seq_src2 {a : Addr} {vs : Array Value} (x : IsSeq s.heap a vs) {Q : Value → Shared → Prop}
    (h : ∀ o St, (∀ A' : Around, A'.handled = none → Walks prog w A' s.heap.objs.size [s.heap.objs.size, a] [s.heap.objs.size] vs.size (fun i v => vs[i]? = some v) St) → St 0 (s.heap.push o) → (s.heap.push o).get? s.heap.objs.size = some o → Q (.ref s.heap.objs.size) { s with heap := s.heap.push o }) :
    wpAny (model prog w) A (pyIter (.ref a)) Q E s := by
  have hne : a ≠ s.heap.objs.size := Nat.ne_of_lt x.lt
  cases x with
  | l ep e => exact wpAny_pyIter_list ⟨_, e, rfl, ep, rfl⟩ (h _ _ (fun A' hh => Walks.list hh _ a hne vs) ⟨⟨_, Heap.get?_push_size _ rfl, rfl, rfl⟩, ⟨_, Heap.get?_push_of_some _ e, rfl, ep, rfl⟩⟩ (Heap.get?_push_size _ rfl))
  | t ep e => exact wpAny_pyIter_tuple ⟨_, e, rfl, ep, rfl⟩ (h _ _ (fun A' hh => Walks.tuple hh _ a hne vs) ⟨⟨_, Heap.get?_push_size _ rfl, rfl, rfl⟩, ⟨_, Heap.get?_push_of_some _ e, rfl, ep, rfl⟩⟩ (Heap.get?_push_size _ rfl))
theorem code_ok {M : Model} {env : Env} {c P : Addr} {q : PySem.Str} {scope : Scope} {Q : Value → Shared → Prop} (hc : env.code = .ref c) (T : EncT c P s.heap)
    (hQ : ∀ v h' tk, (∀ b o, b ≠ P → s.heap.get? b = some o → h'.get? b = some o) → EncT c P h' → Q v { s with heap := h', toks := tk }) : wpAny M A (genexprCode env gpos q scope) Q E s := by
  obtain ⟨⟨ps, t1, t2, h3⟩, hr⟩ := T
  rcases h3 with rfl | ⟨c', rfl⟩
  · refine wpAny_genexprCodeX hc t1 t2 (by kernel_rfl) fun c' h' tk hx _ _ hi _ ht _ => hQ _ h' tk hx ⟨⟨_, hi, ht, .inr ⟨.ref c', by simp⟩⟩, ?_⟩
    obtain ⟨c₂, o₂, vs₂, t₂, e₂, g₂, r₂⟩ := hr
    cases e₂
    obtain ⟨⟨o3, vs3, a3, b3, c3, d3⟩, hp⟩ := t2
    exact ⟨_, o₂, vs₂, t₂, rfl, hx _ _ (by rintro rfl; rw [hp] at a3; cases a3; cases b3) g₂, r₂⟩
  · refine wpAny_genexprCode_hit (c' := c') hc t1 (by kernel_rfl) (hQ _ s.heap s.toks (fun _ _ _ e => e) ⟨⟨_, t1, t2, .inr ⟨c', rfl⟩⟩, hr⟩)
end
section
variable {w : World} {G : Glo} {pm doc : Value} {c P : Addr} {A : Around} {E : Value → Shared → Prop} {s : Shared}
theorem glo_builtins (G : Glo) (w : World) : lookE "__builtins__" (G.e31 w) = some (.ref 4) := by kernel_rfl
theorem gen_join {D U : Nat} {scope fscope : Scope} {fname : PySem.Str} {p1 p2 p3 px pi : Pos} {t0 : Tok} {outer : List Env} {h₀ : Heap} {L al : Addr} {m : PySem.Str → Option Value} {V : View} {xs : List T} {vs : Array Value} {Q : Value → Shared → Prop}
    (hco : scope.isCoroutine = false) (hcell : ∀ y ∈ scope.names, y.2 ≠ .cell) (h0 : scope.names.lookup (".0" : PySem.Str) = some NameKind.local) (hkind : scope.kind = .function)
    (hx : scope.names.lookup ("x" : PySem.Str) = some .local) (hg : scope.names.lookup ("encode_raw" : PySem.Str) = some .globalImplicit) (hfk : fscope.kind = .function) (hfi : fscope.names.lookup ("item" : PySem.Str) = some .local)
    (hclos : closureFor scope (envOf fname fscope L G.a11 (.ref c)) = pure [])
    (hh : A.handled = none) (hfr : A.frames = some (envOf fname fscope L G.a11 (.ref c) :: outer)) (hd : A.depth + 1 ≤ D) (hu : A.units + 7 ≤ U) (hD : D ≤ 900)
    (hFF : s.heap.FunFrames noHeap (envOf fname fscope L G.a11 (.ref c) :: outer)) (h46 : 46 ∉ frs (envOf fname fscope L G.a11 (.ref c) :: outer))
    (W : Wld w G s.heap.get?) (X : EncF G pm doc c s.heap.get?) (TT : EncT c P s.heap) (hV : VLe V s.heap.get?) (hVP : V P = none)
    (F : Fr h₀ L s.heap m) (hm : m "item" = some (.ref al)) (hsrc : IsSeq s.heap al vs) (hA : HasAll V xs vs.toList) (hz : vs.size ≤ 1000) (hlen : (T.encs xs).size ≤ 65536)
    (IH : ∀ (i : Nat) t, xs[i]? = some t → EncOk w G pm doc c P D U t)
    (hQ : ∀ s' t', KeepsP P s s' → EncT c P s'.heap → T.sers xs = true → Q (.bytes (T.encs xs) t') s')
    (hE : ∀ e s', T.sers xs = false → ErrE c P (envOf fname fscope L G.a11 (.ref c) :: outer) s e s' → E e s') :
    wpAny (model pw w) A (eval (.GeneratorExp (.Call (.Name "encode_raw" p1) [.Name "x" p2] [] p3) [⟨.Name "x" px, .Name "item" pi, [], 0⟩] scope gpos) (envOf fname fscope L G.a11 (.ref c)))
      (fun r s₅ => wpAny (model pw w) A (call (.builtin "bytes.join") [.bytes #[] t0, r]) Q E s₅) E s := by
  obtain ⟨ps0, hPt⟩ := TT.table
  have hPlt : P < s.heap.objs.size := Heap.lt_size hPt
  refine wpAny_GeneratorExp_make hco hclos hcell h0 hkind (by show A.depth < 1000; (clear h0 hPlt hPt hVP hclos hco hfi hfr hg hh hlen hm hu hx hz; omega)) (ld F hm ?_ hfk hfi) (fun _ => rfl)
  refine seq_src2 hsrc fun o St W₀ hst hoI => ⟨(W.keeps fun b o' e => Heap.get?_push_of_some _ e).limit, ?_⟩
  have k1 : ∀ b o', s.heap.get? b = some o' → (s.heap.push o).get? b = some o' := fun b o' e => Heap.get?_push_of_some _ e
  have T1 : EncT c P (s.heap.push o) := TT.at (fun o e => k1 _ o e) fun o e => k1 _ o e
  refine code_ok rfl T1 fun cv h2 tk2 k2 T2 => ?_
  have k12 : ∀ b o', b ≠ P → s.heap.get? b = some o' → h2.get? b = some o' := fun b o' hb e => k2 b o' hb (k1 b o' e)
  have W2 : Wld w G h2.get? := W.keepsP TT k12
  have X2 := X.keepsP TT k12
  refine wpAny_builtinsFor W2.mg (glo_builtins _ _) (by decide) X2.m4 rfl rfl rfl ?_
  intro h3 hn3 hs3
  have hI2 : h2.get? s.heap.objs.size = some o := k2 _ _ (Nat.ne_of_gt hPlt) hoI
  have hIC : s.heap.objs.size < h2.objs.size := Heap.lt_size hI2
  have hsz3 : h3.objs.size = h2.objs.size + 1 := by rw [hs3.1, Heap.size_push]
  have k3 : ∀ b o', h2.get? b = some o' → h3.get? b = some o' := fun b o' e => hs3.extBut b o' (Nat.ne_of_lt (Heap.lt_size e)) (Heap.get?_push_of_some _ e)
  have halt : al < s.heap.objs.size := hsrc.lt
  generalize hgo : ({ cls := .type "generator", data := .fields #[.int s.gens.size 0, .str "<genexpr>" (tk2 + 1), .str ((envOf fname fscope L G.a11 (.ref c)).qual ++ "<genexpr>") (tk2 + 1 + 1)] } : Obj) = go
  have hgof : go.isFreed = false := by rw [← hgo]; rfl
  show wpAny (model pw w) A (call (.builtin "bytes.join") [.bytes #[] t0, .ref h3.objs.size]) Q E
    { heap := h3.push go, gens := s.gens.push (.fresh (.compStart (gexp (.Call (.Name "encode_raw" p1) [.Name "x" p2] [] p3) (.Name "item" pi) "x" px scope gpos) 0 (.ref s.heap.objs.size) .none (genEnv scope [] h2.objs.size cv builtinsNs (envOf fname fscope L G.a11 (.ref c))))), drawn := s.drawn, toks := tk2 + 1 + 1 + 1, os := s.os }
  generalize hcenv : genEnv scope [] h2.objs.size cv builtinsNs (envOf fname fscope L G.a11 (.ref c)) = cenv
  have hcl : cenv.locals = h2.objs.size := by rw [← hcenv]; rfl
  have k4 : ∀ b o', h2.get? b = some o' → (h3.push go).get? b = some o' := fun b o' e => Heap.get?_push_of_some _ (k3 b o' e)
  have ks : ∀ b o', b ≠ P → s.heap.get? b = some o' → (h3.push go).get? b = some o' := fun b o' hb e => k4 b o' (k12 b o' hb e)
  have hgen : (h3.push go).IsGen h3.objs.size s.gens.size := ⟨go, _, _, Heap.get?_push_size _ hgof, by rw [← hgo], by rw [← hgo], by rw [← hgo]⟩
  have lt1 : s.heap.objs.size < h3.objs.size + 1 := by (clear h0 hD hI2 hPlt hPt hVP halt hcl hclos hco hd hfi hfr hg hgof hh hlen hm hoI hu hx hz; omega)
  have lt2 : al < h3.objs.size + 1 := Nat.lt_trans halt lt1
  have lt3 : h2.objs.size < h3.objs.size + 1 := by (clear h0 hD hI2 hIC hPlt hPt hVP halt hcl hclos hco hd hfi hfr hg hgof hh hlen hm hoI hu hx hz lt1 lt2; omega)
  have aC : h3.objs.size ≠ h2.objs.size := by (clear h0 hD hI2 hIC hPlt hPt hVP halt hcl hclos hco hd hfi hfr hg hgof hh hlen hm hoI hu hx hz lt1 lt2 lt3; omega)
  have aI : h3.objs.size ≠ s.heap.objs.size := by (clear aC h0 hD hI2 hPlt hPt hVP halt hcl hclos hco hd hfi hfr hg hgof hh hlen hm hoI hu hx hz lt1 lt2 lt3; omega)
  have aP : h3.objs.size ≠ P := Nat.ne_of_gt (Nat.lt_trans hPlt (by (clear aC aI h0 hD hI2 hPlt hPt hVP halt hcl hclos hco hd hfi hfr hg hgof hh hlen hm hoI hu hx hz lt1 lt2 lt3; omega)))
  have cP : h2.objs.size ≠ P := Nat.ne_of_gt (Nat.lt_trans hPlt hIC)
  have PN : P < h3.objs.size + 1 := Nat.lt_trans hPlt lt1
  have c46 : (46 : Nat) ≠ h2.objs.size := Nat.ne_of_lt (Nat.lt_trans (Heap.lt_size W.c46) hIC)
  -- the invariant between the turns
  let Inv : Shared → Prop := fun s' => (∀ b o, b ≠ P → s.heap.get? b = some o → s'.heap.get? b = some o) ∧ EncT c P s'.heap ∧ s'.heap.IsGen h3.objs.size s.gens.size ∧ (∀ k, k < s.gens.size → s'.gens[k]? = s.gens[k]?) ∧ (AllBare s.gens → AllBare s'.gens) ∧ s'.os = s.os ∧ s'.drawn = s.drawn
  let ErrG : Value → Shared → Prop := fun e s' => T.sers xs = false ∧ ErrE c P (envOf fname fscope L G.a11 (.ref c) :: outer) s e s' ∧ s'.heap.IsGen h3.objs.size s.gens.size ∧ s'.heap.get? 46 = some (o46 w.params)
  have hCs : s.heap.get? h2.objs.size = none := Heap.get?_none_of_le (Nat.le_of_lt hIC)
  have hfrsC : frs (cenv :: envOf fname fscope L G.a11 (.ref c) :: outer) = h2.objs.size :: frs (envOf fname fscope L G.a11 (.ref c) :: outer) := by unfold frs; rw [List.filterMap_cons, ← hcenv]; rfl
  obtain ⟨oc, vc, hc1, hc2, hc3⟩ := TT.code
  have inv_frame : ∀ (s' : Shared) h' tk, Inv s' → (∀ b o, b < h3.objs.size + 1 → b ≠ cenv.locals → b ≠ s.heap.objs.size → s'.heap.get? b = some o → h'.get? b = some o) → Inv { s' with heap := h', toks := tk } := by
    rintro s' h' tk ⟨i1, i2, i3, i4, i5, i6, i7⟩ hk
    have hk' : ∀ b o, b < s.heap.objs.size → s'.heap.get? b = some o → h'.get? b = some o := fun b o hb e => hk b o (Nat.lt_trans hb lt1) (by rw [hcl]; exact Nat.ne_of_lt (Nat.lt_trans hb hIC)) (Nat.ne_of_lt hb) e
    refine ⟨fun b o hb e => hk' b o (Heap.lt_size e) (i1 b o hb e), i2.at (fun o e => hk' c o (Heap.lt_size hc1) e) (fun o e => hk' P o hPlt e), ?_, i4, i5, i6, i7⟩
    obtain ⟨o', nm, qn, g1, g2⟩ := i3
    exact ⟨o', nm, qn, hk _ _ (Nat.lt_succ_self _) (by rw [hcl]; exact aC) aI g1, g2⟩
  have H : GenHyp pw w A.in1.in1.in1.in1 (.Call (.Name "encode_raw" p1) [.Name "x" p2] [] p3) (.Name "item" pi) "x" px scope gpos cenv s.heap.objs.size (h3.objs.size + 1) vs.size [s.heap.objs.size, al] (fun i v => vs[i]? = some v) St
      (fun i y => ∃ t, xs[i]? = some t ∧ t.ser = true ∧ EncV V t.enc y) Inv ErrG := {
    hh := hh
    W₀ := W₀
    hx := by rw [← hcenv]; exact hx
    hp := by rw [← hcenv]; show (scope.kind == .class || (scope.kind == .module && _)) = false; rw [hkind]; rfl
    hco := by rw [← hcenv]; exact hco
    CI := by rw [hcl]; exact Nat.ne_of_gt hIC
    Cf := by
      rw [hcl]
      intro hm
      rcases List.mem_cons.mp hm with e | hm
      · exact Nat.ne_of_gt hIC e
      · exact Nat.ne_of_gt (Nat.lt_trans halt hIC) (List.mem_singleton.mp hm)
    fpN := fun b hb => by
      rcases List.mem_cons.mp hb with rfl | hm
      · exact lt1
      · rw [List.mem_singleton.mp hm]; exact lt2
    CN := by rw [hcl]; exact lt3
    IN := lt1
    inv_frame := inv_frame
    elt := by
      rintro i v s₂ m₂ hi hv ⟨i1, i2, i3, i4, i5, i6, i7⟩ hn₂ hm₂
      obtain ⟨t, ht, hHt⟩ := hA.get i v (by rw [Array.getElem?_toList]; exact hv)
      have W₂ := W.keepsP TT i1
      have X₂ := X.keepsP TT i1
      have hV₂ : VLe V s₂.heap.get? := fun b o e => i1 b o (by rintro rfl; rw [hVP] at e; cases e) (hV b o e)
      rw [hcl] at hn₂
      obtain ⟨oC, esC, epC, hoC, hdC, _⟩ := id hn₂
      have hC46 : 46 < s.heap.objs.size := Heap.lt_size W.c46
      have h46' : 46 ∉ frs (cenv :: envOf fname fscope L G.a11 (.ref c) :: outer) := by
        rw [hfrsC]
        intro hm
        rcases List.mem_cons.mp hm with e | hm
        · exact c46 e
        · exact h46 hm
      have hFF₂ : s₂.heap.FunFrames noHeap (cenv :: envOf fname fscope L G.a11 (.ref c) :: outer) :=
        ⟨by rw [← hcenv]; show scope.kind ≠ .module; rw [hkind]; decide, ⟨h2.objs.size, oC, by rw [← hcenv]; rfl, Heap.get?_none_of_le (by simp), hoC, fun vs' q => by rw [hdC] at q; cases q⟩, FunFrames.keepsP hFF TT i1⟩
      have hfr' : (A.in1.in1.in1.in1.over (.compLoop (gexp (.Call (.Name "encode_raw" p1) [.Name "x" p2] [] p3) (.Name "item" pi) "x" px scope gpos) 0 (.ref s.heap.objs.size) .none cenv) []).frames = some (cenv :: envOf fname fscope L G.a11 (.ref c) :: outer) := by
        show pushEnvs [cenv] (pushEnvs [] A.frames) = _
        rw [hfr]
        rfl
      have kk : cenv.scope.kind = .function := by rw [← hcenv]; exact hkind
      refine Call_Name1 (gname W₂ ⟨kk, by rw [← hcenv]; rfl, by rw [← hcenv]; rfl⟩ (by rw [← hcenv]; exact hg) (lk_encode_raw _ _) ?_) rfl
      refine callWith_g (k := 11) W₂ (Glo.m11 _) (spliced_cons (wpAny_Name (wpAny_loadName_local kk (by rw [← hcenv]; exact hx) (by rw [hcl]; exact hn₂) hm₂ (spliced_nil ⟨fun _ _ _ e => e, ?_⟩)) (by decide)))
      refine wpAny_mono (IH i t ht _ _ s₂ V v hh hfr' hd hu hFF₂ h46' W₂ X₂ i2 hV₂ hVP hHt) (fun r s₃ h₃ => ?_) (fun e s₃ h₃ => ?_)
      · obtain ⟨hs, hK, hT₃, hEn⟩ := h₃
        have hkk := hK.heap
        obtain ⟨h₃, g₃, tk₃, rfl, _, hg₃, hb₃⟩ := hK
        dsimp only at hkk hT₃ ⊢
        refine ⟨⟨t, ht, hs, hEn⟩, ⟨fun b o hb e => hkk b o hb (i1 b o hb e), hT₃, ?_, fun k hk => (hg₃ k ?_).trans (i4 k hk), fun h => hb₃ (i5 h), i6, i7⟩, fun b o hb e => hkk b o ?_ e, hg₃⟩
        · obtain ⟨o', nm, qn, g1, g2⟩ := i3
          exact ⟨o', nm, qn, hkk _ _ aP g1, g2⟩
        · have h1 := i4 k hk
          rcases Nat.lt_or_ge k s₂.gens.size with h | h
          · exact h
          · rw [Array.getElem?_eq_none h, Array.getElem?_eq_getElem hk] at h1; cases h1
        · rintro rfl
          rcases hb with hb | hb | hb
          · rcases List.mem_cons.mp hb with e | hm
            · exact Nat.ne_of_lt hPlt e
            · rw [List.mem_singleton.mp hm] at hPt
              cases hsrc with
              | l ep e => rw [e] at hPt; cases hPt
              | t ep e => rw [e] at hPt; cases hPt
          · rw [hcl] at hb; exact cP hb.symm
          · exact absurd PN (Nat.not_lt.mpr hb)
      · refine leave_on hfr' (by rw [← hcenv]; rfl) h₃.2 i1 hCs i6 i7 i5 (fun o ho => by rw [hPt] at ho; cases ho; exact ⟨_, rfl⟩) fun s₄ hE₄ hk₄ => ?_
        have hag : s₄.heap.IsGen h3.objs.size s.gens.size := by
          obtain ⟨o', nm, qn, g1, g2, g3, g4⟩ := i3
          refine ⟨o', nm, qn, hk₄ _ _ aP (fun hm => ?_) g1, g2, g3, g4⟩
          obtain ⟨o4, ho4, hno4⟩ := frs_obj hFF₂ hm
          rw [g1] at ho4; cases ho4; exact hno4 _ g3
        exact ⟨T.sers_mem ht h₃.1, hE₄, hag, hk₄ 46 _ (by rintro rfl; rw [show s.heap.get? 46 = _ from W.c46] at hPt; cases hPt) h46' W₂.c46⟩ }
  have hW : WalksE pw w A.in1.in1.in1 h3.objs.size (h3.objs.size + 1) vs.size (fun i y => ∃ t, xs[i]? = some t ∧ t.ser = true ∧ EncV V t.enc y)
      (GenStE pw w A.in1.in1.in1 s.gens.size (h3.objs.size + 1) vs.size (fun i y => ∃ t, xs[i]? = some t ∧ t.ser = true ∧ EncV V t.enc y) Inv ErrG) Inv
      (fun e s' => T.sers xs = false ∧ ErrE c P (envOf fname fscope L G.a11 (.ref c) :: outer) s e s') := by
    refine walksE (P' := w.params) hh (by show A.depth < 1000; (clear PN aC aI aP c46 cP h0 hCs hI2 hIC hPlt hPt hVP halt hc1 hcl hclos hco hfi hfr hfrsC hg hgof hh hlen hm hoI hsz3 hu hx hz lt1 lt2 lt3; omega)) (Nat.lt_succ_self _) (Nat.lt_trans (Heap.lt_size W.stat) lt1) (fun s' i => i.2.2.1) (fun s' i => (W.keepsP TT i.1).limit)
      (fun s' h' tk i hk => inv_frame s' h' tk i fun b o hb _ _ e => hk b o hb e) (fun s' y i hy => ?_) (fun s' i => i) (fun e s' he => ?_)
    · obtain ⟨i1, i2, i3, i4, i5, i6, i7⟩ := i
      refine ⟨i1, i2, i3, fun k hk => ?_, fun h => AllBare_setGen (i5 h) hy, i6, i7⟩
      show (s'.gens.setIfInBounds s.gens.size y)[k]? = _
      rw [Array.getElem?_setIfInBounds, if_neg (Nat.ne_of_gt hk)]
      exact i4 k hk
    · obtain ⟨e1, e2, e3, e4⟩ := he
      obtain ⟨base', e', rfl, x1, x2, x3, x4, x5, x6, x7⟩ := e2
      obtain ⟨ob, hob, hocls⟩ := x3.there
      exact ⟨e', ob, _, rfl, hob, hocls, e4, e3, e1, base', e', rfl, x1, x2, x3, x4, x5, (fun h => AllBare_setGen (x6 h) rfl), x7⟩
  have hInv : Inv { heap := h3.push go, gens := s.gens.push (.fresh (.compStart (gexp (.Call (.Name "encode_raw" p1) [.Name "x" p2] [] p3) (.Name "item" pi) "x" px scope gpos) 0 (.ref s.heap.objs.size) .none cenv)), drawn := s.drawn, toks := tk2 + 1 + 1 + 1, os := s.os } := by
    refine ⟨ks, T2.at (fun o e => k4 _ _ e) (fun o e => k4 _ _ e), hgen, fun k hk => ?_, fun h => h.push rfl, rfl, rfl⟩
    show (s.gens.push _)[k]? = _
    rw [Array.getElem?_push_lt hk, Array.getElem?_eq_getElem hk]
  refine call_join (V := V) (g := s.gens.size) hgen ?_
  refine call_listE hW (Nat.le_trans hz (by decide)) (Nat.lt_succ_self _) ⟨hInv, _, Array.getElem?_push_size .., rfl, fun s'' hal hinv'' => ⟨rfl, ?_⟩⟩ (by rw [Heap.size_push]; exact Nat.le_refl _) (fun e s' he => hE e s' he.1 he.2) fun s' acc' c' hf hl' hacc => ?_
  · rw [Nat.sub_zero]
    refine seg_startE H s'' s'' (fun y => if y = ".0" then some (.ref s.heap.objs.size) else none) ((W₀ A hh).frame _ _ _ hst fun b hb o' e => hal b o' (H.fpN b hb) (k4 b o' (k2 b o' (fun hb' => ?_) e))) ?_ hinv'' (SinceG.refl _ _)
    · subst hb'
      rcases List.mem_cons.mp hb with e | hm
      · exact Nat.ne_of_lt hPlt e
      · rw [List.mem_singleton.mp hm] at hPt
        cases hsrc with
        | l ep e => rw [e] at hPt; cases hPt
        | t ep e => rw [e] at hPt; cases hPt
    · rw [hcl]
      exact hn3.at' fun o' e => hal _ o' lt3 (Heap.get?_push_of_some _ e)
  · obtain ⟨i1, i2, i3, i4, i5, i6, i7⟩ := hf
    have hVs : VLe V s'.heap.get? := fun b o e => i1 b o (by rintro rfl; rw [hVP] at e; cases e) (hV b o e)
    have hxl : vs.size = xs.length := by rw [← Array.length_toList, hA.length]
    refine ⟨_, acc', c', xs.map T.enc, rfl, hl', hVs, by rw [hacc.1, List.length_map, hxl], by rw [encs_cat]; (clear PN aC aI aP c46 cP h0 hCs hD hI2 hIC hPlt hPt hVP halt hc1 hcl hclos hco hd hfi hfr hfrsC hg hgof hh hl' hm hoI hsz3 hu hx hxl hz lt1 lt2 lt3; omega), fun i v p hv hp => ?_, fun t' k => ?_⟩
    · obtain ⟨t, ht, _, hEn⟩ := hacc.2 i v hv
      rw [List.getElem?_map, ht] at hp
      cases hp
      exact hEn
    · rw [encs_cat]
      refine hQ { s' with toks := k } t' ⟨s'.heap, s'.gens, k, by rw [← i6, ← i7], i1, i4, i5⟩ i2 (T.sers_all fun i t ht => ?_)
      have hlt : i < acc'.size := by
        rw [hacc.1, hxl]
        rcases Nat.lt_or_ge i xs.length with h | h
        · exact h
        · rw [List.getElem?_eq_none h] at ht; cases ht
      obtain ⟨t2, ht2, hs2, _⟩ := hacc.2 i _ (Array.getElem?_eq_getElem hlt)
      rw [ht] at ht2
      cases ht2
      exact hs2
end
end Mine
end E2_part
section BaOps_part
open PySem PySem.W PySem.Calls PyProof.Rows
set_option Elab.async false
set_option maxRecDepth 100000
set_option maxHeartbeats 4000000
namespace Mine
open Builtin
theorem slot_ba_item : Slot "bytearray" "__getitem__" "bytearray.__getitem__" :=
  .of (owner := "bytearray") (n := "__getitem__") (by rw [typeLookup_type, builtinLookup_eq_fast]; kernel_rfl) (by decide +kernel) (by decide +kernel) (by decide +kernel)
    (by first | exact .inl (by decide +kernel) | exact .inr (by decide +kernel)) (by rw [isSubtype_type]; kernel_rfl)
theorem entry_ba_item : entryFor table "bytearray.__getitem__" = some Builtin.«bytearray.__getitem__» := entryFor_of_fast (by kernel_rfl)
theorem args_ba_item (a b : Value) : argsOk "bytearray.__getitem__" ⟨[a, b], []⟩ := by unfold argsOk; kernel_rfl
theorem noR_ba_add : typeLookup (.type "bytearray") (dunderR "add") = pure none := by rw [typeLookup_type, builtinLookup_eq_fast]; kernel_rfl
theorem look_ba_add : typeLookup (.type "bytearray") (dunder "add") = pure (some (.builtin "bytearray.__add__")) := by rw [typeLookup_type, builtinLookup_eq_fast]; kernel_rfl
theorem noFill_ba_add : fillsNumberSlot (.type "bytearray") "add" = pure false := PySem.fillsNumberSlot_seq (id := "bytearray.__add__") (r := none) look_ba_add (by decide +kernel) noR_ba_add rfl
section
variable {prog : Program} {w : World} {A : Around} {E : Value → Shared → Prop} {s : Shared} {b : Array UInt8} {a : Addr} {t : Tok}
theorem buffer_ba {M : Model} {id : String} {full : Bool} {Q : Option (Array UInt8) → Shared → Prop} (ha : s.heap.get? a = some (baO b)) (h : Q (some b) s) : wpAny M A (Bytes.buffer? id (.ref a) full) Q E s := by
  have hT : s.TypeIs (.ref a) "bytearray" := ⟨_, ha, rfl⟩
  unfold Bytes.buffer?
  refine wpAny_bind (wpAny_specialOf hT ba_look_buffer ?_)
  dsimp only
  refine wpAny_bind (own_ba ha ba_look_buffer (by decide +kernel) (by decide +kernel) ?_)
  rw [Bool.not_true]
  show wpAny M A (specialOf (.ref a) "__buffer__" >>= _) _ _ s
  refine wpAny_bind (wpAny_specialOf hT ba_look_buffer ?_)
  show wpAny M A (Bytes.ownRelease (.ref a) >>= _) _ _ s
  unfold Bytes.ownRelease
  refine wpAny_bind (wpAny_bind (own_ba ha ba_look_release (by decide +kernel) (by decide +kernel) (wpAny_pure ?_)))
  rw [Bool.not_true]
  show wpAny M A (Bytes.payload (.ref a) >>= _) _ _ s
  unfold Bytes.payload Bytes.payload?
  refine wpAny_bind (wpAny_bind (wpAny_bind (wpAny_load ha (wpAny_pure (wpAny_pure ?_)))))
  exact wpAny_pure h
theorem add_ba {p : Array UInt8} {Q : Value → Shared → Prop} (hp : p.isEmpty = false) (hz : p.size + b.size ≤ 100000) (ha : s.heap.get? a = some (baO b)) (h : ∀ t' k, Q (.bytes (p ++ b) t') { s with toks := k }) :
    wpAny (model prog w) A (binaryOp .Add (.bytes p t) (.ref a)) Q E s := by
  have hT : s.TypeIs (.ref a) "bytearray" := ⟨_, ha, rfl⟩
  unfold binaryOp
  refine wpAny_holding ?_
  refine wpAny_bind ?_
  show wpAny _ A (binaryOp1 "add" (.bytes p t) (.ref a)) _ _ s
  unfold binaryOp1
  refine wpAny_bind (wpAny_typeOf (typeIs_bytes _ _ _) (wpAny_bind (wpAny_typeOf hT (wpAny_bind (wpAny_of_eq KBy.noFill_bytes_add ?_)))))
  rw [show (Value.type "bytes" == Value.type "bytearray") = false by decide]
  simp only [Bool.false_eq_true, if_false]
  refine wpAny_bind (wpAny_of_eq noFill_ba_add ?_)
  simp only [Bool.and_false, Bool.false_and, Bool.false_eq_true, if_false, pure_bind]
  refine wpAny_pure ?_
  dsimp only
  refine wpAny_bind (wpAny_typeOf (typeIs_bytes _ _ _) ?_)
  refine wpAny_bind (wpAny_of_eq KBy.seq_bytes_add ?_)
  refine wpAny_bind (wpAny_rule ?_)
  refine wpAny_call_entry FB.slot_bytes_add (typeIs_bytes _ _ _) FB.entry_bytes_add ?_ (FB.args_bytes_add_2 _ _)
  show wpAny _ _ (Bytes.buffer? "bytes.__add__" (.bytes p t) >>= fun r => _) _ _ s
  refine wpAny_bind (wpAny_of_eq KBy.buffer_eq ?_)
  show wpAny _ _ (Bytes.bufferQuiet? "bytes.__add__" (.ref a) >>= fun r => _) _ _ s
  refine wpAny_bind ?_
  unfold Bytes.bufferQuiet?
  refine wpAny_bind (wpAny_attempt (buffer_ba ha (wpAny_pure ?_)))
  show wpAny _ _ (if p.isEmpty = true then _ else _) _ _ s
  rw [if_neg (by rw [hp]; simp)]
  show wpAny _ _ (if b.isEmpty = true then _ else _) _ _ s
  by_cases hb : b.isEmpty = true
  · rw [if_pos hb]
    refine wpAny_bind (wpAny_typeOf (typeIs_bytes _ _ _) ?_)
    have e : b = #[] := Array.isEmpty_iff.1 hb
    have h' := h t s.toks
    rw [e, Array.append_empty] at h'
    exact wpAny_bind (wpAny_rule (wpAny_pure ⟨_, rfl, h'⟩))
  · rw [if_neg hb]
    show wpAny _ _ (if Bytes.tooLong (p.size + b.size) = true then _ else _) _ _ s
    rw [if_neg (by rw [KBy.tooLong_not (by (clear ha hb hp; omega))]; exact Bool.false_ne_true)]
    have hline : (100000 : Nat) ≤ sizeLine := by decide
    exact wpAny_bind (wpAny_mkBytes (wpAny_pure ⟨_, rfl, h _ _⟩) (by rw [Array.size_append]; (clear ha hb hp; omega)))
theorem item_ba {value slice : Expr} {x : UInt8} {Q : Value → Shared → Prop} (ha : s.heap.get? a = some (baO #[x])) (h : ∀ t' k, Q (.int (x.toNat : Nat) t') { s with toks := k })
    (hs : subscripted slice false (.ref a) (.int 0 t) = operate [.ref a, .int 0 t] (getItem (.ref a) (.int 0 t)) := by with_unfolding_all rfl) (ht : ∀ r, letTemporaryGo value (.ref a) r = pure () := by intro _; with_unfolding_all rfl) :
    wpAny (model prog w) A (subscriptTail value slice (.ref a) (.int 0 t)) Q E s := by
  have hT : s.TypeIs (.ref a) "bytearray" := ⟨_, ha, rfl⟩
  refine subscriptTail_builtin hT slot_ba_item.lookup (PyProof.Rows.getItem_slot hT (by decide) slot_ba_item (wpAny_call_entry slot_ba_item hT entry_ba_item ?_ (args_ba_item _ _))) hs ht
  show wpAny _ _ (Bytes.subscript? (.int 0 t) >>= fun r => _) _ _ s
  refine wpAny_bind (wpAny_of_eq (a := some 0) rfl ?_)
  show wpAny _ _ (Bytes.payload (.ref a) >>= fun b => _) _ _ s
  unfold Bytes.payload Bytes.payload?
  refine wpAny_bind (wpAny_bind (wpAny_bind (wpAny_load ha (wpAny_pure (wpAny_pure ?_)))))
  show wpAny _ _ (retInt (x.toNat : Int)) _ _ s
  unfold retInt
  exact wpAny_bind (wpAny_mkInt (wpAny_pure ⟨_, rfl, h _ _⟩))
end
end Mine
end BaOps_part
section R1_part
open PySem PySem.W PySem.Calls PyProof.Rows
set_option Elab.async false
set_option maxRecDepth 100000
set_option maxHeartbeats 4000000
namespace Mine
section
variable {M : Model} {A : Around} {E : Value → Shared → Prop} {s : Shared} {env : Env} {P : Params}
theorem raise_46 {x : Sem Value} {Q : Flow → Shared → Prop} (hh : A.handled = none)
    (h : wpAny M A x (fun v s₁ => ∃ e oe vs, v = .ref e ∧ s₁.heap.get? e = some oe ∧ oe.cls = .ref 46 ∧ oe.data = .fields vs ∧ vs[1]? = some .none ∧ s₁.heap.get? 46 = some (o46 P) ∧ E (.ref e) s₁) E s) :
    wpAny M A (raiseStmt env (some x) none) Q E s := by
  unfold raiseStmt
  refine wpAny_bind (wpAny_mono h (fun v s₁ h₁ => ?_) fun _ _ x => x)
  obtain ⟨e, ⟨oc, od, odt, osl⟩, vs, rfl, he, rfl, rfl, hv1, h46, hE⟩ := h₁
  obtain ⟨hp, g, d, tk, os⟩ := s₁
  dsimp only at he h46
  have hC := h46
  unfold o46 at hC
  have hcB : [Value.ref 46, .ref 24, .type "Exception", .type "BaseException", .type "object"].contains (.type "BaseException") = true := by decide
  repeat (first | with_reducible refine wpAny_loadPart_at he ?_ | with_reducible refine wpAny_loadPart_at hC ?_ | (with_reducible refine wpAny_isSubtype_exc hC ?_; rw [hcB]) | wp_step)
  rw [hv1]
  refine wpAny_pure ?_
  rw [if_neg (by simp)]
  exact wpAny_pure (wpAny_raiseNew_none hh hE)
theorem raise_88 {x : Sem Value} {Q : Flow → Shared → Prop} (hh : A.handled = none)
    (h : wpAny M A x (fun v s₁ => ∃ e oe vs, v = .ref e ∧ s₁.heap.get? e = some oe ∧ oe.cls = .ref 88 ∧ oe.data = .fields vs ∧ vs[1]? = some .none ∧ s₁.heap.get? 88 = some (o88 P) ∧ E (.ref e) s₁) E s) :
    wpAny M A (raiseStmt env (some x) none) Q E s := by
  unfold raiseStmt
  refine wpAny_bind (wpAny_mono h (fun v s₁ h₁ => ?_) fun _ _ x => x)
  obtain ⟨e, ⟨oc, od, odt, osl⟩, vs, rfl, he, rfl, rfl, hv1, h88, hE⟩ := h₁
  obtain ⟨hp, g, d, tk, os⟩ := s₁
  dsimp only at he h88
  have hC := h88
  unfold o88 at hC
  have hcB : [Value.ref 88, .ref 24, .type "Exception", .type "BaseException", .type "object"].contains (.type "BaseException") = true := by decide
  repeat (first | with_reducible refine wpAny_loadPart_at he ?_ | with_reducible refine wpAny_loadPart_at hC ?_ | (with_reducible refine wpAny_isSubtype_exc hC ?_; rw [hcB]) | wp_step)
  rw [hv1]
  refine wpAny_pure ?_
  rw [if_neg (by simp)]
  exact wpAny_pure (wpAny_raiseNew_none hh hE)
end
end Mine
end R1_part
section E3_part
open PySem PySem.W PySem.Calls PyProof.Rows
set_option Elab.async false
set_option maxRecDepth 100000
set_option maxHeartbeats 4000000
namespace Mine
noncomputable abbrev DD (n : Nat) : Nat := 850 - 16 * n
noncomputable abbrev UU (n : Nat) : Nat := 8500 - 160 * n
theorem T.encs_le : ∀ {xs : List T} {i : Nat} {t : T}, xs[i]? = some t → t.enc.size ≤ (T.encs xs).size
  | [], i, t, h => by simp at h
  | x :: xs, 0, t, h => by simp at h; subst h; rw [T.encs, Array.size_append]; omega
  | x :: xs, i + 1, t, h => by have := T.encs_le (xs := xs) (i := i) (t := t) (by simpa using h); rw [T.encs, Array.size_append]; (clear h; omega)
theorem ga_bytes : typeLookup (.type "bytes") "__getattribute__" = pure (some (.builtin "bytes.__getattribute__")) := by rw [typeLookup_type, builtinLookup_eq_fast]; kernel_rfl
theorem ngetattr_bytes : typeLookup (.type "bytes") "__getattr__" = pure none := by rw [typeLookup_type, builtinLookup_eq_fast]; kernel_rfl
theorem meth_join {M : Model} {A : Around} {E : Value → Shared → Prop} {s : Shared} {x : Array UInt8} {t : Tok} {pl : Sem Bool} {Q : Value × List Value → Shared → Prop} (h : Q (.builtin "bytes.join", [.bytes x t]) s) :
    wpAny M A (getMethod (.bytes x t) (PySem.Str.ofString "join") pl) Q E s :=
  getMethod_value (T := "bytes") (name := PySem.Str.ofString "join") (ga := "bytes.__getattribute__") (id := "bytes.join") (typeIs_bytes s x t) (by intro _ x; cases x) ga_bytes (by decide +kernel) ngetattr_bytes slot_join.lookup type_join h
theorem enc_tail {w : World} {G : Glo} {c : Addr} {A : Around} {E : Value → Shared → Prop} {s : Shared} {h₀ : Heap} {L : Addr} {m : PySem.Str → Option Value} {V : View} {pv : Value} {p : Array UInt8} {off : Int} {t1 : Tok} {Q : Flow → Shared → Prop}
    (hh : A.handled = none) (hd : A.depth ≤ 864) (hu : A.units ≤ 8640) (W : Wld w G s.heap.get?) (F : Fr h₀ L s.heap m) (hV : VLe V s.heap.get?) (hLV : V L = none) (mp : m "payload" = some pv) (mo : m "prefix_offset" = some (.int off t1))
    (hp : EncV V p pv) (hz : p.size ≤ 60000) (ho : off = 128 ∨ off = 192)
    (kQ : ∀ h' tk t', (∀ b o, b ≠ L → s.heap.get? b = some o → h'.get? b = some o) → Q (.ret (.bytes (byteArr (headL off p.size) ++ p) t')) { s with heap := h', toks := tk }) :
    wpAny (model pw w) A (execs (fd 11).body.tail (envOf (fd 11).name (fd 11).scope L G.a11 (.ref c))) Q E s := by
  refine wpAny_execs_cons (wpAny_Try_except ?_)
  refine wpAny_execs_cons (wpAny_Assign_Name ?_ (by rfl))
  refine Call_Name2 (gname W ⟨rfl, rfl, rfl⟩ rfl (lk_length_prefix _ _) ?_) rfl
  refine callWith_g (k := 14) W (Glo.m14 _) (spliced_cons ?_)
  refine Call_Name1 (bname W ⟨rfl, rfl, rfl⟩ rfl (glo_len _ _) (blt_len _) ?_) rfl
  refine callWith_builtin rfl (evalArgs_plain (spliced_cons (ld F mp (spliced_nil ?_))))
  have len : wpAny (model pw w) A (call (.builtin "len") [pv]) (fun r s' => Keeps s s' ∧ ∃ t', r = .int p.size t') (fun _ _ => False) s := by
    rcases hp with ⟨tk, rfl⟩ | ⟨a, rfl, ha⟩
    · exact amaxA (len_bytes (by (clear hLV hd hh ho hu mo mp; omega))) hh (by (clear hLV hh ho hu hz mo mp; omega)) (by (clear hLV hd hh ho hz mo mp; omega))
    · exact amaxA (len_ba (by (clear hLV ha hd hh ho hu mo mp; omega)) (hV _ _ ha)) hh (by (clear hLV ha hh ho hu hz mo mp; omega)) (by (clear hLV ha hd hh ho hz mo mp; omega))
  refine wpAny_mono len (fun r s₂ h => ?_) fun _ _ h => h.elim
  obtain ⟨⟨h₂, tk₂, rfl, k₂⟩, t2, rfl⟩ := h
  dsimp only at k₂ ⊢
  have F₂ := F.keeps k₂
  refine spliced_cons (ld F₂ mo (spliced_nil ⟨fun b o _ e => k₂ b o e, ?_⟩))
  refine at_le (n := 2) (mono_k (lp_ok (n := 0) (by (clear hLV hd hh ho hu hz mo mp; omega)) (W.keeps k₂) (by (clear hLV hd hh ho hu mo mp; omega)) (by (clear hLV hd hh ho hu mo mp; omega)) ho) fun h₃ tk₃ t3 k₃ => ?_) hh hd hu
  dsimp only at k₃ ⊢
  have F₃ := F₂.keeps k₃
  refine stK F₃ News.nil (fun h₄ F₄ _ k₄ => ?_) (by rfl) (by rfl)
  dsimp only at k₄ ⊢
  refine wpAny_execs_nil ?_
  dsimp only
  refine wpAny_execs_nil ?_
  dsimp only
  have hb : (byteArr (headL off p.size)).size ≤ 3 := by rw [byteArr_size]; exact headL_len
  have hb1 : (byteArr (headL off p.size)).isEmpty = false := by
    have : 1 ≤ (byteArr (headL off p.size)).size := by rw [byteArr_size]; unfold headL; split <;> simp
    rw [Array.isEmpty_eq_false_iff]
    intro e
    rw [e] at this
    simp at this
  have kk : ∀ b o, b ≠ L → s.heap.get? b = some o → h₄.get? b = some o := fun b o hb e => k₄ b o hb (k₃ b o (k₂ b o e))
  refine wpAny_execs_cons (wpAny_Return_some (wpAny_BinOp (ld F₄ rfl (ld F₄ mp ?_))))
  rcases hp with ⟨tk, rfl⟩ | ⟨a, rfl, ha⟩
  · exact KBy.add_bytes (by (clear hLV hb1 hd hh ho hu mo mp; omega)) fun t' k => kQ _ _ t' kk
  · refine add_ba hb1 (by (clear hLV ha hb1 hd hh ho hu mo mp; omega)) (kk _ _ (by rintro rfl; rw [hLV] at ha; cases ha) (hV _ _ ha)) fun t' k => kQ _ _ t' kk
/-- encode_raw at a tree -/
noncomputable def EncC (w : World) (G : Glo) (pm doc : Value) (c P : Addr) (n : Nat) (t : T) : Prop := t.ht ≤ n → n ≤ 40 → t.enc.size ≤ 60000 → EncOk w G pm doc c P (DD n) (UU n) t
theorem enc_step {w : World} {G : Glo} {pm doc : Value} {c P : Addr} {n : Nat} {t : T} (IH0 : ∀ m, n = m + 1 → ∀ t', EncC w G pm doc c P m t') : EncC w G pm doc c P n t := by
  intro hn hn' hz A outer s V v hh hfr hd hu hFF h46 W X TT hV hVP HV
  have H := Has.mono hV t v HV
  have hd' : A.depth + 1 ≤ 864 := by simp only [DD] at hd; (clear hVP hfr hh hu hz; omega)
  have hu' : A.units + 3 ≤ 8640 := by simp only [UU] at hu; (clear hVP hd hd' hfr hh hz; omega)
  have hcell : ∀ x ∈ (fd 11).scope.names, x.2 ≠ .cell := by
    have h : ((fd 11).scope.names.all fun x => x.2 != .cell) = true := by kernel_rfl
    intro x hx
    simpa using List.all_eq_true.mp h x hx
  refine wpQE fun Q0 E0 q0 e0 => ?_
  refine wpAny_call (call_plain (name := (fd 11).name) (params := (fd 11).params) (body := (fd 11).body) (scope := (fd 11).scope) (binds := [("item", v)]) (by show A.depth < 1000; (clear hVP hd hfr hh hn hn' hu hu' hz; omega)) X.fn rfl W.limit TT.rc (by kernel_rfl) (locs (by kernel_rfl)) (fun h₁ F => ?_) (by kernel_rfl) (by kernel_rfl) (by kernel_rfl) hcell)
  have hkm : (fd 11).scope.kind ≠ .module := by rw [show (fd 11).scope.kind = .function by kernel_rfl]; decide
  have W₁ := W.keeps F.keep
  have hV₁ : VLe V h₁.get? := fun b o e => F.keep b o (hV b o e)
  refine wpAny_execs_cons (wpAny_If (isTrue_plain ?_))
  refine at_le (n := 2) (mono_k0 (isi_test_b W₁ ⟨rfl, rfl, rfl⟩ (by rfl) (fun Q' s' k q => ld (F.keeps (keeps_of k)) rfl q) (Has.mono F.keep t v H)) fun h₂ tk₂ k₂ => ?_) hh hd' hu'
  refine wpAny_truthy_bool ?_
  dsimp only at k₂ ⊢
  have F₂ := F.keeps k₂
  have W₂ := W.keeps F₂.keep
  have hV₂ : VLe V h₂.get? := fun b o e => F₂.keep b o (hV b o e)
  cases hB : t.isB with
  | true =>
    rw [if_pos rfl]
    obtain ⟨b, hb, hbv, henc, hser⟩ : ∃ b : Array UInt8, b.size ≤ 1000 ∧ EncV V b v ∧ t.enc = (if b.size = 1 ∧ b.toList.getD 0 0 < 128 then b else byteArr (headL 128 b.size) ++ b) ∧ t.ser = true := by
      cases t with
      | byt b => unfold Has at HV; obtain ⟨z, tk, rfl⟩ := HV; exact ⟨b, z, .inl ⟨tk, rfl⟩, by rw [T.enc], rfl⟩
      | ba b => unfold Has at HV; obtain ⟨z, a, rfl, e⟩ := HV; exact ⟨b, z, .inr ⟨a, rfl, e⟩, by rw [T.enc], rfl⟩
      | _ => cases hB
    have hVL : V s.heap.objs.size = none := by
      cases q : V s.heap.objs.size with
      | none => rfl
      | some o => exact absurd (Heap.lt_size (hV _ _ q)) (Nat.lt_irrefl _)
    have fin : ∀ (E' : Value → Shared → Prop) (h₈ : Heap) (tk : Nat) (m₈ : PySem.Str → Option Value) (t8 : Tok), Fr s.heap s.heap.objs.size h₈ m₈ → m₈ "payload" = some v → m₈ "prefix_offset" = some (.int 128 t8) → ¬ (b.size = 1 ∧ b.toList.getD 0 0 < 128) →
        wpAny (model pw w) (A.deeper (envOf (fd 11).name (fd 11).scope s.heap.objs.size G.a11 (.ref c))) (execs (fd 11).body.tail (envOf (fd 11).name (fd 11).scope s.heap.objs.size G.a11 (.ref c)))
          (fun f s' => Q0 (match f with | .ret v => v | _ => .none) s') E' { s with heap := h₈, toks := tk } := by
      intro E' h₈ tk m₈ t8 F₈ mp mo hno
      refine enc_tail (A := A.deeper (envOf (fd 11).name (fd 11).scope s.heap.objs.size G.a11 (.ref c))) (V := V) (p := b) (off := 128) (s := { s with heap := h₈, toks := tk }) hh hd' hu' (W.keeps F₈.keep) F₈ (fun b o eb => F₈.keep b o (hV b o eb)) hVL mp mo hbv (by (clear hB hVL hVP hd hd' henc hfr hh hn hn' hno hser hu hu' hz mo mp; omega)) (.inl rfl) fun h₉ tt t9 k₉ => ?_
      have k09 : ∀ b o, s.heap.get? b = some o → h₉.get? b = some o := fun b o eb => k₉ b o (Nat.ne_of_lt (Heap.lt_size eb)) (F₈.keep b o eb)
      exact q0 _ _ ⟨hser, ⟨h₉, s.gens, tt, rfl, fun b o _ eb => k09 b o eb, fun _ _ => rfl, id⟩, TT.at (fun o eb => k09 _ o eb) (fun o eb => k09 _ o eb), .inl ⟨t9, by rw [henc, if_neg hno]⟩⟩
    have len : wpAny (model pw w) (A.deeper (envOf (fd 11).name (fd 11).scope s.heap.objs.size G.a11 (.ref c))) (call (.builtin "len") [v]) (fun r s' => Keeps { s with heap := h₂, toks := tk₂ } s' ∧ ∃ t', r = .int b.size t') (fun _ _ => False) { s with heap := h₂, toks := tk₂ } := by
      rcases hbv with ⟨tk, rfl⟩ | ⟨a, rfl, ha⟩
      · exact amaxA (len_bytes (by (clear hB hVL hVP hd hd' henc hfr hh hn hn' hser hu hu' hz; omega))) hh (by show A.depth + 1 ≤ 900; (clear hB hVL hVP hb hd henc hfr hh hn hn' hser hu hu' hz; omega)) (by show A.units + 3 ≤ 9000; (clear hB hVL hVP hb hd hd' henc hfr hh hn hn' hser hu hz; omega))
      · exact amaxA (len_ba (by (clear hB hVL hVP ha hd hd' henc hfr hh hn hn' hser hu hu' hz; omega)) (hV₂ _ _ ha)) hh (by show A.depth + 1 ≤ 900; (clear hB hVL hVP ha hb hd henc hfr hh hn hn' hser hu hu' hz; omega)) (by show A.units + 3 ≤ 9000; (clear hB hVL hVP ha hb hd hd' henc hfr hh hn hn' hser hu hz; omega))
    refine wpAny_execs_cons (wpAny_If (isTrue_and (wpAny_isTrue_Compare1 ?_ (by rfl))))
    refine Call_Name1 (bname W₂ ⟨rfl, rfl, rfl⟩ rfl (glo_len _ _) (blt_len _) ?_) rfl
    refine callWith_builtin rfl (evalArgs_plain (spliced_cons (ld F₂ rfl (spliced_nil ?_))))
    refine wpAny_mono len (fun r s₃ h₃ => ?_) fun _ _ z => z.elim
    obtain ⟨⟨h₃, tk₃, rfl, k₃⟩, t3, rfl⟩ := h₃
    dsimp only at k₃ ⊢
    have F₃ := F₂.keeps k₃
    have hV₃ : VLe V h₃.get? := fun b o e => F₃.keep b o (hV b o e)
    refine wpAny_Constant_int (eq_int (wpAny_truthy_bool ?_))
    by_cases e1 : b.size = 1
    · rw [show ((b.size : Int) == 1) = true by simp [e1], if_pos rfl]
      obtain ⟨x, rfl⟩ := arr1 e1
      have item : ∀ (Q' : Value → Shared → Prop) (E' : Value → Shared → Prop) (value slice : Expr) (tk : Nat) (t0 : Tok) (hs : subscripted slice false v (.int 0 t0) = operate [v, .int 0 t0] (getItem v (.int 0 t0))) (ht : ∀ r, letTemporaryGo value v r = pure ()),
          (∀ t' k, Q' (.int (x.toNat : Nat) t') { s with heap := h₃, toks := k }) → wpAny (model pw w) (A.deeper (envOf (fd 11).name (fd 11).scope s.heap.objs.size G.a11 (.ref c))) (subscriptTail value slice v (.int 0 t0)) Q' E' { s with heap := h₃, toks := tk } := by
        intro Q' E' value slice tk t0 hs ht hq
        rcases hbv with ⟨tkk, rfl⟩ | ⟨a, rfl, ha⟩
        · exact KBy.item_N (x := [x]) (by simp) (by decide) (by simp) (hq _ _) hs ht
        · exact item_ba (hV₃ _ _ ha) hq hs ht
      refine isTrue_and (wpAny_isTrue_Compare1 (Subscript_ (ld F₃ rfl (wpAny_Constant_int (item _ _ _ _ _ _ (by with_unfolding_all rfl) (by intro _; with_unfolding_all rfl) fun t' k => ?_)))) (by rfl))
      refine wpAny_Constant_int (lt_int (wpAny_truthy_bool ?_))
      by_cases e2 : x < 128
      · have c2 : decide (((x.toNat : Nat) : Int) < 128) = true := by
          have : x.toNat < 128 := UInt8.lt_iff_toNat_lt.mp e2
          exact decide_eq_true (by (clear e1 hB hVL hVP hb hd hd' henc hfr hh hn hn' hser hu hu' hz; omega))
        rw [c2, if_pos rfl]
        refine isTrue_and_nil ?_
        rw [if_pos rfl]
        refine wpAny_execs_cons (wpAny_Return_some (ld F₃ rfl ?_))
        refine q0 _ _ ⟨hser, ⟨h₃, s.gens, _, rfl, fun b o _ eb => F₃.keep b o eb, fun _ _ => rfl, id⟩, TT.at (fun o eb => F₃.keep _ o eb) (fun o eb => F₃.keep _ o eb), ?_⟩
        rw [henc, if_pos ⟨rfl, e2⟩]
        exact hbv
      · have c2 : decide (((x.toNat : Nat) : Int) < 128) = false := by
          have : ¬ x.toNat < 128 := fun q => e2 (UInt8.lt_iff_toNat_lt.mpr q)
          exact decide_eq_false (by (clear e1 hB hVL hVP hb hd hd' henc hfr hh hn hn' hser hu hu' hz; omega))
        rw [c2, if_neg (by simp)]
        refine wpAny_execs_nil ?_
        dsimp only
        refine wpAny_execs_cons (wpAny_Assign_Name (ld F₃ rfl ?_) (by rfl))
        refine stK F₃ News.nil (fun h₄ F₄ _ _ => ?_) (by rfl) (by rfl)
        dsimp only
        refine wpAny_execs_cons (wpAny_Assign_Name (wpAny_Constant_int ?_) (by rfl))
        refine stK F₄ News.nil (fun h₅ F₅ _ _ => ?_) (by rfl) (by rfl)
        dsimp only
        refine wpAny_execs_nil ?_
        dsimp only
        exact fin _ _ _ _ _ F₅ rfl rfl fun q => e2 q.2
    · rw [show ((b.size : Int) == 1) = false by simp; (clear hB hVL hVP hb hd hd' henc hfr hh hn hn' hser hu hu' hz; omega), if_neg (by simp)]
      refine wpAny_execs_nil ?_
      dsimp only
      refine wpAny_execs_cons (wpAny_Assign_Name (ld F₃ rfl ?_) (by rfl))
      refine stK F₃ News.nil (fun h₄ F₄ _ _ => ?_) (by rfl) (by rfl)
      dsimp only
      refine wpAny_execs_cons (wpAny_Assign_Name (wpAny_Constant_int ?_) (by rfl))
      refine stK F₄ News.nil (fun h₅ F₅ _ _ => ?_) (by rfl) (by rfl)
      dsimp only
      refine wpAny_execs_nil ?_
      dsimp only
      exact fin _ _ _ _ _ F₅ rfl rfl fun q => e1 q.1
  | false =>
    rw [if_neg (by simp)]
    refine wpAny_execs_cons (wpAny_If (isTrue_plain ?_))
    refine at_le (n := 2) (mono_k0 (isi_test_s W₂ ⟨rfl, rfl, rfl⟩ (by rfl) (fun Q' s' k q => ld (F₂.keeps (keeps_of k)) rfl q) (Has.mono F₂.keep t v H)) fun h₃ tk₃ k₃ => ?_) hh hd' hu'
    refine wpAny_truthy_bool ?_
    dsimp only at k₃ ⊢
    have F₃ := F₂.keeps k₃
    have W₃ := W.keeps F₃.keep
    have hV₃ : VLe V h₃.get? := fun b o e => F₃.keep b o (hV b o e)
    cases hS : t.isS with
    | true =>
      rw [if_pos rfl]
      obtain ⟨al, vs, rfl, hsrc, hzs, hA⟩ := Has.seqV HV hS
      have hencs : t.enc = byteArr (headL 192 (T.encs t.kids).size) ++ T.encs t.kids := by cases t <;> first | rfl | cases hS
      have hsers : t.ser = T.sers t.kids := by cases t <;> first | rfl | cases hS
      have hkz : (T.encs t.kids).size ≤ 60000 := by rw [hencs, Array.size_append] at hz; (clear hB hS hVP hd hd' hencs hfr hh hn hn' hsers hu hu' hzs; omega)
      obtain ⟨n, rfl⟩ : ∃ k, n = k + 1 := by
        rw [T.kids_ht hS] at hn
        exact ⟨n - 1, by (clear hB hS hVP hd hd' hencs hfr hh hkz hsers hu hu' hz hzs; omega)⟩
      have IH : ∀ (i : Nat) t', t.kids[i]? = some t' → EncOk w G pm doc c P (DD n) (UU n) t' := fun i t' ht' =>
        IH0 n rfl t' (by rw [T.kids_ht hS] at hn; have := T.ht_mem ht'; (clear hB hS hVP hd hd' hencs hfr hh hkz hn' hsers ht' hu hu' hz hzs; omega)) (by (clear hB hS hVP hd hd' hencs hfr hh hkz hn hsers ht' hu hu' hz hzs; omega)) (by have := T.encs_le ht'; (clear hB hS hVP hd hd' hencs hfr hh hn hn' hsers ht' hu hu' hz hzs; omega))
      obtain ⟨oL, esL, epL, hoL, hdL, _⟩ := id F₃.ns
      have TT₃ : EncT c P h₃ := TT.at (fun o eb => F₃.keep _ o eb) (fun o eb => F₃.keep _ o eb)
      have X₃ : EncF G pm doc c h₃.get? := X.keepsC fun b o _ eb => F₃.keep b o eb
      have hFF₃ : h₃.FunFrames noHeap (envOf (fd 11).name (fd 11).scope s.heap.objs.size G.a11 (.ref c) :: outer) :=
        ⟨hkm, ⟨s.heap.objs.size, oL, rfl, Heap.get?_none_of_le (by simp), hoL, fun vs' q => by rw [hdL] at q; cases q⟩, FunFrames.keepsP hFF TT fun b o _ eb => F₃.keep b o eb⟩
      have h46₃ : 46 ∉ frs (envOf (fd 11).name (fd 11).scope s.heap.objs.size G.a11 (.ref c) :: outer) := by
        intro hm
        rcases List.mem_cons.mp (show 46 ∈ s.heap.objs.size :: frs outer from hm) with e | hm
        · exact absurd (Heap.lt_size W.c46) (by rw [← e]; exact Nat.lt_irrefl _)
        · exact h46 hm
      refine wpAny_execs_cons (wpAny_Assign_Name ?_ (by rfl))
      refine call_attr (by rfl) (by rfl) (by rfl) (Constant_bytes fun pl => ?_)
      refine meth_join ?_
      refine callWith_builtin rfl (evalArgs_plain (spliced_cons ?_))
      refine wpAny_mono (Q := fun r s₅ => wpAny (model pw w) (A.deeper (envOf (fd 11).name (fd 11).scope s.heap.objs.size G.a11 (.ref c))) (call (.builtin "bytes.join") [.bytes #[] tk₃, r])
          (fun r s' => ∃ t', r = .bytes (T.encs t.kids) t' ∧ KeepsP P { s with heap := h₃, toks := tk₃ + 1 } s' ∧ EncT c P s'.heap ∧ T.sers t.kids = true)
          (fun e s' => T.sers t.kids = false ∧ ErrE c P (envOf (fd 11).name (fd 11).scope s.heap.objs.size G.a11 (.ref c) :: outer) { s with heap := h₃, toks := tk₃ + 1 } e s') s₅)
        (E := fun e s' => T.sers t.kids = false ∧ ErrE c P (envOf (fd 11).name (fd 11).scope s.heap.objs.size G.a11 (.ref c) :: outer) { s with heap := h₃, toks := tk₃ + 1 } e s')
        (gen_join (D := DD n) (U := UU n) (outer := outer) (h₀ := s.heap) (L := s.heap.objs.size) (al := al) (V := V) (xs := t.kids) (vs := vs) (c := c) (P := P) (pm := pm) (doc := doc)
        (by rfl) ?_ (by rfl) (by rfl) (by rfl) (by rfl) (by rfl) (by rfl) (by rfl) hh (Around.frames_deeper hfr) ?_ ?_ ?_ hFF₃ h46₃ W₃ X₃ TT₃ hV₃ hVP F₃ rfl (hsrc h₃ hV₃) hA hzs (by (clear hB hS hVP hd hd' hencs hfr hh hn hn' hoL hsers hu hu' hz hzs; omega)) IH ?_ ?_) (fun r s₅ h₅ => ?_) (fun e s₅ h₅ => ?_)
      · decide
      · show A.depth + 1 + 1 ≤ DD n
        simp only [DD] at hd ⊢
        (clear hB hS hVP hd' hencs hfr hh hkz hn hoL hsers hu hu' hz hzs; omega)
      · show A.units + 3 + 7 ≤ UU n
        simp only [UU] at hu ⊢
        (clear hB hS hVP hd hd' hencs hfr hh hkz hn hoL hsers hu' hz hzs; omega)
      · simp only [DD]; (clear hB hS hVP hd hd' hencs hfr hh hkz hn hoL hsers hu hu' hz hzs; omega)
      · exact fun s' t' h1 h2 h3 => ⟨t', rfl, h1, h2, h3⟩
      · exact fun e s' h1 h2 => ⟨h1, h2⟩
      · refine spliced_nil (wpAny_mono h₅ (fun r' s₆ h₆ => ?_) fun e s₆ h₆ => ?_)
        · obtain ⟨t6, rfl, hK, hT₆, hs₆⟩ := h₆
          have hkk := hK.heap
          obtain ⟨h₆, g₆, tk₆, rfl, _, hg₆, hb₆⟩ := hK
          dsimp only at hkk hT₆ hg₆ hb₆ ⊢
          obtain ⟨ps0, hPt⟩ := TT.table
          have hPlt : P < s.heap.objs.size := Heap.lt_size hPt
          have k06 : ∀ b o, b ≠ P → s.heap.get? b = some o → h₆.get? b = some o := fun b o hb eb => hkk b o hb (F₃.keep b o eb)
          have hVP2 : ∀ b o, V b = some o → h₆.get? b = some o := fun b o eb => k06 b o (by rintro rfl; rw [hVP] at eb; cases eb) (hV b o eb)
          have F₆ : Fr (hideAll s.heap [P]) s.heap.objs.size h₆ _ := ⟨F₃.ns.at' fun o eb => hkk _ o (Nat.ne_of_gt hPlt) eb, fun b o eb => k06 b o (by rintro rfl; rw [hideAll_none [b] (.head _)] at eb; cases eb) (of_hideAll _ eb), by rw [hideAll_size]; exact Nat.le_refl _⟩
          have hVL : V s.heap.objs.size = none := by
            cases q : V s.heap.objs.size with
            | none => rfl
            | some o => exact absurd (Heap.lt_size (hV _ _ q)) (Nat.lt_irrefl _)
          refine stK F₆ News.nil (fun h₇ F₇ _ k₇ => ?_) (by rfl) (by rfl)
          dsimp only at k₇ ⊢
          refine wpAny_execs_cons (wpAny_Assign_Name (wpAny_Constant_int ?_) (by rfl))
          refine stK F₇ News.nil (fun h₈ F₈ _ k₈ => ?_) (by rfl) (by rfl)
          dsimp only at k₈ ⊢
          refine wpAny_execs_nil ?_
          dsimp only
          refine wpAny_execs_nil ?_
          dsimp only
          have k68 : ∀ b o, b ≠ s.heap.objs.size → h₆.get? b = some o → h₈.get? b = some o := fun b o hb eb => k₈ b o hb (k₇ b o hb eb)
          have k08 : ∀ b o, b ≠ P → s.heap.get? b = some o → h₈.get? b = some o := fun b o hb eb => k68 b o (Nat.ne_of_lt (Heap.lt_size eb)) (k06 b o hb eb)
          refine enc_tail (A := A.deeper (envOf (fd 11).name (fd 11).scope s.heap.objs.size G.a11 (.ref c))) (V := V) (p := T.encs t.kids) (off := 192) (s := { heap := h₈, gens := g₆, drawn := s.drawn, toks := tk₆ + 1 + 1 + 1, os := s.os }) hh hd' hu' (W.keepsP TT k08) F₈ (fun b o eb => k68 b o (by rintro rfl; rw [hVL] at eb; cases eb) (hVP2 b o eb)) hVL rfl rfl (.inl ⟨_, rfl⟩) hkz (.inr rfl) fun h₉ tt t9 k₉ => ?_
          have k09 : ∀ b o, b ≠ P → s.heap.get? b = some o → h₉.get? b = some o := fun b o hb eb => k₉ b o (Nat.ne_of_lt (Heap.lt_size eb)) (k08 b o hb eb)
          refine q0 _ _ ⟨by rw [hsers]; exact hs₆, ⟨h₉, g₆, tt, rfl, k09, hg₆, hb₆⟩, hT₆.at (fun o eb => ?_) (fun o eb => ?_), .inl ⟨t9, by rw [hencs]⟩⟩
          · obtain ⟨oc, vc, c1, _, _⟩ := TT.code
            have hcl := Nat.ne_of_lt (Heap.lt_size c1)
            exact k₉ c o hcl (k68 c o hcl eb)
          · have hpl := Nat.ne_of_lt hPlt
            exact k₉ P o hpl (k68 P o hpl eb)
        · refine wpAny_mono (E := fun _ _ => False) (leave_on (Q := fun _ s' => ErrE c P outer s e s') (s0 := s) (Around.frames_deeper hfr) rfl h₆.2 (fun b o _ eb => F₃.keep b o eb) (Heap.get?_none_of_le (by simp)) rfl rfl id (fun o ho => by obtain ⟨ps, hp⟩ := TT.table; rw [hp] at ho; cases ho; exact ⟨_, rfl⟩) (fun s' hE' _ => hE')) (fun _ s' hE' => ?_) fun _ _ z => z.elim
          exact e0 _ _ ⟨by rw [hsers]; exact h₆.1, hE'⟩
      · refine wpAny_mono (E := fun _ _ => False) (leave_on (Q := fun _ s' => ErrE c P outer s e s') (s0 := s) (Around.frames_deeper hfr) rfl h₅.2 (fun b o _ eb => F₃.keep b o eb) (Heap.get?_none_of_le (by simp)) rfl rfl id (fun o ho => by obtain ⟨ps, hp⟩ := TT.table; rw [hp] at ho; cases ho; exact ⟨_, rfl⟩) (fun s' hE' _ => hE')) (fun _ s' hE' => ?_) fun _ _ z => z.elim
        exact e0 _ _ ⟨by rw [hsers]; exact h₅.1, hE'⟩
    | false =>
      rw [if_neg (by simp)]
      refine wpAny_execs_cons (wpAny_Assign_Name (Constant_str ?_) (by rfl))
      refine stK F₃ News.nil (fun h₄ F₄ _ k₄ => ?_) (by rfl) (by rfl)
      dsimp only at k₄ ⊢
      have W₄ := W.keeps F₄.keep
      refine wpAny_execs_cons ?_
      rw [arm_exec_Raise]
      refine wpAny_bind (wpAny_standAt (raise_46 (P := w.params) hh ?_))
      refine wpAny_bind (wpAny_mono (E := fun _ _ => False) ?_ (fun r s₅ h₅ => wpAny_bind (wpAny_standAt (wpAny_pure h₅))) fun _ _ z => z.elim)
      refine Call_Name2 (gname W₄ ⟨rfl, rfl, rfl⟩ rfl (lk_EncodingError _ _) ?_) rfl
      refine callWith_of (P := fun h => (K46 w.params).In h) rfl (fun h X => keeps_K (by kernel_rfl) h X) (evalArgs_plain (spliced_cons (ld F₄ rfl (spliced_cons (ld F₄ rfl (spliced_nil ⟨K46_in W₄, ?_⟩))))))
      refine wpAny_mono (mk_46 (A := A.deeper (envOf (fd 11).name (fd 11).scope s.heap.objs.size G.a11 (.ref c))) W₄ hh (by show A.depth + 1 ≤ 870; (clear hB hS hVP hd hfr hh hn hn' hu hu' hz; omega)) (by show A.units + 3 ≤ 8800; (clear hB hS hVP hd hd' hfr hh hn hn' hu hz; omega))) (fun r s₅ h₅ => ?_) fun _ _ z => z
      obtain ⟨⟨h₅, tk₅, rfl, k₅⟩, e, oe, vs, rfl, hfr₅, he₅, hc₅, hd₅, hv₅⟩ := h₅
      dsimp only at k₅ hfr₅ he₅ ⊢
      have k05 : ∀ b o, s.heap.get? b = some o → h₅.get? b = some o := fun b o eb => k₅ b o (F₄.keep b o eb)
      have k45 := k₅
      refine ⟨e, oe, vs, rfl, he₅, hc₅, hd₅, hv₅, (W.keeps k05).c46, ?_⟩
      have hser : t.ser = false := by cases t <;> simp_all [T.isB, T.isS, T.ser]
      obtain ⟨oL, esL, epL, hoL, hdL, _⟩ := F₄.ns
      refine wpAny_mono (E := fun _ _ => False) (leave_made (Q := fun _ s' => ErrE c P outer s (.ref e) s') (s0 := s) (c := c) (P := P) (outer := outer) (L := s.heap.objs.size) (Around.frames_deeper hfr) ⟨hkm, ⟨s.heap.objs.size, oL, rfl, Heap.get?_none_of_le (by simp), k₅ _ _ hoL, fun vs' q => by rw [hdL] at q; cases q⟩, FunFrames.keepsP hFF TT fun b o _ eb => k05 b o eb⟩ rfl he₅ hc₅ hd₅ hv₅ (TT.at (fun o eb => k05 _ _ eb) (fun o eb => k05 _ _ eb)) (fun b o _ eb => k05 b o eb) ?_ (Heap.get?_none_of_le (by simp)) rfl rfl id (fun o ho => by obtain ⟨ps, hp⟩ := TT.table; rw [hp] at ho; cases ho; exact ⟨_, rfl⟩) (fun s' hE' => hE')) (fun _ s' hE' => ?_) fun _ _ z => z.elim
      · cases q : s.heap.get? e with
        | none => rfl
        | some o => have := F₄.keep e o q; rw [hfr₅] at this; cases this
      · exact e0 _ _ ⟨hser, hE'⟩
theorem enc_ok (w : World) (G : Glo) (pm doc : Value) (c P : Addr) (n : Nat) : ∀ t : T, EncC w G pm doc c P n t := by
  induction n with
  | zero => exact fun t => enc_step fun m e => by cases e
  | succ n ih => exact fun t => enc_step fun m e => by cases e; exact ih
end Mine
end E3_part
section Sz_part
open PySem PySem.W PySem.Calls PyProof.Rows
set_option Elab.async false
set_option maxRecDepth 100000
set_option maxHeartbeats 4000000
namespace Mine
/-- a SerializationError on its way out -/
noncomputable def ErrS (outer : List Env) (s : Shared) (e : Value) (s' : Shared) : Prop :=
  ∃ base' e', e = .ref e' ∧ (∀ b o, b ∉ frs outer → s.heap.get? b = some o → base'.get? b = some o) ∧ Heap.Flying base' outer e' (.ref 88) s'.heap ∧ s'.os = s.os ∧ s'.drawn = s.drawn ∧ s'.gens = s.gens ∧ s.heap.UpToSlots s'.heap
section
variable {M : Model} {A : Around} {E : Value → Shared → Prop} {s : Shared}
theorem leave_made88 {env : Env} {outer : List Env} {L e : Addr} {oe : Obj} {vs : Array Value} {s0 : Shared} {Q : Unit → Shared → Prop}
    (hfr : A.frames = some (env :: outer)) (hl : s.heap.FunFrames noHeap (env :: outer)) (hf : env.frame = some L)
    (he : s.heap.get? e = some oe) (hc : oe.cls = .ref 88) (hd : oe.data = .fields vs) (h1 : vs[1]? = some .none)
    (hk : ∀ b o, s0.heap.get? b = some o → s.heap.get? b = some o) (hen : s0.heap.get? e = none) (hL : s0.heap.get? L = none)
    (hos : s.os = s0.os) (hdr : s.drawn = s0.drawn) (hg : s.gens = s0.gens)
    (hQ : ∀ s', ErrS outer s0 (.ref e) s' → Q () s') : wpAny M A (leaving env (.ref e)) Q E s := by
  have hfl : s.heap.FunFrames (hideAll s.heap (e :: frs (env :: outer))) (env :: outer) := funFrames_hide hl (frames_in fun b hb => .tail _ hb)
  have hfrs : frs (env :: outer) = L :: frs outer := by unfold frs; rw [List.filterMap_cons, hf]
  refine wpAny_leaving_first hfr hfl hf he (fun b o hb => of_hideAll _ hb) (hideAll_none _ (.head _)) hd h1 fun h' hL' => hQ _ ?_
  obtain ⟨k1, ⟨_, _, k2⟩, k3, k4⟩ := hL'
  refine ⟨hideAll s.heap (e :: frs (env :: outer)), e, rfl, fun b o hbf hb => hideAll_get _ (hk b o hb) fun hm => ?_, ⟨k1, hideAll_none _ (.head _), k2, by rw [← hc]; exact k3⟩, hos, hdr, hg, fun b o hb hn => k4 b o (hk b o hb) hn⟩
  rcases List.mem_cons.mp hm with rfl | hm
  · rw [hen] at hb; cases hb
  · rw [hfrs] at hm
    rcases List.mem_cons.mp hm with rfl | hm
    · rw [hL] at hb; cases hb
    · exact hbf hm
end
theorem szl_ok {w : World} {G : Glo} {A : Around} {outer : List Env} {s : Shared} {V : View} {v : Value} {t : T} {n : Nat} (hn : t.ht ≤ n) (hn' : n ≤ 40) (hh : A.handled = none) (hfr : A.frames = some outer) (hd : A.depth ≤ 400) (hu : A.units ≤ 3000)
    (hFF : s.heap.FunFrames noHeap outer) (W : Wld w G s.heap.get?) (hV : VLe V s.heap.get?) (HV : Has V t v) :
    wpAny (model pw w) A (call (.ref G.a22) [v]) (fun r s' => t.ser = true ∧ Keeps s s' ∧ r = v) (fun e s' => t.ser = false ∧ ErrS outer s e s') s := by
  obtain ⟨pm, c, doc, dV, vs, dict, cvs, sl, qt, f1, f2, f3, f4, f5⟩ := W.fns (22, G.a22) (Glo.m22 _)
  have H := Has.mono hV t v HV
  have hcell : ∀ x ∈ (fd 22).scope.names, x.2 ≠ .cell := by
    have h : ((fd 22).scope.names.all fun x => x.2 != .cell) = true := by kernel_rfl
    intro x hx
    simpa using List.all_eq_true.mp h x hx
  have hkm : (fd 22).scope.kind ≠ .module := by rw [show (fd 22).scope.kind = .function by kernel_rfl]; decide
  have hvs : vs = [] := by
    have h0 : (fd 22).params.defaults = [] := by kernel_rfl
    dsimp only at f2
    rw [h0] at f2
    cases vs with
    | nil => rfl
    | cons v r => exact f2.elim
  have hdV : dV = .none := by
    rcases f3 with ⟨_, e⟩ | z
    · exact e
    · exact absurd hvs z.1
  subst hdV
  refine wpAny_call (call_plain (name := (fd 22).name) (params := (fd 22).params) (body := (fd 22).body) (scope := (fd 22).scope) (pm := pm) (cd := .ref c) (doc := doc) (binds := [("obj", v)]) (by show A.depth < 1000; (clear f1 f3 f4 f5 hfr hh hn hn' hu hvs; omega)) f1 rfl W.limit ⟨c, _, cvs, qt, rfl, f4, rfl, f5⟩ (by kernel_rfl) (locs (by kernel_rfl)) (fun h₁ F => ?_) (by kernel_rfl) (by kernel_rfl) (by kernel_rfl) hcell)
  have W₁ := W.keeps F.keep
  refine wpAny_execs_cons (wpAny_If (isTrue_not (isTrue_plain ?_)))
  refine Call_Name1 (gname W₁ ⟨rfl, rfl, rfl⟩ rfl (lk_serializable _ _) ?_) rfl
  refine callWith_g (k := 21) W₁ (Glo.m21 _) (spliced_cons (ld F rfl (spliced_nil ⟨fun _ _ _ e => e, ?_⟩)))
  refine at_le (n := 41) (mono_k0 (at_le (n := n + 1) (ser_ok w G n t hn (by (clear f1 f3 f4 f5 hd hfr hh hn hu hvs; omega)) _ v W₁ (Has.mono F.keep t v H)) rfl (by show 880 - 8 * 41 ≤ 880 - 8 * (n + 1); (clear f1 f3 f4 f5 hd hfr hh hn hu hvs; omega)) (by show 8800 - 80 * 41 ≤ 8800 - 80 * (n + 1); (clear f1 f3 f4 f5 hd hfr hh hn hu hvs; omega))) fun h₂ tk₂ k₂ => ?_) hh (by show A.depth + 1 ≤ 880 - 8 * 41; (clear f1 f3 f4 f5 hfr hh hn hn' hu hvs; omega)) (by show A.units + 3 ≤ 8800 - 80 * 41; (clear f1 f3 f4 f5 hd hfr hh hn hn' hvs; omega))
  dsimp only at k₂ ⊢
  have F₂ := F.keeps k₂
  have W₂ := W.keeps F₂.keep
  refine wpAny_truthy_bool ?_
  cases hs : t.ser with
  | true =>
    rw [Bool.not_true, if_neg (by simp)]
    refine wpAny_execs_nil ?_
    dsimp only
    exact wpAny_execs_cons (wpAny_Return_some (ld F₂ rfl ⟨rfl, ⟨_, _, rfl, fun b o e => F₂.keep b o e⟩, rfl⟩))
  | false =>
    rw [Bool.not_false, if_pos rfl]
    refine wpAny_execs_cons ?_
    rw [arm_exec_Raise]
    refine wpAny_bind (wpAny_standAt (raise_88 (P := w.params) hh ?_))
    refine wpAny_bind (wpAny_mono (E := fun _ _ => False) ?_ (fun r s₅ h₅ => wpAny_bind (wpAny_standAt (wpAny_pure h₅))) fun _ _ z => z.elim)
    refine Call_Name2 (gname W₂ ⟨rfl, rfl, rfl⟩ rfl (lk_SerializationError _ _) ?_) rfl
    refine callWith_of (P := fun h => (K88 w.params).In h) rfl (fun h X => keeps_K (by kernel_rfl) h X) (evalArgs_plain (spliced_cons (Constant_str (k := 0) (pos := default) (spliced_cons (ld F₂ rfl (spliced_nil ⟨K88_in W₂, ?_⟩))))))
    refine wpAny_mono (mk_88 (A := A.deeper (envOf (fd 22).name (fd 22).scope s.heap.objs.size G.a22 (.ref c))) W₂ hh (by show A.depth + 1 ≤ 870; (clear f1 f3 f4 f5 hfr hh hn hn' hs hu hvs; omega)) (by show A.units + 3 ≤ 8800; (clear f1 f3 f4 f5 hd hfr hh hn hn' hs hvs; omega))) (fun r s₅ h₅ => ?_) fun _ _ z => z
    obtain ⟨⟨h₅, tk₅, rfl, k₅⟩, e, oe, vs, rfl, hfr₅, he₅, hc₅, hd₅, hv₅⟩ := h₅
    dsimp only at k₅ hfr₅ he₅ ⊢
    have k05 : ∀ b o, s.heap.get? b = some o → h₅.get? b = some o := fun b o eb => k₅ b o (F₂.keep b o eb)
    refine ⟨e, oe, vs, rfl, he₅, hc₅, hd₅, hv₅, (W.keeps k05).c88, ?_⟩
    obtain ⟨oL, esL, epL, hoL, hdL, _⟩ := F₂.ns
    refine wpAny_mono (E := fun _ _ => False) (leave_made88 (Q := fun _ s' => ErrS outer s (.ref e) s') (s0 := s) (outer := outer) (L := s.heap.objs.size) (Around.frames_deeper hfr) ⟨hkm, ⟨s.heap.objs.size, oL, rfl, Heap.get?_none_of_le (by simp), k₅ _ _ hoL, fun vs' q => by rw [hdL] at q; cases q⟩, hFF.of_keeps fun b o eb _ => ⟨o, k05 b o eb, rfl⟩⟩ rfl he₅ hc₅ hd₅ hv₅ (fun b o eb => k05 b o eb) ?_ (Heap.get?_none_of_le (by simp)) rfl rfl rfl (fun s' hE' => hE')) (fun _ s' hE' => ?_) fun _ _ z => z.elim
    · cases q : s.heap.get? e with
      | none => rfl
      | some o => have := F₂.keep e o q; rw [hfr₅] at this; cases this
    · exact ⟨rfl, hE'⟩
end Mine
end Sz_part
section ForI_part
open PySem PySem.W PySem.Calls PyProof.Rows
set_option Elab.async false
set_option maxRecDepth 100000
set_option maxHeartbeats 4000000
namespace Mine
section
variable {prog : Program} {w : World} {A : Around} {s : Shared} {env : Env}
/-- a for loop with an invariant over heap and names -/
structure LoopI (prog : Program) (w : World) (A : Around) (env : Env) (x : PySem.Str) (body : List Stmt) (Q : Flow → Shared → Prop) (it : Value) (s₂ : Shared) (I : Addr) (fp : List Addr) (n : Nat) (P : Nat → Value → Prop) (St : Nat → Heap → Prop)
    (m : PySem.Str → Option Value) (J : Nat → Heap → (PySem.Str → Option Value) → Prop) : Prop where
  it : it = .ref I
  W : Walks prog w A I fp [I] n P St
  Lf : env.locals ∉ fp
  LI : env.locals ≠ I
  st : St 0 s₂.heap
  ns : s₂.heap.Ns env.locals m
  j0 : J 0 s₂.heap m
  rob : ∀ i h h' m, J i h m → (∀ b o, b ≠ I → b ≠ env.locals → h.get? b = some o → h'.get? b = some o) → J i h' m
  step : ∀ i v h m tk, i < n → P i v → J i h m → St (i + 1) h → h.Ns env.locals (fun y => if y = x then some v else m y) →
    wpAny (model prog w) A (execs body env) (fun f s₃ => f = .next ∧ ∃ h' tk' m', s₃ = { s₂ with heap := h', toks := tk' } ∧ J (i + 1) h' m' ∧ h'.Ns env.locals m' ∧ ∀ b ∈ fp, ∀ o, h.get? b = some o → h'.get? b = some o) (fun _ _ => False) { s₂ with heap := h, toks := tk }
  fin : ∀ h' tk m', J n h' m' → h'.Ns env.locals m' → Q .next { s₂ with heap := h', toks := tk }
theorem for_inv {Q : Flow → Shared → Prop} {x : PySem.Str} {px pos : Pos} {iter : Expr} {body : List Stmt} (hx : env.kindOf x = some .local)
    (hp : (env.scope.kind == .class || (env.scope.kind == .module && env.locals != env.globals)) = false)
    (h : wpAny (model prog w) A (eval iter env) (fun xv s₁ => wpAny (model prog w) A (pyIter xv) (fun it s₂ => ∃ I fp n P St m J, LoopI prog w A env x body Q it s₂ I fp n P St m J) (fun _ _ => False) s₁) (fun _ _ => False) s)
    (hs : ∀ x, foldedSetIterable iter env x = pure x := by intro _; rfl) :
    wpAny (model prog w) A (exec (.For (.Name x px) iter body [] pos) env) Q (fun _ _ => False) s := by
  refine wpAny_For (wpAny_mono h (fun xv s₁ h₁ => wpAny_mono h₁ (fun it s₂ h₂ => ?_) fun _ _ e => e.elim) fun _ _ e => e.elim) hs
  obtain ⟨I, fp, n, P, St, m, J, H⟩ := h₂
  have hit := H.it
  subst hit
  refine codeAny_forLoop (fun k s' => ∃ h' tk m' i, s' = { s₂ with heap := h', toks := tk } ∧ St i h' ∧ h'.Ns env.locals m' ∧ J i h' m' ∧ i ≤ n ∧ k = n + 1 - i) ?_ (n + 1) ⟨s₂.heap, s₂.toks, m, 0, rfl, H.st, H.ns, H.j0, Nat.zero_le _, rfl⟩
  rintro k s' ⟨h', tk, m', i, rfl, hst, hns, hJ, hi, rfl⟩
  have hLw : env.locals ∉ [I] := fun q => H.LI (List.mem_singleton.mp q)
  by_cases hlt : i < n
  · refine H.W.item i _ _ _ hlt hst fun v h₁ tk₁ hP hst₁ hk₁ => ?_
    refine wpAny_assign_Name (wpAny_storeName_local hx (hns.at' fun o e => hk₁ _ o hLw e) (fun h₂ hn₂ hs₂ => ?_) hp)
    have hst₂ : St (i + 1) h₂ := H.W.frame _ _ _ hst₁ fun b hb o e => hs₂.extBut b o (fun q => H.Lf (q ▸ hb)) e
    have hJ₂ : J i h₂ m' := H.rob i h' h₂ m' hJ fun b o hbI hbL e => hs₂.extBut b o hbL (hk₁ b o (fun q => hbI (List.mem_singleton.mp q)) e)
    refine wpAny_mono (H.step i v h₂ m' _ hlt hP hJ₂ hst₂ hn₂) (fun f s₃ h₃ => ?_) fun _ _ e => e.elim
    obtain ⟨rfl, h₃, tk₃, m₃, rfl, hJ₃, hn₃, hk₃⟩ := h₃
    exact ⟨n + 1 - (i + 1), by (clear hi hp hx; omega), h₃, tk₃, m₃, i + 1, rfl, H.W.frame _ _ _ hst₂ hk₃, hn₃, hJ₃, hlt, rfl⟩
  · obtain rfl : i = n := by (clear hp hx; omega)
    refine H.W.done _ _ _ hst fun h₁ tk₁ hk₁ => wpAny_execs_nil ?_
    exact H.fin h₁ tk₁ m' (H.rob i h' h₁ m' hJ fun b o hbI _ e => hk₁ b o (fun q => hbI (List.mem_singleton.mp q)) e) (hns.at' fun o e => hk₁ _ o hLw e)
end
end Mine
end ForI_part
section Oct_part
open PySem PySem.W PySem.Calls PyProof.Rows
set_option Elab.async false
set_option maxRecDepth 100000
set_option maxHeartbeats 4000000
namespace Mine
noncomputable def octs : Nat → Int → List Int
  | 0, _ => []
  | n + 1, x => x.fmod 256 :: octs n (x.fdiv 256)
theorem octs_len : ∀ (n : Nat) (x : Int), (octs n x).length = n
  | 0, _ => rfl
  | n + 1, x => by rw [octs, List.length_cons, octs_len n]
theorem octs_range : ∀ (n : Nat) (x : Int), ∀ k ∈ octs n x, 0 ≤ k ∧ k < 256
  | 0, _, k, h => by cases h
  | n + 1, x, k, h => by
    rw [octs] at h
    rcases List.mem_cons.mp h with rfl | h
    · exact ⟨Int.fmod_nonneg_of_pos _ (by decide), Int.fmod_lt_of_pos _ (by decide)⟩
    · exact octs_range n _ k h
noncomputable def shift : Nat → Int → Int
  | 0, x => x
  | n + 1, x => shift n (x.fdiv 256)
theorem shift_succ : ∀ (n : Nat) (x : Int), shift (n + 1) x = (shift n x).fdiv 256
  | 0, x => rfl
  | n + 1, x => by rw [shift, shift_succ n, shift]
theorem octs_succ : ∀ (n : Nat) (x : Int), octs (n + 1) x = octs n x ++ [(shift n x).fmod 256]
  | 0, x => rfl
  | n + 1, x => by rw [octs, octs_succ n, octs, shift]; rfl
theorem rs_nat (k : Nat) : Builtin.Range.rangeSize 0 (k : Int) 1 = (k : Int) := by
  unfold Builtin.Range.rangeSize
  simp
  omega
section
variable {w : World} {s : Shared} {G : Glo}
theorem oct_ok {n : Nat} (hn : n < 90) {x : Int} {k : Nat} {t1 t2 : Tok} (hk : k ≤ 8) (W : Wld w G s.heap.get?) :
    wpAny (model pw w) (AT (n + 1)) (call (.ref G.a25) [.int x t1, .int k t2]) (fun r s' => Keeps s s' ∧ ∃ t', r = .bytes (byteArr (octs k x)) t') (fun _ _ => False) s := by
  refine call_fn (k := 25) (binds := [("number", .int x t1), ("size", .int k t2)]) (by (clear hk; omega)) W (Glo.m25 _) (by kernel_rfl) (fun pm cd doc => by kernel_rfl) (by kernel_rfl) fun h₁ cd F => ?_
  refine wpQ fun Q0 q0 => ?_
  refine wpAny_execs_cons (wpAny_Assign_Name (wpAny_List (spliced_nil ⟨by size_fits, ?_⟩)) (by rfl))
  have F1 := F.push { cls := .type "list", data := .seq ([] : List Value).toArray }
  have N1 : News s.heap s.heap.objs.size _ _ := News.push F News.nil { cls := .type "list", data := .seq ([] : List Value).toArray }
  refine stN F1 N1 (fun h₂ F₂ N₂ => ?_)
  dsimp only
  have W₂ := W.keeps F₂.keep
  have hD := N₂ _ (.head _)
  refine wpAny_execs_cons (for_inv (by rfl) (by rfl) ?_ (by intro _; rfl))
  refine Call_Name1 (bname W₂ ⟨rfl, rfl, rfl⟩ rfl (glo_range _ _) (blt_range _) ?_) rfl
  refine PyProof.Rows.callWith_type rfl (evalArgs_plain (spliced_cons (ld F₂ rfl (spliced_nil ?_))))
  refine PySem.call_range_1 ?_
  refine wpAny_pyIter_range (IsRange.new ..) (small_one (by decide) (by decide) (by (clear hD hn; omega)) (by (clear hD hn; omega))) ?_
  rw [rs_nat]
  generalize hro : ({ cls := .type "range", data := .fields #[.int 0 _, .int (k : Int) t2, .int 1 _] } : Obj) = ro
  have hL2 : s.heap.objs.size < h₂.objs.size := F₂.ns.lt
  have hI : (h₂.push ro).objs.size = h₂.objs.size + 1 := Heap.size_push ..
  have LI : s.heap.objs.size ≠ (h₂.push ro).objs.size := by rw [hI]; exact Nat.ne_of_lt (Nat.lt_succ_of_lt hL2)
  have DI : h₁.objs.size ≠ (h₂.push ro).objs.size := by rw [hI]; exact Nat.ne_of_lt (Nat.lt_succ_of_lt (Heap.lt_size hD.1))
  have up : ∀ b o, h₂.get? b = some o → ((h₂.push ro).push { cls := .type "range_iterator", data := .fields #[rawInt 0, rawInt (k : Int), rawInt 1] }).get? b = some o := fun b o e => Heap.get?_push_of_some _ (Heap.get?_push_of_some _ e)
  refine ⟨_, [(h₂.push ro).objs.size], k, _, _, _, fun i h m => (∀ b o, s.heap.get? b = some o → h.get? b = some o) ∧ (∃ tn, m "number" = some (.int (shift i x) tn)) ∧ m "row" = some (.ref h₁.objs.size) ∧ ∃ vs ep, h.get? h₁.objs.size = some (listO vs ep) ∧ IntsAre vs.toList (octs i x),
    { it := rfl, W := Walks.range rfl _ 0 1 k, Lf := ?_, LI := LI, st := ?_, ns := F₂.ns.keeps up, j0 := ⟨fun b o e => up b o (F₂.keep b o e), ⟨_, rfl⟩, rfl, #[], 0, up _ _ hD.1, .nil⟩, rob := ?_, step := ?_, fin := ?_ }⟩
  · intro q
    exact LI (List.mem_singleton.mp q)
  · show IsRangeIter _ _ (0 + ((0 : Nat) : Int) * 1) ((k : Int) - ((0 : Nat) : Int)) 1
    have : IsRangeIter ((h₂.push ro).push { cls := .type "range_iterator", data := .fields #[rawInt 0, rawInt (k : Int), rawInt 1] }) (h₂.push ro).objs.size 0 (k : Int) 1 := Heap.get?_push_size _ rfl
    simpa using this
  · rintro i h h' m ⟨j1, j2, j3, vs, ep, j4, j5⟩ hk'
    refine ⟨fun b o e => hk' b o ?_ (Nat.ne_of_lt (Heap.lt_size e)) (j1 b o e), j2, j3, vs, ep, hk' _ _ DI hD.2.1 j4, j5⟩
    rw [hI]
    exact Nat.ne_of_lt (Nat.lt_succ_of_lt (Nat.lt_trans (Heap.lt_size e) hL2))
  · rintro i v h m tk hi hP ⟨j1, ⟨tn, j2⟩, j3, vs, ep, j4, j5⟩ hst hns
    have F' : Fr s.heap s.heap.objs.size h _ := ⟨hns, j1, Nat.le_refl _⟩
    have hvs : vs.size = i := by rw [← Array.length_toList, j5.length, octs_len]
    have hline : (1000 : Nat) ≤ sizeLine := by decide
    refine wpAny_execs_cons (wpAny_Expr ?_ (by rfl) (by rfl))
    refine wpAny_Call_method1_late (by rfl) (by rfl) (by rfl) (ld F' ((if_neg (by decide)).trans j3) ?_)
    refine ⟨"list", "list.append", PySem.F.plainAttrs_list, PySem.F.slot_list_append, PySem.F.type_list_append, ⟨_, j4, rfl⟩, ?_, ?_⟩
    · rintro a ea
      cases ea
      exact ⟨_, j4, rfl⟩
    refine Calls.callWith_builtin rfl (evalArgs_plain (spliced_cons (wpAny_BinOp (ld F' ((if_neg (by decide)).trans j2) (wpAny_Constant_int (mod_int (by decide) (spliced_nil ?_)))))))
    refine wpAny_list_append_plain ⟨_, j4⟩ (fun h5 hl5 hs5 => ?_) (by (clear DI LI hD hI hL2 hP hn j2 j3 j4; omega))
    obtain ⟨ep5, hl5⟩ := hl5
    dsimp only at hs5 hl5 ⊢
    have F5 := Fr.change F' hD.2.2 hD.2.1 hs5
    refine wpAny_execs_cons (wpAny_Assign_Name (wpAny_BinOp (ld F5 ((if_neg (by decide)).trans j2) (wpAny_Constant_int (floordiv_int (by decide) ?_)))) (by rfl))
    refine stK F5 News.nil (fun h6 F6 _ k6 => ?_) (by rfl) (by rfl)
    dsimp only at k6 ⊢
    refine wpAny_execs_nil ⟨rfl, h6, _, _, rfl, ⟨F6.keep, ⟨tk + 1 + 1 + 1, ?_⟩, ?_, vs.push (.int ((shift i x).fmod 256) (tk + 1)), ep5, k6 _ _ hD.2.1 hl5, ?_⟩, F6.ns, fun b hb o e => ?_⟩
    · rw [shift_succ]
      exact if_pos rfl
    · exact (if_neg (by decide)).trans ((if_neg (by decide)).trans j3)
    · rw [octs_succ, Array.toList_push]
      exact j5.append (.cons _ _ .nil)
    · rw [List.mem_singleton.mp hb] at e ⊢
      exact k6 _ _ LI.symm (hs5.extBut _ _ DI.symm e)
  · rintro h7 tk7 m7 ⟨j1, _, j3, vs, ep, j4, j5⟩ hns
    have F7 : Fr s.heap s.heap.objs.size h7 _ := ⟨hns, j1, Nat.le_refl _⟩
    dsimp only
    refine wpAny_execs_cons (wpAny_Return_some ?_)
    refine Call_Name1 (bname (W.keeps j1) ⟨rfl, rfl, rfl⟩ rfl (glo_bytes _ _) (blt_bytes _) ?_) rfl
    refine PyProof.Rows.callWith_type rfl (evalArgs_plain (spliced_cons (ld F7 j3 (spliced_nil ?_))))
    have hvs : vs.toList.length = k := by rw [j5.length, octs_len]
    have hline : (1000 : Nat) ≤ sizeLine := by decide
    refine call_bytes_ints (vs := vs.toList) (ns := octs k x) ⟨_, j4, rfl, ep, rfl⟩ j5 (octs_range k x) (by (clear DI LI hD hI hL2 hn j3 j4; omega)) rfl (fun h' t' k' hk' => ?_)
    exact q0 _ _ ⟨⟨_, _, rfl, fun b o e => hk' b o (j1 b o e)⟩, t', rfl⟩
end
end Mine
end Oct_part
section Gd1_part
open PySem PySem.W PySem.Calls PyProof.Rows
set_option Elab.async false
set_option maxRecDepth 100000
set_option maxHeartbeats 4000000
namespace Mine
/-- codes that `exported` takes for holders of a bytearray, beside the guards -/
noncomputable def badC : Code → Bool
  | .builtin id _ => Builtin.Bytes.decodersThatHold.contains id
  | _ => false
noncomputable def GoodS (l : List (Code × Pos)) : Prop := ∀ x ∈ l, badC x.1 = false
/-- wpAny over the stacks that hold no decoder -/
noncomputable def wpG {α : Type} (M : Model) (A : Around) (t : Sem α) (Q : α → Shared → Prop) (E : Value → Shared → Prop) (s : Shared) : Prop :=
  ∀ Γ p, Γ.In A → GoodS Γ.below → badC Γ.code = false → Sem.wp M Γ t (fun a _ s' => Q a s') (fun e _ s' => E e s') p s
noncomputable def codeG (M : Model) (A : Around) (c : Code) (R : Result → Shared → Prop) (s : Shared) : Prop :=
  ∀ Γ p, Γ.code = c → Γ.Below A → GoodS Γ.below → wpCode M Γ R p s
section
variable {α β : Type} {M : Model} {A : Around} {E : Value → Shared → Prop} {s : Shared}
theorem gQ {t : Sem α} {Q : α → Shared → Prop} (h : ∀ Q' : α → Shared → Prop, (∀ a s', Q a s' → Q' a s') → wpG M A t Q' E s) : wpG M A t Q E s := h Q fun _ _ x => x
theorem wpG_of {t : Sem α} {Q : α → Shared → Prop} (h : wpAny M A t Q E s) : wpG M A t Q E s := fun Γ p hΓ _ _ => h Γ p hΓ
theorem codeG_of {c : Code} {R : Result → Shared → Prop} (h : codeAny M A c R s) : codeG M A c R s := fun Γ p hc hΓ _ => h Γ p hc hΓ
theorem wpG_mono {t : Sem α} {Q Q' : α → Shared → Prop} {E' : Value → Shared → Prop} (h : wpG M A t Q E s) (hQ : ∀ a s, Q a s → Q' a s) (hE : ∀ e s, E e s → E' e s) : wpG M A t Q' E' s :=
  fun Γ p hΓ g c => Sem.wp_mono M Γ t (fun a _ s => hQ a s) (fun e _ s => hE e s) p s (h Γ p hΓ g c)
theorem wpG_bind {m : Sem α} {f : α → Sem β} {Q : β → Shared → Prop} (h : wpG M A m (fun a s' => wpG M A (f a) Q E s') E s) : wpG M A (m >>= f) Q E s := fun Γ p hΓ g c => by
  rw [Sem.wp_bind']
  exact Sem.wp_mono M Γ m (fun a p' s' h' => h' Γ p' hΓ g c) (fun _ _ _ h' => h') p s (h Γ p hΓ g c)
theorem wpG_pure {a : α} {Q : α → Shared → Prop} (h : Q a s) : wpG M A (pure a) Q E s := fun _ _ _ _ _ => h
theorem wpG_holding {vs : List Value} {m : Sem α} {Q : α → Shared → Prop} (h : wpG M A m Q E s) : wpG M A (holding vs m) Q E s :=
  fun Γ p hΓ g c => by rw [Sem.wp_holding]; exact h Γ p hΓ g c
theorem wpG_keep {vs : List Value} {m : Sem α} {Q : α → Shared → Prop} (h : wpG M A m Q E s) : wpG M A (m.keep vs) Q E s :=
  fun Γ p hΓ g c => by rw [Sem.wp_keep]; exact h Γ p hΓ g c
theorem wpG_standAt {pos : Pos} {Q : Unit → Shared → Prop} (h : Q () s) : wpG M A (standAt pos) Q E s := fun _ _ _ _ _ => h
theorem wpG_point {Q : Unit → Shared → Prop} (h : Q () s) : wpG M A point Q E s := fun _ _ _ _ _ => h
theorem wpG_of_eq {t : Sem α} {a : α} {Q : α → Shared → Prop} (e : t = pure a) (h : Q a s) : wpG M A t Q E s := by subst e; exact wpG_pure h
theorem wpG_onRaise {m : Sem α} {k : Value → Sem Unit} {Q : α → Shared → Prop} (h : wpG M A m Q (fun e s' => wpAny M A (k e) (fun _ s'' => E e s'') E s') s) : wpG M A (m.onRaise k) Q E s := fun Γ p hΓ g c => by
  rw [Sem.wp_onRaise]
  exact Sem.wp_mono M Γ m (fun _ _ _ h' => h') (fun e p' s' h' => h' Γ p' hΓ) p s (h Γ p hΓ g c)
theorem wpG_at {α : Type} {A B : Around} {t : Sem α} {Q : α → Shared → Prop} (h : wpG M B t Q E s) (hh : A.handled = B.handled) (hd : A.depth ≤ B.depth) (hf : ∀ l, B.frames = some l → A.frames = some l) (hg : ∀ l, B.guards = some l → A.guards = some l) (hu : A.units ≤ B.units) : wpG M A t Q E s :=
  fun Γ p hΓ g c => h Γ p ⟨hΓ.1.trans hh, Nat.le_trans hΓ.2.1 hd, fun l e => hΓ.2.2.1 l (hf l e), fun l e => hΓ.2.2.2.1 l (hg l e), Nat.le_trans hΓ.2.2.2.2 hu⟩ g c
theorem good_cons {c : Code} {p : Pos} {l : List (Code × Pos)} (g : GoodS l) (h : badC c = false) : GoodS ((c, p) :: l) := fun x hx => by
  rcases List.mem_cons.mp hx with rfl | hx
  · exact h
  · exact g x hx
theorem wpG_run {c : Code} {Q : Flow → Shared → Prop} (hc : codeG M A c (fun r s' => match r with | .ok f => Q f s' | .error e => E e s') s) : wpG M A (run c) Q E s :=
  fun Γ p hΓ g b => by rw [Sem.wp_run]; exact hc _ p rfl (hΓ.enter c none p (by intro x; cases x)) (good_cons g b)
theorem wpG_runValue {c : Code} {Q : Value → Shared → Prop} (hc : codeG M A c (fun r s' => match r with | .ok (.ret v) => Q v s' | .ok _ => False | .error e => E e s') s) : wpG M A (runValue c) Q E s :=
  fun Γ p hΓ g b => by rw [Sem.wp_runValue]; exact hc _ p rfl (hΓ.enter c none p (by intro x; cases x)) (good_cons g b)
theorem wpG_call {f : Value} {pos : List Value} {kw : List (Str × Value)} {Q : Value → Shared → Prop} (hc : codeG M A (.call f ⟨pos, kw⟩) (fun r s' => match r with | .ok (.ret v) => Q v s' | .ok _ => False | .error e => E e s') s) :
    wpG M A (call f pos kw) Q E s := wpG_runValue hc
theorem codeG_mono {c : Code} {R R' : Result → Shared → Prop} (h : codeG M A c R s) (hR : ∀ r s, R r s → R' r s) : codeG M A c R' s := fun Γ p hc hΓ g => wpCode_mono hR (h Γ p hc hΓ g)
theorem codeG_of_tree {c : Code} {R : Result → Shared → Prop} (hb : badC c = false)
    (h : wpG M (A.under c) (M.den c) (fun fin s' => match fin with | .done f => R (.ok f) s' | .again c' => c'.quiet = true ∧ codeG M A c' R s') (fun e s' => R (.error e) s') s) : codeG M A c R s := fun Γ p hc hΓ g => by
  rw [wpCode_iff_wp, hc]
  refine Sem.wp_mono M Γ _ (fun fin p' s' h' => ?_) (fun _ _ _ h' => h') p s (h Γ p (hc ▸ hΓ.in) g (hc ▸ hb))
  cases fin with
  | done f => exact h'
  | again c' => exact ⟨h'.1, h'.2 (Γ.goto c') p' rfl (hΓ.goto c') g⟩
theorem codeG_loop {c : Code} {R : Result → Shared → Prop} (hb : badC c = false) (hq : c.quiet = true) (I : Nat → Shared → Prop)
    (turn : ∀ n s, I n s → wpG M (A.under c) (M.den c)
      (fun fin s' => match fin with
        | .done f => R (.ok f) s'
        | .again c' => (c' = c ∧ ∃ m, m < n ∧ I m s') ∨ (c'.quiet = true ∧ codeG M A c' R s')) (fun e s' => R (.error e) s') s)
    (n : Nat) (h : I n s) : codeG M A c R s := by
  induction n using Nat.strongRecOn generalizing s with
  | ind n ih =>
    refine codeG_of_tree hb (wpG_mono (turn n s h) (fun fin s' hf => ?_) fun _ _ h' => h')
    cases fin with
    | done f => exact hf
    | again c' =>
      rcases hf with ⟨rfl, m, hm, hI⟩ | hf
      · exact ⟨hq, ih m hm hI⟩
      · exact hf
theorem guard_ne {id : String} {args : Args} (l : String) (hl : guardIds.contains l = true) (h : (Code.builtin id args).isGuard = false) : ¬ id = l := fun e => by
  subst e
  rw [show (Code.builtin id args).isGuard = guardIds.contains id from rfl, hl] at h
  cases h
/-- on such a stack nothing holds the bytearray -/
theorem wpG_exported {v : Value} {Q : Bool → Shared → Prop} (hg : A.guards = some []) (h : Q false s) : wpG M A (Builtin.Bytes.exported v) Q E s := fun Γ p hΓ g b => by
  unfold Builtin.Bytes.exported
  rw [Sem.wp_bind']
  show Q (List.any ((Γ.code, p) :: Γ.below) _) s
  have hG : GoodS ((Γ.code, p) :: Γ.below) := good_cons g b
  have hN : guardsOf ((Γ.code, p) :: Γ.below) = [] := by rw [guardsOf_cons]; exact hΓ.2.2.2.1 [] hg
  have hno : ∀ x ∈ ((Γ.code, p) :: Γ.below), x.1.isGuard = false := fun x hx => by
    cases q : x.1.isGuard with
    | false => rfl
    | true =>
      have : x.1 ∈ guardsOf ((Γ.code, p) :: Γ.below) := List.mem_filter.mpr ⟨List.mem_map_of_mem hx, q⟩
      rw [hN] at this
      cases this
  rw [List.any_eq_false.mpr]
  · exact h
  · intro x hx
    have h1 := hG x hx
    have h2 := hno x hx
    obtain ⟨c, p'⟩ := x
    dsimp only at h1 h2
    clear hG hN hno hx h hΓ g b hg
    delta Builtin.Bytes.exported.match_1
    cases c with
    | builtin id args =>
      obtain ⟨pos, kw⟩ := args
      dsimp only
      delta Builtin.Bytes.exported._sparseCasesOn_1
      dsimp only
      rw [dif_neg (guard_ne "bytearray.__contains__" (by decide +kernel) h2), dif_neg (guard_ne "bytearray.__mod__" (by decide +kernel) h2), dif_neg (guard_ne "bytearray.__rmod__" (by decide +kernel) h2), dif_neg (guard_ne "_struct.pack_into.held" (by decide +kernel) h2), dif_neg (guard_ne "bytearray.find.held" (by decide +kernel) h2)]
      delta Builtin.Bytes.exported._sparseCasesOn_2
      cases pos with
      | nil => exact Bool.false_ne_true
      | cons v' rest =>
        dsimp only
        rw [show Builtin.Bytes.decodersThatHold.contains id = false from h1, Bool.and_false]
        exact Bool.false_ne_true
    | _ => exact Bool.false_ne_true
end
end Mine
end Gd1_part
section Gd2_part
open PySem PySem.W PySem.Calls PyProof.Rows
set_option Elab.async false
set_option maxRecDepth 100000
set_option maxHeartbeats 4000000
namespace Mine
open Builtin
theorem mro_ba : mroOf (.type "bytearray") = pure [.type "bytearray", .type "object"] := by rw [mroOf_type]; kernel_rfl
theorem lookup_ba_new : typeLookup (.type "bytearray") "__new__" = pure (some (.builtin "bytearray.__new__")) := by rw [typeLookup_type, builtinLookup_eq_fast]; kernel_rfl
theorem slot_ba_init : Slot "bytearray" "__init__" "bytearray.__init__" :=
  .of (owner := "bytearray") (n := "__init__") (by rw [typeLookup_type, builtinLookup_eq_fast]; kernel_rfl) (by decide +kernel) (by decide +kernel) (by decide +kernel)
    (by first | exact .inl (by decide +kernel) | exact .inr (by decide +kernel)) (by rw [isSubtype_type]; kernel_rfl)
theorem called_ba : TypeCalled "bytearray" "bytearray.__new__" "bytearray.__init__" :=
  ⟨by decide +kernel, by decide +kernel, ⟨_, _, mro_ba⟩, madeBy_type mro_ba lookup_ba_new (by decide +kernel), by decide +kernel, by rw [isSubtype_type]; kernel_rfl, slot_ba_init⟩
theorem typeCall_ba (a : Value) : checkTypeCall "bytearray" ⟨[a], []⟩ = pure () := by kernel_rfl
theorem newCall_ba (a : Value) : checkBuiltinCall "bytearray.__new__" ⟨[.type "bytearray", a], []⟩ = pure () := by kernel_rfl
theorem entry_ba_new : entryFor table "bytearray.__new__" = some Builtin.«list.__new__» :=
  entryFor_alias (id' := "list.__new__") (by kernel_rfl) (by first | rfl | decide +kernel) (by decide +kernel) (by kernel_rfl)
theorem entry_ba_init : entryFor table "bytearray.__init__" = some Builtin.«bytearray.__init__» := by first | exact entryFor_of_tree (by kernel_rfl) | exact entryFor_of_fast (by kernel_rfl)
theorem plain_ba_new : plainId "bytearray.__new__" = true := by decide +kernel
theorem plain_ba_init : plainId "bytearray.__init__" = true := by decide +kernel
theorem args_ba_init (a b : Value) : argsOk "bytearray.__init__" ⟨[a, b], []⟩ := by unfold argsOk; kernel_rfl
set_option maxRecDepth 1000000 in
theorem owner_ba_new : ("bytearray.__new__".splitOn ".__new__").headD "" = "bytearray" := by simp +decide [String.splitOn, String.splitOnAux]
theorem ba_bind (v : Value) : Bytes.bindOptional "bytearray.__init__" "bytearray" ["source", "encoding", "errors"] [v] [] = pure [some v, none, none] := by kernel_rfl
theorem by_no_index : typeLookup (.type "bytes") "__index__" = pure none := by rw [typeLookup_type, builtinLookup_eq_fast]; kernel_rfl
section
variable {prog : Program} {w : World} {A : Around} {E : Value → Shared → Prop} {s : Shared}
theorem code_ba_new (a : Value) {Q₁ : Value → Shared → Prop} (h : Q₁ (.ref s.heap.objs.size) { s with heap := s.heap.push (baO #[]) }) :
    codeAny (model prog w) A (.call (.builtin "bytearray.__new__") ⟨[.type "bytearray", a], []⟩) (wants Q₁ E) s := by
  refine codeAny_of_tree ?_
  show wpAny _ A.in1 (do checkBuiltinCall "bytearray.__new__" ⟨[.type "bytearray", a], []⟩; again (.builtin "bytearray.__new__" ⟨[.type "bytearray", a], []⟩)) _ _ s
  refine wpAny_bind (wpAny_of_eq (newCall_ba a) (wpAny_pure ⟨plainId_quiet plain_ba_new _, codeAny_builtin_stack entry_ba_new rfl fun p st => ?_⟩))
  rw [Around.under_plainId plain_ba_new _]
  have hsub := called_ba.sub
  have hown := owner_ba_new
  obtain ⟨hp, g, d, tk, os⟩ := s
  simp only [hown]
  wp_walk
  exact h
theorem codeG_builtin0 {id : String} {args : Args} {b : Builtin} {R : Result → Shared → Prop} (hg : badC (.builtin id args) = false) (hb : entryFor table id = some b)
    (h : wpG (model prog w) (A.under (.builtin id args)) (b args)
      (fun fin s' => match fin with | .done f => R (.ok f) s' | .again c' => c'.quiet = true ∧ codeG (model prog w) A c' R s') (fun e s' => R (.error e) s') s) :
    codeG (model prog w) A (.builtin id args) R s := by
  refine codeG_of_tree hg ?_
  show wpG _ _ (match entryFor table id with | some b => b args | none => unsupported ((withoutEnding? id "#data").getD id)) _ _ s
  rw [hb]; exact h
theorem codeG_builtin {id : String} {args : Args} {b : Builtin} {R : Result → Shared → Prop} (hp : plainId id = true) (hg : badC (.builtin id args) = false) (hb : entryFor table id = some b)
    (h : wpG (model prog w) A.in1 (b args)
      (fun fin s' => match fin with | .done f => R (.ok f) s' | .again c' => c'.quiet = true ∧ codeG (model prog w) A c' R s') (fun e s' => R (.error e) s') s) :
    codeG (model prog w) A (.builtin id args) R s := by
  refine codeG_of_tree hg ?_
  show wpG _ _ (match entryFor table id with | some b => b args | none => unsupported ((withoutEnding? id "#data").getD id)) _ _ s
  rw [hb, Around.under_plainId hp]; exact h
theorem write_ba {M : Model} {a : Addr} {x y : Array UInt8} {f : Array UInt8 → Array UInt8} {Q : Unit → Shared → Prop} (ha : s.heap.get? a = some (baO x)) (hf : f x = y) (hy : y.size ≤ 100000)
    (h : Q () { s with heap := s.heap.update a (Obj.mapBytearray f) }) : wpAny M A (Bytes.write (.ref a) f) Q E s := by
  show wpAny _ _ (updateBytearray a f) _ _ _
  unfold updateBytearray
  refine wpAny_bind (wpAny_load ha ?_)
  show wpAny _ _ (update a (Obj.mapBytearray f) >>= fun _ => lookBehind a) _ _ _
  refine wpAny_bind (wpAny_update ha ?_)
  have e : (s.heap.update a (Obj.mapBytearray f)).get? a = some (baO y) := by rw [← hf]; exact Heap.get?_update_self (Obj.mapBytearray f) ha rfl
  refine wpAny_lookBehind e ?_ h
  show (if y.size > sizeLine then some "bytearray:memory" else none) = none
  have : (100000 : Nat) ≤ sizeLine := by decide
  rw [if_neg (by (clear e ha hf; omega))]
/-- bytearray.__init__ with octets -/
theorem code_ba_init {a : Addr} {b : Array UInt8} {t : Tok} {R : Result → Shared → Prop} (hg : A.guards = some []) (ha : s.heap.get? a = some (baO #[])) (hb : b.size ≤ 100000)
    (h : ∀ h', h'.get? a = some (baO b) → Heap.SameBut a s.heap h' → R (.ok (.ret .none)) { s with heap := h' }) :
    codeG (model prog w) A (.call (.builtin "bytearray.__init__") ⟨[.ref a, .bytes b t], []⟩) R s := by
  have hT : s.TypeIs (.ref a) "bytearray" := ⟨_, ha, rfl⟩
  refine codeG_of_tree rfl ?_
  show wpG _ A.in1 (do checkBuiltinCall "bytearray.__init__" ⟨[.ref a, .bytes b t], []⟩; again (.builtin "bytearray.__init__" ⟨[.ref a, .bytes b t], []⟩)) _ _ s
  refine wpG_bind (wpG_of (slot_ba_init.check _ _ _ _ _ _ _ _ hT (args_ba_init _ _) (wpG_pure ⟨plainId_quiet plain_ba_init _, ?_⟩)))
  refine codeG_builtin plain_ba_init (by show Bytes.decodersThatHold.contains "bytearray.__init__" = false; decide +kernel) entry_ba_init ?_
  unfold Builtin.«bytearray.__init__»
  dsimp only
  refine wpG_bind (wpG_of ?_)
  unfold Bytes.ownRelease
  refine wpAny_bind (own_ba ha ba_look_release (by decide +kernel) (by decide +kernel) (wpAny_pure ?_))
  rw [Bool.not_true]
  show wpG _ _ (Bytes.bindOptional _ _ _ _ _ >>= _) _ _ _
  refine wpG_bind (wpG_of_eq (ba_bind _) ?_)
  dsimp only
  refine wpG_bind (wpG_of_eq (a := ()) rfl ?_)
  refine wpG_bind (wpG_of_eq (a := ()) rfl ?_)
  refine wpG_bind ?_
  unfold orM
  refine wpG_bind (wpG_exported hg ?_)
  refine wpG_of ?_
  show wpAny _ _ (Bytes.exportsOf (.ref a) >>= _) _ _ _
  unfold Bytes.exportsOf
  refine wpAny_bind (wpAny_bind (wpAny_load ha (wpAny_pure (wpAny_pure (wpG_of ?_)))))
  refine bm_if_false (by decide) ?_
  refine wpAny_bind (write_ba ha (y := #[]) rfl (by simp) ?_)
  have h1 : (s.heap.update a (Obj.mapBytearray fun _ => #[])).get? a = some (baO #[]) := Heap.get?_update_self (Obj.mapBytearray fun _ => #[]) ha rfl
  refine wpAny_bind (wpAny_of_eq (a := none) rfl ?_)
  refine bm_if_false rfl ?_
  refine wpAny_bind (bm_if_false rfl (bm_if_false rfl (wpAny_pure ?_)))
  refine wpAny_bind (wpAny_specialOf (PySem.W.typeIs_bytes _ _ _) by_no_index ?_)
  refine bm_if_false rfl ?_
  refine wpAny_bind (wpAny_of_eq buffer_full ?_)
  refine wpAny_bind (wpAny_rule ?_)
  refine wpAny_bind (write_ba h1 (y := b) rfl hb ?_)
  refine wpAny_pure ?_
  refine h _ (Heap.get?_update_self (Obj.mapBytearray fun _ => b) h1 rfl) ?_
  exact (Heap.SameBut.update ..).trans (Heap.SameBut.update ..)
theorem g_if_false {α : Type} {M : Model} {c : Bool} {a b : Sem α} {Q : α → Shared → Prop} (hc : c = false) (h : wpG M A b Q E s) : wpG M A (if c = true then a else b) Q E s := by
  subst hc
  exact h
theorem call_ba {b : Array UInt8} {t : Tok} {Q : Value → Shared → Prop} (hg : A.guards = some []) (hb : b.size ≤ 100000)
    (h : ∀ h', h'.get? s.heap.objs.size = some (baO b) → (∀ c o, s.heap.get? c = some o → h'.get? c = some o) → Q (.ref s.heap.objs.size) { s with heap := h' }) :
    wpG (model prog w) A (call (.type "bytearray") [.bytes b t]) Q E s := by
  refine wpG_call (codeG_of_tree rfl ?_)
  show wpG _ _ (callAny (.type "bytearray") _) _ _ _
  refine wpG_pure ⟨Code.quiet_builtin _ (by decide +kernel), codeG_builtin0 (by show Bytes.decodersThatHold.contains "type.__call__" = false; decide +kernel) F.entry_type_call ?_⟩
  rw [Around.under_plain (weight_type_call_type "bytearray" _ []) (units_type_call_type "bytearray" _ [])]
  dsimp only
  unfold Builtin.«type.__call__»
  dsimp only
  refine g_if_false called_ba.notType ?_
  refine g_if_false called_ba.canCreate ?_
  refine wpG_bind (wpG_of_eq (typeCall_ba _) ?_)
  refine wpG_bind (wpG_of_eq mro_ba ?_)
  refine g_if_false rfl ?_
  refine wpG_bind (wpG_of_eq called_ba.made ?_)
  dsimp only
  refine wpG_bind (wpG_pure ?_)
  refine wpG_bind (wpG_holding (wpG_of (wpAny_call (code_ba_new _ ?_))))
  have h0 : (s.heap.push (baO #[])).get? s.heap.objs.size = some (baO #[]) := Heap.get?_push_size _ rfl
  have hT : Shared.TypeIs { s with heap := s.heap.push (baO #[]) } (.ref s.heap.objs.size) "bytearray" := ⟨_, h0, rfl⟩
  refine wpG_bind (wpG_of (wpAny_isInstance hT sub_ba_ba ?_))
  refine g_if_false rfl ?_
  refine wpG_bind (wpG_holding ?_)
  unfold callSpecial?
  refine wpG_bind (wpG_of (wpAny_specialOf hT slot_ba_init.lookup ?_))
  dsimp only
  refine wpG_holding ?_
  refine wpG_bind (wpG_of_eq (slot_ba_init.bind _) ?_)
  dsimp only
  refine wpG_bind (wpG_call (code_ba_init hg h0 hb fun h' h1 h2 => ?_))
  dsimp only
  refine wpG_pure ?_
  dsimp only
  refine g_if_false rfl ?_
  refine wpG_pure ?_
  exact h h' h1 fun c o e => h2.extBut c o (Nat.ne_of_lt (Heap.lt_size e)) (Heap.get?_push_of_some _ e)
end
end Mine
end Gd2_part
section Gd3_part
open PySem PySem.W PySem.Calls PyProof.Rows
set_option Elab.async false
set_option maxRecDepth 100000
set_option maxHeartbeats 4000000
namespace Mine
section
variable {M : Model} {A : Around} {E : Value → Shared → Prop} {s : Shared} {env : Env}
theorem g_execs_cons {st rest} {Q : Flow → Shared → Prop}
    (h : wpG M A (exec st env) (fun f s' => match f with | .next => wpG M A (execs rest env) Q E s' | f => Q f s') E s) : wpG M A (execs (st :: rest) env) Q E s := by
  rw [execs_cons]
  refine wpG_bind (wpG_mono h (fun f s' h' => ?_) fun _ _ h' => h')
  cases f <;> first | exact h' | exact wpG_pure h'
theorem g_If {test body orelse pos} {Q : Flow → Shared → Prop}
    (h : wpAny M A (isTrue test env (eval test env)) (fun b s₂ => if b then wpG M A (execs body env) Q E s₂ else wpG M A (execs orelse env) Q E s₂) E s) :
    wpG M A (exec (.If test body orelse pos) env) Q E s := by
  rw [exec_If]
  refine wpG_bind (wpG_standAt (wpG_bind (wpG_mono (wpG_of h) (fun b s₂ h₂ => ?_) fun _ _ h' => h')))
  cases b <;> exact h₂
theorem g_Expr {e pos} {Q : Flow → Shared → Prop} (h : wpG M A (eval e env) (fun v s' => match v with | .ref _ => False | _ => Q .next s') E s)
    (hi : interactive env = false := by rfl) (hs : swapsWith e none pos.line env = pure false := by rfl) : wpG M A (exec (.Expr e pos) env) Q E s := by
  rw [exec_Expr env e pos hi hs]
  refine wpG_bind (wpG_standAt (wpG_bind (wpG_mono h (fun v s' h' => ?_) fun _ _ x => x)))
  have hv : ∀ a, v ≠ .ref a := fun a hva => by subst hva; exact h'
  rw [dropValue_plain hv]
  refine wpG_pure ?_
  cases v <;> first | exact h' | exact (hv _ rfl).elim
theorem g_Assign_Name {x pos' value pos} {Q : Flow → Shared → Prop}
    (h : wpG M A (eval value env) (fun v s₁ => wpAny M A (storeName env x v) (fun _ => Q .next) E s₁) E s)
    (hs : swapsWith value (some (.Name x pos')) pos.line env = pure false := by rfl) : wpG M A (exec (.Assign [.Name x pos'] value pos) env) Q E s := by
  rw [exec_Assign_Name env x pos' value pos hs]
  refine wpG_bind (wpG_standAt (wpG_bind (wpG_mono h (fun v s' h' => ?_) fun _ _ x => x)))
  exact wpG_bind (wpG_standAt (wpG_bind (wpG_of (wpAny_bindName (wpAny_mono h' (fun _ _ q => wpG_pure q) fun _ _ x => x)))))
theorem g_runOwn {c : Code} {Q : Flow → Shared → Prop}
    (hc : codeG M A c (fun r s' => match r with | .ok f => Q f s' | .error e => cameBackBy M A env E e s') s) : wpG M A (runOwn c env) Q E s := by
  unfold runOwn
  exact wpG_onRaise (wpG_run hc)
theorem g_For {target iter body orelse pos} {Q : Flow → Shared → Prop}
    (h : wpAny M A (eval iter env) (fun x s₁ => wpAny M A (pyIter x) (fun it s₂ =>
      codeG M A (.forLoop target it body orelse env) (fun r s' => match r with | .ok f => Q f s' | .error e => cameBackBy M A env E e s') s₂) E s₁) E s)
    (hs : ∀ x, foldedSetIterable iter env x = pure x := by intro _; rfl) : wpG M A (exec (.For target iter body orelse pos) env) Q E s := by
  rw [exec_For]
  exact wpG_bind (wpG_standAt (wpG_bind (wpG_of (wpAny_mono h (fun x s₁ h₁ => wpG_bind (wpG_of_eq (hs x) (wpG_bind (wpG_standAt (wpG_bind (wpG_holding
    (wpG_of (wpAny_mono h₁ (fun it s₂ h₂ => g_runOwn h₂) fun _ _ h' => h')))))))) fun _ _ h' => h'))))
theorem g_Name {x : Str} {p pos : Pos} {args : List Expr} {trees : List (Bool × Sem Value)} {Q : Value → Shared → Prop} (ht : backTo pos (starEach args env) = trees)
    (h : wpG M A (eval (.Name x p) env) (fun f s₁ => wpG M A (callWith pos f [] trees []) Q E s₁) E s) : wpG M A (eval (.Call (.Name x p) args [] pos) env) Q E s := by
  subst ht
  exact wpG_bind h
theorem g_Name1 {x : Str} {p pos : Pos} {e : Expr} {Q : Value → Shared → Prop} (hs : starEach [e] env = [(false, eval e env)])
    (h : wpG M A (eval (.Name x p) env) (fun f s₁ => wpG M A (callWith pos f [] [(false, eval e env)] []) Q E s₁) E s) : wpG M A (eval (.Call (.Name x p) [e] [] pos) env) Q E s := g_Name (by rw [hs]; rfl) h
theorem g_spliced_nil {Q : List Value → Shared → Prop} (h : Q [] s) : wpG M A (spliced []) Q E s := wpG_of (spliced_nil h)
theorem g_spliced_cons {x : Sem Value} {rest : List (Bool × Sem Value)} {Q : List Value → Shared → Prop}
    (h : wpG M A x (fun v s₁ => wpG M A (spliced rest) (fun vs s₂ => Q (v :: vs) s₂) E s₁) E s) : wpG M A (spliced ((false, x) :: rest)) Q E s := by
  rw [spliced]
  refine wpG_bind (wpG_mono h (fun v s₁ h₁ => ?_) fun _ _ x => x)
  simp only [Bool.false_eq_true, if_false]
  exact wpG_bind (wpG_pure (wpG_bind (wpG_holding (wpG_mono h₁ (fun vs s₂ h₂ => wpG_pure h₂) fun _ _ x => x))))
theorem g_evalArgs {f : Value} {x : Sem Value} {rest : List (Bool × Sem Value)} {Q : Args → Shared → Prop}
    (h : wpG M A (spliced ((false, x) :: rest)) (fun vs s' => Q ⟨vs, []⟩ s') E s) : wpG M A (evalArgs f true ((false, x) :: rest) []) Q E s := by
  unfold evalArgs
  show wpG M A (spliced ((false, x) :: rest) >>= _) Q E s
  refine wpG_bind (wpG_mono h (fun vs s' h' => ?_) fun _ _ x => x)
  refine wpG_holding ?_
  exact wpG_bind (wpG_pure (wpG_bind (wpG_pure (wpG_pure h'))))
theorem g_callWith_builtin {pos : Pos} {id : String} {first : List Value} {args : List (Bool × Sem Value)} {Q : Value → Shared → Prop} (hplain : args.any (·.1) = false)
    (h : wpG M A (evalArgs (.builtin id) true args []) (fun a s₁ => wpG M A (call (.builtin id) (first ++ a.pos) a.kw) Q E s₁) E s) : wpG M A (callWith pos (.builtin id) first args []) Q E s := by
  unfold callWith
  refine wpG_bind (wpG_holding (wpG_mono h (fun a s₁ h₁ => wpG_bind (wpG_standAt ?_)) fun _ _ x => x))
  simp only [hplain, List.any_nil, Bool.or_false]
  refine wpG_bind (wpG_pure ?_)
  exact wpG_bind (wpG_mono h₁ (fun r s₂ hr => wpG_bind (wpG_holding (wpG_point (wpG_pure hr)))) fun _ _ x => x)
theorem g_callWith_type {pos : Pos} {T : String} {first : List Value} {args : List (Bool × Sem Value)} {Q : Value → Shared → Prop} (hplain : args.any (·.1) = false)
    (h : wpG M A (evalArgs (.type T) true args []) (fun a s₁ => wpG M A (call (.type T) (first ++ a.pos) a.kw) Q E s₁) E s) : wpG M A (callWith pos (.type T) first args []) Q E s := by
  unfold callWith
  refine wpG_bind (wpG_holding (wpG_mono h (fun a s₁ h₁ => wpG_bind (wpG_standAt ?_)) fun _ _ x => x))
  simp only [hplain, List.any_nil, Bool.or_false]
  refine wpG_bind (wpG_pure ?_)
  exact wpG_bind (wpG_mono h₁ (fun r s₂ hr => wpG_bind (wpG_holding (wpG_point (wpG_pure hr)))) fun _ _ x => x)
theorem g_callWith_function {pos : Pos} {a : Addr} {o : Obj} {fd : FuncData} {first : List Value} {args : List (Bool × Sem Value)} {Q : Value → Shared → Prop}
    (h : wpG M A (evalArgs (.ref a) true args []) (fun x s₁ => (s₁.heap.get? a = some o ∧ o.data = .func fd) ∧ wpG M A (call (.ref a) (first ++ x.pos) x.kw) Q E s₁) E s) :
    wpG M A (callWith pos (.ref a) first args []) Q E s := by
  unfold callWith
  refine wpG_bind (wpG_holding (wpG_mono h (fun x s₁ h₁ => wpG_bind (wpG_standAt ?_)) fun _ _ x => x))
  have tail : ∀ {t : Sem Value}, wpG M A t Q E s₁ → wpG M A (t >>= fun r => holding [r] point >>= fun _ => pure r) Q E s₁ :=
    fun ht => wpG_bind (wpG_mono ht (fun r s₂ hr => wpG_bind (wpG_holding (wpG_point (wpG_pure hr)))) fun _ _ x => x)
  cases hs : (args.any (·.1) || ([] : List (Option Str × Sem Value)).any (·.1.isNone)) <;>
    refine wpG_bind (m := keeperOf (.ref a)) ?_ <;> unfold keeperOf <;>
    refine wpG_of (wpAny_bind (wpAny_load h₁.1.1 ?_)) <;> rw [h₁.1.2] <;> refine wpAny_pure ?_
  · dsimp only
    split <;> first
      | exact tail h₁.2
      | exact tail (by unfold callMarked; exact wpG_keep h₁.2)
  · first
      | exact tail (by unfold callMarked; exact wpG_keep h₁.2)
      | exact tail h₁.2
end
section
variable {prog : Program} {w : World} {A : Around} {E : Value → Shared → Prop} {s : Shared} {env : Env}
theorem g_noted {α : Type} {M : Model} {m : Sem α} {Q : α → Shared → Prop} (h : wpG M A m Q (notedBy M A env E) s) : wpG M A (m.onRaise fun x => do noteFrame x env; theTreesLotGoes x) Q E s :=
  wpG_onRaise (wpG_mono h (fun _ _ q => q) fun _ _ hx => wpAny_bind (wpAny_mono hx (fun _ _ e => wpAny_theTreesLotGoes e) fun _ _ e => e))
theorem g_forLoop {R : Result → Shared → Prop} {target it body env} (I : Nat → Shared → Prop)
    (turn : ∀ n s, I n s → wpAny (model prog w) A (pyNext it) (fun r s₁ => match r with
      | none => R (.ok .next) s₁
      | some v => wpAny (model prog w) A (assign target env v) (fun _ s₂ => wpG (model prog w) A (execs body env) (fun f s₃ => f = .next ∧ ∃ m, m < n ∧ I m s₃) (fun _ _ => False) s₂) (fun _ _ => False) s₁) (fun _ _ => False) s)
    (n : Nat) (h : I n s) (ht : ∀ v, letOwnedTupleGo target it v = pure () := by intro _; rfl) : codeG (model prog w) A (.forLoop target it body [] env) R s := by
  refine codeG_loop rfl rfl I (fun n s hI => ?_) n h
  show wpG _ _ ((forTurn target it body [] env).onRaise (fun x => do noteFrame x env; theTreesLotGoes x)) _ _ s
  refine g_noted ?_
  simp only [forTurn]
  refine wpG_bind (wpG_standAt (wpG_bind (wpG_onRaise (wpG_mono (wpG_of (turn n s hI)) (fun r s₁ h₁ => ?_) fun _ _ h' => h'.elim))))
  cases r with
  | none => exact wpG_pure (.inr ⟨rfl, codeG_of (codeAny_block (wpAny_execs_nil h₁))⟩)
  | some v =>
    refine wpG_bind (wpG_of_eq (ht v) ?_)
    refine wpG_bind (wpG_of (wpAny_mono h₁ (fun _ s₂ h₂ => wpG_bind (wpG_mono h₂ (fun f s₃ h₃ => ?_) fun _ _ h' => h'.elim)) fun _ _ h' => h'.elim))
    obtain ⟨rfl, h₃⟩ := h₃
    exact wpG_pure (.inl ⟨rfl, h₃⟩)
/-- rows[-1].append(x): the object first, then the argument, then the method -/
theorem g_append {o e : Expr} {apos pos : Pos} {Q : Value → Shared → Prop}
    (hbase : attributeBase o "append" env (eval o env) = eval o env) (hline : (apos.endLine == pos.line) = true) (hst : starEach [e] env = [(false, eval e env)])
    (h : wpAny (model prog w) A (eval o env) (fun ov s₁ => ∃ l vs ep, ov = .ref l ∧ s₁.heap.get? l = some (listO vs ep) ∧
      wpG (model prog w) A (eval e env) (fun v s₂ => wpAny (model prog w) A (call (.builtin "list.append") [.ref l, v]) Q E s₂) E s₁) E s) :
    wpG (model prog w) A (eval (.Call (.Attribute o "append" apos) [e] [] pos) env) Q E s := by
  rw [arm_eval_Call, hbase]
  refine wpG_bind (wpG_of (wpAny_mono h (fun ov s₁ h₁ => ?_) fun _ _ e => e))
  obtain ⟨l, vs, ep, rfl, hl, hc⟩ := h₁
  refine wpG_bind (wpG_standAt ?_)
  have hfew : ((backTo pos (starEach [e] env)).all (fun x => !x.1) && (backToKw pos (keywordEach [] env)).all (fun x => x.1.isSome)
      && decide ([e].length + ([] : List Keyword).length + (if ([] : List Keyword).isEmpty then 0 else 1) < 30)) = true := by rw [hst]; rfl
  have hform : methodCallForm ([e].length + ([] : List Keyword).length) (backTo pos (starEach [e] env)) (backToKw pos (keywordEach [] env)) = true := hfew
  have hpos : methodCallPos true o env apos pos = pure pos := by unfold methodCallPos; simp [hline]
  have hT : s₁.TypeIs (.ref l) "list" := ⟨_, hl, rfl⟩
  unfold methodCall
  rw [hform]
  refine wpG_bind (wpG_holding (wpG_of (getMethod_builtin hT PySem.F.plainAttrs_list PySem.F.slot_list_append PySem.F.type_list_append (fun a ea => by cases ea; exact ⟨_, hl, rfl⟩) ?_)))
  refine wpG_bind (wpG_of_eq hpos ?_)
  rw [hst]
  show wpG _ _ (callWith pos (.builtin "list.append") [.ref l] [(false, eval e env)] []) _ _ _
  refine g_callWith_builtin rfl (g_evalArgs (g_spliced_cons (wpG_mono hc (fun v s₂ h₂ => g_spliced_nil (wpG_of h₂)) fun _ _ x => x)))
/-- a call of one of the text's functions -/
theorem g_func {body : List Stmt} {R : Result → Shared → Prop}
    (h : wpG (model prog w) (A.deeper env) (execs body env) (fun f s' => R (.ok (.ret (match f with | .ret v => v | _ => .none))) s') (fun _ _ => False) s) :
    codeG (model prog w) A (.func body env) R s := by
  refine codeG_of_tree rfl ?_
  show wpG _ (A.deeper env) (do point; match ← (execs body env).onRaise (leaving env) with | .ret v => ret v | _ => ret .none) _ _ s
  refine wpG_bind (wpG_point (wpG_bind (wpG_onRaise (wpG_mono h (fun f s' h' => ?_) fun _ _ h' => h'.elim))))
  cases f <;> exact wpG_pure h'
theorem g_call_function {a : Addr} {args : Args} {o : Obj} {fd : FuncData} {body : List Stmt} {R : Result → Shared → Prop} (hroom : A.depth < recursionLimit)
    (ho : s.heap.get? a = some o)
    (hd' : o.data = .func fd) (hco : fd.scope.isCoroutine = false) (hgen : fd.scope.isGenerator = false) (hbody : fd.body = .stmts body) (hcd : s.heap.CodeRec fd.code fd.qualname)
    (h : wpAny (model prog w) A.in1 (bindArgs fd args) (fun binds s₁ =>
      wpAny (model prog w) A.in1 (newFunctionEnv fd.scope fd.globals fd.closure binds (fd.qualname ++ ".<locals>.") (some a) fd.code none fd.builtins)
        (fun env s₂ => s₂.heap.NoLimit ∧ codeG (model prog w) A (.func body env) R s₂) (fun e s' => R (.error e) s') s₁) (fun e s' => R (.error e) s') s) :
    codeG (model prog w) A (.call (.ref a) args) R s := by
  refine codeG_of_tree rfl ?_
  show wpG _ A.in1 (callAny (.ref a) args) _ _ s
  simp only [callAny]
  refine wpG_bind (wpG_of (wpAny_load ho ?_))
  obtain ⟨c, oc, vs, tq, hc, hoc, hdc, hq⟩ := hcd
  simp only [hd', callFunction, hco, hgen, hbody, hc]
  rw [hc] at h
  refine wpG_bind (m := field (.ref c) 1) (wpG_of (wpAny_field hoc hdc hq (wpG_bind (wpG_pure ?_))))
  exact wpG_bind (wpG_of (wpAny_mono h (fun binds s₁ h₁ => wpG_bind (wpG_of (wpAny_mono h₁ (fun env s₂ h₂ => wpG_bind (wpG_of (wpAny_enterFrame h₂.1 hroom
    (wpG_pure (And.intro rfl h₂.2))))) fun _ _ h' => h'))) fun _ _ h' => h'))
end
section
variable {w : World} {E : Value → Shared → Prop} {s : Shared} {G : Glo}
theorem g_call_fn {A : Around} {k : Nat} {a : Addr} {args : List Value} {binds : List (Str × Value)} {Q : Value → Shared → Prop} (hd : A.depth < 1000) (W : Wld w G s.heap.get?) (hF : (k, a) ∈ G.fns) (hdef : (fd k).params.defaults.isEmpty = true)
    (hbind : ∀ pm cd doc, bindArgs (docDef (fd k).name (fd k).params (fd k).body (fd k).scope pm cd doc) ⟨args, []⟩ = pure binds)
    (hok : ((binds.all fun x => decide ((fd k).scope.names.lookup x.1 = some .local)) && !(fd k).scope.isCoroutine && !(fd k).scope.isGenerator && ((fd k).scope.kind == .function) && (fd k).scope.names.all fun x => x.2 != .cell) = true)
    (h : ∀ h₁ cd, Fr s.heap s.heap.objs.size h₁ (fun x => binds.reverse.lookup x) →
      wpG (model pw w) (A.deeper (envOf (fd k).name (fd k).scope s.heap.objs.size a cd)) (execs (fd k).body (envOf (fd k).name (fd k).scope s.heap.objs.size a cd)) (fun f s' => Q (match f with | .ret v => v | _ => .none) s') (fun _ _ => False) { s with heap := h₁, toks := s.toks + binds.length }) :
    wpG (model pw w) A (call (.ref a) args) Q E s := by
  obtain ⟨pm, c, doc, dV, vs, dict, cvs, sl, qt, h1, h2, h3, h4, h5⟩ := W.fns _ hF
  simp only [Bool.and_eq_true, List.all_eq_true, decide_eq_true_eq, Bool.not_eq_true', beq_iff_eq, bne_iff_ne, ne_eq] at hok
  obtain ⟨⟨⟨⟨k1, k2⟩, k3⟩, k4⟩, k5⟩ := hok
  have hvs : vs = [] := by
    rw [List.isEmpty_iff] at hdef
    dsimp only at h2
    rw [hdef] at h2
    cases vs with
    | nil => rfl
    | cons v r => exact h2.elim
  have hdV : dV = .none := by
    rcases h3 with ⟨_, e⟩ | z
    · exact e
    · exact absurd hvs z.1
  subst hdV
  refine wpG_call (g_call_function hd h1 rfl k2 k3 rfl ⟨c, _, cvs, qt, rfl, h4, rfl, h5⟩ ?_)
  refine wpAny_of_eq (hbind pm (.ref c) doc) (wpAny_newFunctionEnv k5 k1 (fun h₁ hns hsb => ⟨W.limit.fresh _ hsb, ?_⟩) k4)
  show codeG _ _ (.func (fd k).body (envOf (fd k).name (fd k).scope s.heap.objs.size a (.ref c))) _ _
  exact g_func (h h₁ (.ref c) ⟨hns, fun b o e => hsb.extBut b o (Nat.ne_of_lt (Heap.lt_size e)) (Heap.get?_push_of_some _ e), Nat.le_refl _⟩)
end
end Mine
end Gd3_part
section Th1_part
open PySem PySem.W PySem.Calls PyProof.Rows
set_option Elab.async false
set_option maxRecDepth 100000
set_option maxHeartbeats 4000000
namespace Mine
/-- the rows of _law_thing: the top one, those below it -/
noncomputable abbrev Rws := List T × List (List T)
noncomputable def push1 (t : T) (S : Rws) : Rws := (S.1 ++ [t], S.2)
noncomputable def rep (r : Int) (n : Int) : Array UInt8 := ((List.replicate n.toNat [(r.fmod 256).toNat.toUInt8]).flatten).toArray
noncomputable def item6 : Nat → T
  | 0 => .non
  | 1 => .num 0
  | 2 => .num 7
  | 3 => .boo true
  | 4 => .lst [.num 5]
  | 5 => .tup [.boo false]
  | 6 => .byt #[]
  | _ => .tup []
noncomputable def thLeaf (k r : Int) : T :=
  if k = 3 then .ba (byteArr (octs (r.fmod 9).toNat (r.fdiv 9)))
  else if k = 4 then .byt (rep r (53 + (r.fdiv 256).fmod 5))
  else if k = 5 then .ba (rep r ((r.fdiv 256).fmod 3))
  else if k = 6 then item6 (r.fmod 8).toNat
  else .byt (byteArr (octs (r.fmod 9).toNat (r.fdiv 9)))
noncomputable def thStep (S : Rws) (n : Int) : Rws :=
  if n.fmod 12 = 0 ∧ S.2.length < 9 then ([], S.1 :: S.2)
  else match S.2 with
    | p :: bs => if n.fmod 12 = 1 ∨ n.fmod 12 = 2 then (p ++ [if n.fmod 12 = 1 then .lst S.1 else .tup S.1], bs) else push1 (thLeaf (n.fmod 12) (n.fdiv 12)) S
    | [] => push1 (thLeaf (n.fmod 12) (n.fdiv 12)) S
noncomputable def thFin : List T → List (List T) → T
  | top, [] => .lst top
  | top, p :: bs => thFin (p ++ [.lst top]) bs
noncomputable def thRun (ns : List Int) : Rws := ns.foldl thStep ([], [])
noncomputable def thing (ns : List Int) : T := thFin (thRun ns).1 (thRun ns).2
mutual
noncomputable def T.nodes : T → Nat
  | .lst xs => T.nodess xs + 1
  | .tup xs => T.nodess xs + 1
  | _ => 1
noncomputable def T.nodess : List T → Nat
  | [] => 0
  | x :: xs => T.nodes x + T.nodess xs
end
mutual
/-- no leaf longer than a row may be -/
noncomputable def T.fit : T → Prop
  | .byt b => b.size ≤ 57
  | .ba b => b.size ≤ 57
  | .lst xs => T.fits xs
  | .tup xs => T.fits xs
  | _ => True
noncomputable def T.fits : List T → Prop
  | [] => True
  | x :: xs => T.fit x ∧ T.fits xs
end
theorem T.nodess_append : ∀ (a b : List T), T.nodess (a ++ b) = T.nodess a + T.nodess b
  | [], b => by simp [T.nodess]
  | x :: a, b => by simp only [List.cons_append, T.nodess, T.nodess_append a b]; omega
theorem T.fits_append : ∀ (a b : List T), T.fits a → T.fits b → T.fits (a ++ b)
  | [], b, _, h => by simpa using h
  | x :: a, b, h, h' => by
    unfold T.fits at h
    simp only [List.cons_append]
    unfold T.fits
    exact ⟨h.1, T.fits_append a b h.2 h'⟩
noncomputable def Rws.nodes : Rws → Nat := fun S => T.nodess S.1 + 1 + (S.2.map fun r => T.nodess r + 1).sum
noncomputable def Rws.fit : Rws → Prop := fun S => T.fits S.1 ∧ ∀ r ∈ S.2, T.fits r
theorem rep_size (r n : Int) : (rep r n).size = n.toNat := by
  unfold rep
  simp
theorem thLeaf_ok (k r : Int) : (thLeaf k r).nodes ≤ 2 ∧ (thLeaf k r).fit := by
  have h9 : (r.fmod 9).toNat ≤ 8 := by
    have := Int.fmod_lt_of_pos r (show (0 : Int) < 9 by decide)
    omega
  have h5 : (53 + (r.fdiv 256).fmod 5).toNat ≤ 57 := by
    have := Int.fmod_lt_of_pos (r.fdiv 256) (show (0 : Int) < 5 by decide)
    (clear h9; omega)
  have h3 : ((r.fdiv 256).fmod 3).toNat ≤ 57 := by
    have := Int.fmod_lt_of_pos (r.fdiv 256) (show (0 : Int) < 3 by decide)
    (clear h5 h9; omega)
  unfold thLeaf
  split
  · exact ⟨by simp [T.nodes], by unfold T.fit; rw [byteArr_size, octs_len]; (clear h3 h5; omega)⟩
  split
  · exact ⟨by simp [T.nodes], by unfold T.fit; rw [rep_size]; exact h5⟩
  split
  · exact ⟨by simp [T.nodes], by unfold T.fit; rw [rep_size]; exact h3⟩
  split
  · unfold item6
    split <;> simp [T.nodes, T.nodess, T.fit, T.fits]
  · exact ⟨by simp [T.nodes], by unfold T.fit; rw [byteArr_size, octs_len]; (clear h3 h5; omega)⟩
theorem push1_ok {t : T} {S : Rws} (h : t.nodes ≤ 2 ∧ t.fit) (f : S.fit) : (push1 t S).nodes ≤ S.nodes + 2 ∧ (push1 t S).fit := by
  unfold push1 Rws.nodes Rws.fit
  refine ⟨?_, T.fits_append _ _ f.1 (by unfold T.fits; exact ⟨h.2, by unfold T.fits; trivial⟩), f.2⟩
  dsimp only
  rw [T.nodess_append]
  simp only [T.nodess]
  omega
theorem thStep_ok {S : Rws} (f : S.fit) (n : Int) : (thStep S n).nodes ≤ S.nodes + 2 ∧ (thStep S n).fit := by
  obtain ⟨top, bs⟩ := S
  unfold thStep
  dsimp only
  split
  · unfold Rws.nodes Rws.fit
    refine ⟨by simp [T.nodess]; omega, by unfold T.fits; trivial, fun r hr => ?_⟩
    rcases List.mem_cons.mp hr with rfl | hr
    · exact f.1
    · exact f.2 r hr
  · cases bs with
    | nil => exact push1_ok (thLeaf_ok _ _) f
    | cons p bs =>
      dsimp only
      split
      · have h1 : (if n.fmod 12 = 1 then T.lst top else T.tup top).nodes = T.nodess top + 1 := by split <;> simp [T.nodes]
        have h2 : (if n.fmod 12 = 1 then T.lst top else T.tup top).fit := by split <;> (unfold T.fit; exact f.1)
        unfold Rws.nodes Rws.fit
        refine ⟨?_, T.fits_append _ _ (f.2 p (.head _)) (by unfold T.fits; exact ⟨h2, by unfold T.fits; trivial⟩), fun r hr => f.2 r (.tail _ hr)⟩
        dsimp only
        rw [T.nodess_append]
        simp only [T.nodess, h1, List.map_cons, List.sum_cons]
        (clear h1; omega)
      · exact push1_ok (thLeaf_ok _ _) f
theorem thRun_ok : ∀ (ns : List Int) (S : Rws), S.fit → (ns.foldl thStep S).nodes ≤ S.nodes + 2 * ns.length ∧ (ns.foldl thStep S).fit
  | [], S, f => ⟨by simp, f⟩
  | n :: ns, S, f => by
    have h := thStep_ok f n
    have := thRun_ok ns _ h.2
    refine ⟨?_, this.2⟩
    simp only [List.foldl_cons, List.length_cons] at *
    omega
theorem thFin_ok : ∀ (bs : List (List T)) (top : List T), Rws.fit (top, bs) → (thFin top bs).nodes = Rws.nodes (top, bs) ∧ (thFin top bs).fit
  | [], top, f => ⟨by simp [thFin, T.nodes, Rws.nodes], by unfold thFin T.fit; exact f.1⟩
  | p :: bs, top, f => by
    have g : Rws.fit (p ++ [.lst top], bs) := ⟨T.fits_append _ _ (f.2 p (.head _)) (by unfold T.fits; exact ⟨by unfold T.fit; exact f.1, by unfold T.fits; trivial⟩), fun r hr => f.2 r (.tail _ hr)⟩
    have := thFin_ok bs (p ++ [.lst top]) g
    unfold thFin
    refine ⟨?_, this.2⟩
    rw [this.1]
    simp only [Rws.nodes, T.nodess_append, T.nodess, T.nodes, List.map_cons, List.sum_cons]
    (clear this; omega)
theorem thRun_len : ∀ (ns : List Int) (S : Rws), S.2.length ≤ 9 → (ns.foldl thStep S).2.length ≤ 9
  | [], S, h => h
  | n :: ns, S, h => by
    refine thRun_len ns (thStep S n) ?_
    obtain ⟨top, bs⟩ := S
    unfold thStep
    dsimp only at h ⊢
    split
    · rename_i c; simp; omega
    · cases bs with
      | nil => simp [push1]
      | cons p bs =>
        dsimp only
        split
        · simp at h ⊢; omega
        · simpa [push1] using h
theorem thing_ok (ns : List Int) (h : ns.length ≤ 16) : (thing ns).nodes ≤ 33 ∧ (thing ns).fit := by
  have h0 : Rws.fit ([], []) := ⟨by unfold T.fits; trivial, fun r hr => nomatch hr⟩
  have h1 := thRun_ok ns ([], []) h0
  have h2 := thFin_ok (thRun ns).2 (thRun ns).1 h1.2
  refine ⟨?_, h2.2⟩
  have e : (thing ns).nodes = (thRun ns).nodes := h2.1
  have e0 : Rws.nodes ([], []) = 1 := by simp [Rws.nodes, T.nodess]
  have h3 : (thRun ns).nodes ≤ Rws.nodes ([], []) + 2 * ns.length := h1.1
  (clear h1 h2; omega)
end Mine
end Th1_part
section Th2_part
open PySem PySem.W PySem.Calls PyProof.Rows
set_option Elab.async false
set_option maxRecDepth 100000
set_option maxHeartbeats 4000000
namespace Mine
noncomputable def RowsOn (h₀ : Heap) (X : List Addr) (V : View) (h : Heap) : List (List T) → List Addr → Prop
  | [], [] => True
  | ts :: R, d :: D => (∃ vs ep, h.get? d = some (listO vs ep) ∧ HasAll V ts vs.toList) ∧ V d = none ∧ h₀.get? d = none ∧ d ∉ X ∧ d ∉ D ∧ RowsOn h₀ X V h R D
  | _, _ => False
theorem RowsOn.move {h₀ h h' : Heap} {X : List Addr} {V V' : View} (hV : VLe V V') : ∀ {R : List (List T)} {D : List Addr}, RowsOn h₀ X V h R D → (∀ b ∈ D, (∀ o, h.get? b = some o → h'.get? b = some o) ∧ (V b = none → V' b = none)) → RowsOn h₀ X V' h' R D
  | [], [], _, _ => by unfold RowsOn; trivial
  | [], _ :: _, x, _ => by unfold RowsOn at x; exact x.elim
  | _ :: _, [], x, _ => by unfold RowsOn at x; exact x.elim
  | ts :: R, d :: D, x, hk => by
    unfold RowsOn at x ⊢
    obtain ⟨⟨vs, ep, x1, x2⟩, x3, x4, x5, x6, x7⟩ := x
    exact ⟨⟨vs, ep, (hk d (.head _)).1 _ x1, HasAll.mono hV _ _ x2⟩, (hk d (.head _)).2 x3, x4, x5, x6, RowsOn.move hV x7 fun b hb => hk b (.tail _ hb)⟩
theorem RowsOn.len {h₀ h : Heap} {X : List Addr} {V : View} : ∀ {R : List (List T)} {D : List Addr}, RowsOn h₀ X V h R D → D.length = R.length
  | [], [], _ => rfl
  | [], _ :: _, x => by unfold RowsOn at x; exact x.elim
  | _ :: _, [], x => by unfold RowsOn at x; exact x.elim
  | ts :: R, d :: D, x => by unfold RowsOn at x; simp [x.2.2.2.2.2.len]
theorem RowsOn.mem {h₀ h : Heap} {X : List Addr} {V : View} : ∀ {R : List (List T)} {D : List Addr}, RowsOn h₀ X V h R D → ∀ b ∈ D, (∃ o, h.get? b = some o) ∧ V b = none ∧ h₀.get? b = none ∧ b ∉ X
  | [], [], _, b, hb => nomatch hb
  | [], _ :: _, x, _, _ => by unfold RowsOn at x; exact x.elim
  | _ :: _, [], x, _, _ => by unfold RowsOn at x; exact x.elim
  | ts :: R, d :: D, x, b, hb => by
    unfold RowsOn at x
    obtain ⟨⟨vs, ep, x1, x2⟩, x3, x4, x5, x6, x7⟩ := x
    rcases List.mem_cons.mp hb with rfl | hb
    · exact ⟨⟨_, x1⟩, x3, x4, x5⟩
    · exact x7.mem b hb
noncomputable def refs (D : List Addr) : Array Value := (D.reverse.map Value.ref).toArray
theorem refs_size (D : List Addr) : (refs D).size = D.length := by simp [refs]
theorem refs_cons (d : Addr) (D : List Addr) : refs (d :: D) = (refs D).push (.ref d) := by simp [refs]
theorem refs_last (d : Addr) (D : List Addr) : (refs (d :: D))[D.length]? = some (.ref d) := by
  rw [refs_cons, ← refs_size D, Array.getElem?_push]
  simp
structure RS (h₀ : Heap) (L I RL : Addr) (oI : Obj) (V₀ V : View) (h : Heap) (R : List (List T)) (D : List Addr) : Prop where
  rl : ∃ ep, h.get? RL = some (listO (refs D) ep)
  rows : RowsOn h₀ [L, I, RL] V h R D
  ne1 : RL ≠ L
  ne2 : RL ≠ I
  rl0 : h₀.get? RL = none
  vRL : V RL = none
  vL : V L = none
  vI : V I = none
  iL : ∃ o, h.get? L = some o
  iI : h.get? I = some oI
  base : ∀ b o, h₀.get? b = some o → h.get? b = some o
  le : VLe V₀ V
  at' : VLe V h.get?
  new : ∀ b o, V b = some o → V₀ b = some o ∨ h₀.get? b = none
section
variable {h₀ h h' : Heap} {oI oJ : Obj} {L I RL d : Addr} {V₀ V V' : View} {R : List (List T)} {D : List Addr} {ts : List T}
theorem none_of_le {h h' : Heap} (hk : ∀ b o, h.get? b = some o → h'.get? b = some o) {b : Addr} (e : h'.get? b = none) : h.get? b = none := by
  cases q : h.get? b with
  | none => rfl
  | some o => rw [hk b o q] at e; cases e
/-- others come, nothing of ours goes -/
theorem RS.keep (X : RS h₀ L I RL oI V₀ V h R D) (hk : ∀ b o, b ≠ L → b ≠ I → h.get? b = some o → h'.get? b = some o) (hL : ∃ o, h'.get? L = some o) (hI : h'.get? I = some oJ) (hb : ∀ b o, h₀.get? b = some o → h'.get? b = some o)
    (hV : VLe V V') (hat : VLe V' h'.get?) (hn : ∀ b o, V' b = some o → V b = some o ∨ h.get? b = none) : RS h₀ L I RL oJ V₀ V' h' R D := by
  have off : ∀ b, V b = none → (∃ o, h.get? b = some o) → V' b = none := fun b e ⟨o, ho⟩ => by
    cases q : V' b with
    | none => rfl
    | some o' =>
      rcases hn b o' q with e' | e'
      · rw [e] at e'; cases e'
      · rw [ho] at e'; cases e'
  obtain ⟨ep, hrl⟩ := X.rl
  refine ⟨⟨ep, hk _ _ X.ne1 X.ne2 hrl⟩, X.rows.move hV fun b hb => ?_, X.ne1, X.ne2, X.rl0, off _ X.vRL ⟨_, hrl⟩, off _ X.vL X.iL, off _ X.vI ⟨_, X.iI⟩, hL, hI, hb, X.le.trans hV, hat, fun b o e => ?_⟩
  · obtain ⟨m1, m2, m3, m4⟩ := X.rows.mem b hb
    simp only [List.mem_cons, not_or] at m4
    exact ⟨fun o e => hk b o m4.1 m4.2.1 e, fun e => off b e m1⟩
  · rcases hn b o e with e' | e'
    · exact X.new b o e'
    · exact .inr (none_of_le X.base e')
theorem RS.keepAll (X : RS h₀ L I RL oI V₀ V h R D) (hk : ∀ b o, h.get? b = some o → h'.get? b = some o) (hE : Ext V h V' h') : RS h₀ L I RL oI V₀ V' h' R D :=
  X.keep (fun b o _ _ e => hk b o e) (X.iL.imp fun o e => hk _ o e) (hk _ _ X.iI) (fun b o e => hk b o (X.base b o e)) hE.le hE.at' hE.new
theorem RS.keep0 (X : RS h₀ L I RL oI V₀ V h R D) (hk : ∀ b o, h.get? b = some o → h'.get? b = some o) : RS h₀ L I RL oI V₀ V h' R D :=
  X.keepAll hk (Ext.refl fun b o e => hk b o (X.at' b o e))
/-- a store into the frame, or a turn of the iterator -/
theorem RS.own (X : RS h₀ L I RL oI V₀ V h R D) (hk : ∀ b o, b ≠ L → b ≠ I → h.get? b = some o → h'.get? b = some o) (hL : ∃ o, h'.get? L = some o) (hI : h'.get? I = some oJ) (hb : ∀ b o, h₀.get? b = some o → h'.get? b = some o) : RS h₀ L I RL oJ V₀ V h' R D :=
  X.keep hk hL hI hb (VLe.refl V) (fun b o e => hk b o (fun q => by rw [q, X.vL] at e; cases e) (fun q => by rw [q, X.vI] at e; cases e) (X.at' b o e)) fun _ _ e => .inl e
theorem RS.live (X : RS h₀ L I RL oI V₀ V h R D) {c : Addr} (hs : Heap.SameBut c h h') (hc : ∃ o, h'.get? c = some o) {b : Addr} (e : ∃ o, h.get? b = some o) : ∃ o, h'.get? b = some o := by
  by_cases q : b = c
  · rw [q]; exact hc
  · exact e.imp fun o e => hs.extBut b o q e
theorem RS.append (X : RS h₀ L I RL oI V₀ V h (ts :: R) (d :: D)) {vs : Array Value} {ep ep' : Nat} {t : T} {v : Value} (hd : h.get? d = some (listO vs ep)) (hs : Heap.SameBut d h h') (hd' : h'.get? d = some (listO (vs.push v) ep')) (ht : Has V t v) :
    RS h₀ L I RL oI V₀ V h' ((ts ++ [t]) :: R) (d :: D) := by
  have x := X.rows
  unfold RowsOn at x
  obtain ⟨⟨vs1, ep1, x1, x2⟩, x3, x4, x5, x6, x7⟩ := x
  rw [hd] at x1
  cases x1
  have x5' := x5
  simp only [List.mem_cons, not_or] at x5'
  obtain ⟨ep2, hrl⟩ := X.rl
  refine ⟨⟨ep2, hs.extBut _ _ (Ne.symm x5'.2.2.1) hrl⟩, ?_, X.ne1, X.ne2, X.rl0, X.vRL, X.vL, X.vI, X.live hs ⟨_, hd'⟩ X.iL, hs.extBut _ _ (Ne.symm x5'.2.1) X.iI, fun b o e => hs.extBut b o (fun q => by rw [q, x4] at e; cases e) (X.base b o e), X.le,
    fun b o e => hs.extBut b o (fun q => by rw [q, x3] at e; cases e) (X.at' b o e), X.new⟩
  unfold RowsOn
  refine ⟨⟨_, _, hd', ?_⟩, x3, x4, x5, x6, x7.move (VLe.refl V) fun b hb => ⟨fun o e => hs.extBut b o (fun q => x6 (q ▸ hb)) e, fun e => e⟩⟩
  rw [Array.toList_push]
  exact x2.snoc ht
theorem RS.pushrow (X : RS h₀ L I RL oI V₀ V h R D) {ep' : Nat} (hs : Heap.SameBut RL (h.push (listO #[] 0)) h') (hd' : h'.get? RL = some (listO ((refs D).push (.ref h.objs.size)) ep')) :
    RS h₀ L I RL oI V₀ V h' ([] :: R) (h.objs.size :: D) := by
  obtain ⟨ep2, hrl⟩ := X.rl
  have hF : h.get? h.objs.size = none := Heap.get?_none_of_le (by simp)
  have up : ∀ b o, h.get? b = some o → (h.push (listO #[] 0)).get? b = some o := fun b o e => Heap.get?_push_of_some _ e
  have ne : ∀ {b : Addr}, (∃ o, h.get? b = some o) → h.objs.size ≠ b := fun ⟨o, e⟩ q => by rw [← q, hF] at e; cases e
  have nR := ne ⟨_, hrl⟩
  have nL := ne X.iL
  have nI := ne ⟨_, X.iI⟩
  have h0 : (h.push (listO #[] 0)).get? h.objs.size = some (listO #[] 0) := Heap.get?_push_size _ rfl
  have X1 := X.keep0 up
  refine ⟨⟨ep', by rw [refs_cons]; exact hd'⟩, ?_, X.ne1, X.ne2, X.rl0, X.vRL, X.vL, X.vI, X1.live hs ⟨_, hd'⟩ X1.iL, hs.extBut _ _ (Ne.symm X.ne2) X1.iI, fun b o e => hs.extBut b o (fun q => by rw [q, X.rl0] at e; cases e) (X1.base b o e), X.le,
    fun b o e => hs.extBut b o (fun q => by rw [q, X.vRL] at e; cases e) (X1.at' b o e), X.new⟩
  unfold RowsOn
  refine ⟨⟨_, _, hs.extBut _ _ nR h0, by unfold HasAll; trivial⟩, ?_, none_of_le X.base hF, ?_, fun hb => ne (X.rows.mem _ hb).1 rfl, X1.rows.move (VLe.refl V) fun b hb => ⟨fun o e => hs.extBut b o (fun q => ?_) e, fun e => e⟩⟩
  · cases q : V h.objs.size with
    | none => rfl
    | some o => have := X.at' _ o q; rw [hF] at this; cases this
  · simp only [List.mem_cons, not_or]
    exact ⟨nL, nI, nR, fun q => nomatch q⟩
  · have := (X.rows.mem b hb).2.2.2
    simp only [List.mem_cons, not_or] at this
    exact this.2.2.1 q
/-- the top row goes out of the rows and stays as it is -/
theorem RS.pop (X : RS h₀ L I RL oI V₀ V h (ts :: R) (d :: D)) {ep' : Nat} (hs : Heap.SameBut RL h h') (hd' : h'.get? RL = some (listO (refs D) ep')) :
    ∃ V' vs ep, RS h₀ L I RL oI V₀ V' h' R D ∧ VLe V V' ∧ V' d = some (listO vs ep) ∧ h'.get? d = some (listO vs ep) ∧ HasAll V' ts vs.toList := by
  have x := X.rows
  unfold RowsOn at x
  obtain ⟨⟨vs, ep, x1, x2⟩, x3, x4, x5, x6, x7⟩ := x
  simp only [List.mem_cons, not_or] at x5
  have hd : h'.get? d = some (listO vs ep) := hs.extBut _ _ x5.2.2.1 x1
  have hV : VLe V (fun b => if b = d then some (listO vs ep) else V b) := fun b o e => by
    dsimp only
    rw [if_neg (fun q => by rw [q, x3] at e; cases e)]
    exact e
  refine ⟨fun b => if b = d then some (listO vs ep) else V b, vs, ep, ?_, hV, by dsimp only; rw [if_pos rfl], hd, HasAll.mono hV _ _ x2⟩
  have ne : ∀ {b : Addr}, b ≠ d → V b = none → (fun b => if b = d then some (listO vs ep) else V b) b = none := fun hb e => by dsimp only; rw [if_neg hb]; exact e
  refine ⟨⟨ep', hd'⟩, x7.move hV fun b hb => ⟨fun o e => hs.extBut b o (fun q => ?_) e, fun e => ne (fun q => x6 (q ▸ hb)) e⟩, X.ne1, X.ne2, X.rl0, ne (Ne.symm x5.2.2.1) X.vRL, ne (Ne.symm x5.1) X.vL, ne (Ne.symm x5.2.1) X.vI, X.live hs ⟨_, hd'⟩ X.iL, hs.extBut _ _ (Ne.symm X.ne2) X.iI,
    fun b o e => hs.extBut b o (fun q => by rw [q, X.rl0] at e; cases e) (X.base b o e), X.le.trans hV, fun b o e => ?_, fun b o e => ?_⟩
  · have := (x7.mem b hb).2.2.2
    simp only [List.mem_cons, not_or] at this
    exact this.2.2.1 q
  · split at e
    · rename_i q; subst q; cases e; exact hd
    · exact hs.extBut b o (fun q => by rw [q, X.vRL] at e; cases e) (X.at' b o e)
  · split at e
    · rename_i q; subst q; exact .inr x4
    · exact X.new b o e
end
end Mine
end Th2_part
section Th3_part
open PySem PySem.W PySem.Calls PyProof.Rows
set_option Elab.async false
set_option maxRecDepth 100000
set_option maxHeartbeats 4000000
namespace Mine
section
variable {w : World} {A : Around} {E : Value → Shared → Prop} {s : Shared} {G : Glo} {h₀ : Heap} {oI : Obj} {L I RL a : Addr} {name : Str} {scope : Scope} {cd : Value} {m : Str → Option Value} {V₀ V : View} {R : List (List T)} {D : List Addr} {d : Addr} {ts : List T}
theorem item_list_negR {prog : Program} {value slice : Expr} {l : Addr} {items : Array Value} {k : Int} {u : Tok} {x : Value} {Q : Value → Shared → Prop} (hl : s.heap.IsList l items)
    (h0 : k < 0) (h1 : -(items.size : Int) ≤ k) (hfit : -(2 ^ 63) ≤ k) (hx : items[(k + items.size).toNat]? = some x) (h : Q x s)
    (hs : subscripted slice false (.ref l) (.int k u) = operate [.ref l, .int k u] (getItem (.ref l) (.int k u)) := by with_unfolding_all rfl) :
    wpAny (model prog w) A (subscriptTail value slice (.ref l) (.int k u)) Q E s :=
  subscriptTail_builtinR hl.typeIs slot_list_getitem.lookup (wpAny_getItem_list_neg (Q := fun r s' => r = x ∧ Q r s') hl h0 h1 hfit hx ⟨rfl, h⟩) hs
/-- rows[-1] -/
theorem last_row {prog : Program} {p1 p2 p3 p4 : Pos} {k : Nat} {Q : Value → Shared → Prop} (F : Fr h₀ L s.heap m) (hk : scope.kind = .function) (hl : (envOf name scope L a cd).kindOf "rows" = some .local) (mr : m "rows" = some (.ref RL))
    (X : RS h₀ L I RL oI V₀ V s.heap R (d :: D)) (h : ∀ tk, Q (.ref d) { s with toks := tk }) :
    wpAny (model prog w) A (eval (.Subscript (.Name "rows" p1) (.UnaryOp .USub (.Constant (.int 1) k p2) p3) p4) (envOf name scope L a cd)) Q E s := by
  obtain ⟨ep, hrl⟩ := X.rl
  refine Subscript_ (ld F mr ?_ hk hl)
  refine wpAny_UnaryOp (wpAny_Constant_int (neg_int ?_))
  refine item_list_negR (items := refs (d :: D)) ⟨_, hrl, rfl, ep, rfl⟩ (by decide) (by rw [refs_size]; simp; (clear hl hrl mr; omega)) (by decide) ?_ (h _)
  have e : ((-1 : Int) + ((refs (d :: D)).size : Int)).toNat = D.length := by rw [refs_size]; simp; (clear hl hrl mr; omega)
  rw [e]
  exact refs_last d D
/-- rows[-1].append(e) -/
theorem row_append {prog : Program} {p1 p2 p3 p4 p5 p6 p7 : Pos} {k : Nat} {e : Expr} {t : T} (F : Fr h₀ L s.heap m) (hk : scope.kind = .function) (hl : (envOf name scope L a cd).kindOf "rows" = some .local) (mr : m "rows" = some (.ref RL))
    (X : RS h₀ L I RL oI V₀ V s.heap (ts :: R) (d :: D)) (hz : ts.length ≤ 900)
    (hb : attributeBase (.Subscript (.Name "rows" p1) (.UnaryOp .USub (.Constant (.int 1) k p2) p3) p4) "append" (envOf name scope L a cd) (eval (.Subscript (.Name "rows" p1) (.UnaryOp .USub (.Constant (.int 1) k p2) p3) p4) (envOf name scope L a cd)) = eval (.Subscript (.Name "rows" p1) (.UnaryOp .USub (.Constant (.int 1) k p2) p3) p4) (envOf name scope L a cd))
    (hline : (p5.endLine == p6.line) = true) (hst : starEach [e] (envOf name scope L a cd) = [(false, eval e (envOf name scope L a cd))]) (hi : interactive (envOf name scope L a cd) = false)
    (hsw : swapsWith (.Call (.Attribute (.Subscript (.Name "rows" p1) (.UnaryOp .USub (.Constant (.int 1) k p2) p3) p4) "append" p5) [e] [] p6) none p7.line (envOf name scope L a cd) = pure false)
    (h : ∀ tk, wpG (model prog w) A (eval e (envOf name scope L a cd)) (fun v s₂ => Keeps { s with toks := tk } s₂ ∧ ∃ V', Ext V s.heap V' s₂.heap ∧ Has V' t v) (fun _ _ => False) { s with toks := tk }) :
    wpG (model prog w) A (exec (.Expr (.Call (.Attribute (.Subscript (.Name "rows" p1) (.UnaryOp .USub (.Constant (.int 1) k p2) p3) p4) "append" p5) [e] [] p6) p7) (envOf name scope L a cd))
      (fun f s' => f = .next ∧ ∃ h' tk V', s' = { s with heap := h', toks := tk } ∧ Fr h₀ L h' m ∧ RS h₀ L I RL oI V₀ V' h' ((ts ++ [t]) :: R) (d :: D)) (fun _ _ => False) s := by
  refine g_Expr (g_append hb hline hst (last_row F hk hl mr X fun tk => ?_)) hi hsw
  have x := X.rows
  unfold RowsOn at x
  obtain ⟨⟨vs, ep, x1, x2⟩, x3, x4, x5, x6, x7⟩ := x
  simp only [List.mem_cons, not_or] at x5
  have hvs : vs.size = ts.length := by rw [← Array.length_toList, x2.length]
  refine ⟨d, vs, ep, rfl, x1, wpG_mono (h tk) (fun v s₂ h₂ => ?_) fun _ _ q => q⟩
  obtain ⟨⟨h2, tk2, rfl, hk2⟩, V', hE, hT⟩ := h₂
  dsimp only at hk2 hE ⊢
  have X2 := X.keepAll hk2 hE
  have F2 := F.after hk2
  have hline' : (1000 : Nat) ≤ sizeLine := by decide
  refine wpAny_list_append_plain ⟨_, hk2 _ _ x1⟩ (fun h3 hl3 hs3 => ?_) (by (clear hb hi hl hline hst hsw mr x1 x3 x4 x5; omega))
  obtain ⟨ep3, hl3⟩ := hl3
  dsimp only at hl3 hs3 ⊢
  exact ⟨rfl, h3, tk2, V', rfl, Fr.change F2 x4 x5.1 hs3, X2.append (hk2 _ _ x1) hs3 hl3 hT⟩
end
end Mine
end Th3_part
section Th4_part
open PySem PySem.W PySem.Calls PyProof.Rows
set_option Elab.async false
set_option maxRecDepth 100000
set_option maxHeartbeats 4000000
namespace Mine
noncomputable abbrev env26 (G : Glo) (L : Addr) (cd : Value) : Env := envOf (fd 26).name (fd 26).scope L G.a26 cd
theorem Ext.one {h h' : Heap} {V : View} {a : Addr} {o : Obj} (hV : VLe V h.get?) (hk : ∀ b o, h.get? b = some o → h'.get? b = some o) (ha : h'.get? a = some o) (hn : h.get? a = none) : Ext V h (fun b => if b = a then some o else V b) h' := by
  refine ⟨fun b o' e => ?_, fun b o' e => ?_, fun b o' e => ?_⟩
  · rw [if_neg (fun q => by have := hV _ _ e; rw [q, hn] at this; cases this)]
    exact e
  · split at e
    · rename_i q; subst q; cases e; exact ha
    · exact hk _ _ (hV _ _ e)
  · split at e
    · rename_i q; subst q; exact .inr hn
    · exact .inl e
section
variable {w : World} {A : Around} {s : Shared} {G : Glo} {h₀ : Heap} {L : Addr} {cd : Value} {m : Str → Option Value} {V : View} {r : Int} {tr : Tok}
theorem e_octs {p1 p2 p3 p4 p5 p6 p7 p8 : Pos} {k1 k2 : Nat} (hh : A.handled = none) (hd : A.depth ≤ 800) (hu : A.units ≤ 8000) (F : Fr h₀ L s.heap m) (W : Wld w G s.heap.get?) (mr : m "rest" = some (.int r tr)) :
    wpAny (model pw w) A (eval (.Call (.Name "_law_octets" p1) [.BinOp (.Name "rest" p2) .FloorDiv (.Constant (.int 9) k1 p3) p4, .BinOp (.Name "rest" p5) .Mod (.Constant (.int 9) k2 p6) p7] [] p8) (env26 G L cd))
      (fun v s' => Keeps s s' ∧ ∃ t', v = .bytes (byteArr (octs (r.fmod 9).toNat (r.fdiv 9))) t') (fun _ _ => False) s := by
  refine Call_Name2 (gname W ⟨rfl, rfl, rfl⟩ rfl (lk_law_octets _ _) ?_) rfl
  refine callWith_g (k := 25) W (Glo.m25 _) (spliced_cons (wpAny_BinOp (ld F mr (wpAny_Constant_int (floordiv_int (by decide) (spliced_cons (wpAny_BinOp (ld F mr (wpAny_Constant_int (mod_int (by decide) (spliced_nil ⟨fun _ _ _ e => e, ?_⟩))))))))))) 
  have h0 : 0 ≤ r.fmod 9 := Int.fmod_nonneg_of_pos _ (by decide)
  have h9 : r.fmod 9 < 9 := Int.fmod_lt_of_pos _ (by decide)
  have e : r.fmod 9 = ((r.fmod 9).toNat : Int) := by (clear hd hh hu mr; omega)
  rw [e, Int.toNat_natCast]
  refine wpAny_mono (at_le (n := 1) (oct_ok (n := 0) (by decide) (k := (r.fmod 9).toNat) (by (clear hd hh hu mr; omega)) W) hh (by (clear e h0 h9 hh hu mr; omega)) (by (clear e h0 h9 hd hh mr; omega))) (fun v s' h => ⟨?_, h.2⟩) fun _ _ q => q
  obtain ⟨h', tk, rfl, hk⟩ := h.1
  exact ⟨h', tk, rfl, hk⟩
theorem e_one {p1 p2 p3 p4 p5 p6 : Pos} {k1 : Nat} (hh : A.handled = none) (F : Fr h₀ L s.heap m) (W : Wld w G s.heap.get?) (mr : m "rest" = some (.int r tr)) :
    wpAny (model pw w) A (eval (.Call (.Name "bytes" p1) [.List [.BinOp (.Name "rest" p2) .Mod (.Constant (.int 256) k1 p3) p4] p5] [] p6) (env26 G L cd))
      (fun v s' => Keeps s s' ∧ ∃ t', v = .bytes [(r.fmod 256).toNat.toUInt8].toArray t') (fun _ _ => False) s := by
  refine Call_Name1 (bname W ⟨rfl, rfl, rfl⟩ rfl (glo_bytes _ _) (blt_bytes _) ?_) rfl
  refine PyProof.Rows.callWith_type rfl (evalArgs_plain (spliced_cons (wpAny_List (spliced_cons (wpAny_BinOp (ld F mr (wpAny_Constant_int (mod_int (by decide) (spliced_nil ⟨by size_fits, spliced_nil ?_⟩)))))))))
  have hline : (1000 : Nat) ≤ sizeLine := by decide
  refine call_bytes_ints (vs := [.int (r.fmod 256) _]) (ns := [r.fmod 256]) ⟨_, Heap.get?_push_size _ rfl, rfl, 0, rfl⟩ (.cons _ _ .nil) (fun n hn => ?_) (by show 1 ≤ sizeLine; decide) hh fun h' t' k' hk' => ?_
  · rw [List.mem_singleton.mp hn]
    exact ⟨Int.fmod_nonneg_of_pos _ (by decide), Int.fmod_lt_of_pos _ (by decide)⟩
  · exact ⟨⟨h', k', rfl, fun b o e => hk' b o (Heap.get?_push_of_some _ e)⟩, t', rfl⟩
end
end Mine
end Th4_part
section Th5_part
open PySem PySem.W PySem.Calls PyProof.Rows
set_option Elab.async false
set_option maxRecDepth 100000
set_option maxHeartbeats 4000000
namespace Mine
section
variable {w : World} {A : Around} {s : Shared} {G : Glo} {h₀ : Heap} {L : Addr} {cd : Value} {m : Str → Option Value} {V : View} {r : Int} {tr : Tok}
/-- a new bytearray in the view -/
theorem ba_new {b : Array UInt8} {t : Tok} (hg : A.guards = some []) (hb : b.size ≤ 1000) (hV : VLe V s.heap.get?) :
    wpG (model pw w) A (call (.type "bytearray") [.bytes b t]) (fun v s₂ => Keeps s s₂ ∧ ∃ V', Ext V s.heap V' s₂.heap ∧ Has V' (.ba b) v) (fun _ _ => False) s := by
  refine call_ba hg (by (clear hg; omega)) fun h' h1 h2 => ?_
  have hn : s.heap.get? s.heap.objs.size = none := Heap.get?_none_of_le (by simp)
  refine ⟨⟨h', s.toks, rfl, h2⟩, _, Ext.one hV h2 h1 hn, ?_⟩
  unfold Has
  exact ⟨hb, _, rfl, by rw [if_pos rfl]⟩
theorem leaf3 {p0 p1 p2 p3 p4 p5 p6 p7 p8 p9 : Pos} {k1 k2 : Nat} (hg : A.guards = some []) (hh : A.handled = none) (hd : A.depth ≤ 800) (hu : A.units ≤ 8000) (F : Fr h₀ L s.heap m) (W : Wld w G s.heap.get?) (hV : VLe V s.heap.get?) (mr : m "rest" = some (.int r tr)) :
    wpG (model pw w) A (eval (.Call (.Name "bytearray" p0) [.Call (.Name "_law_octets" p1) [.BinOp (.Name "rest" p2) .FloorDiv (.Constant (.int 9) k1 p3) p4, .BinOp (.Name "rest" p5) .Mod (.Constant (.int 9) k2 p6) p7] [] p8] [] p9) (env26 G L cd))
      (fun v s₂ => Keeps s s₂ ∧ ∃ V', Ext V s.heap V' s₂.heap ∧ Has V' (.ba (byteArr (octs (r.fmod 9).toNat (r.fdiv 9)))) v) (fun _ _ => False) s := by
  refine g_Name1 rfl (wpG_of (bname W ⟨rfl, rfl, rfl⟩ rfl (glo_bytearray _ _) (blt_bytearray _) ?_))
  refine g_callWith_type rfl (g_evalArgs (g_spliced_cons (wpG_of (wpAny_mono (e_octs hh hd hu F W mr) (fun v s₂ h₂ => g_spliced_nil ?_) fun _ _ q => q))))
  obtain ⟨⟨h2, k2, rfl, hk⟩, t', rfl⟩ := h₂
  have h9 : r.fmod 9 < 9 := Int.fmod_lt_of_pos _ (by decide)
  refine wpG_mono (ba_new (V := V) hg (by rw [byteArr_size, octs_len]; (clear hd hg hh hu mr; omega)) fun b o e => hk b o (hV b o e)) (fun v s₃ h₃ => ?_) fun _ _ q => q
  obtain ⟨⟨h3, k3, rfl, hk3⟩, V', hE, hT⟩ := h₃
  exact ⟨⟨h3, k3, rfl, fun b o e => hk3 b o (hk b o e)⟩, V', ⟨hE.le, hE.at', fun b o e => (hE.new b o e).imp id fun e' => none_of_le hk e'⟩, hT⟩
theorem leaf7 {p1 p2 p3 p4 p5 p6 p7 p8 : Pos} {k1 k2 : Nat} (hh : A.handled = none) (hd : A.depth ≤ 800) (hu : A.units ≤ 8000) (F : Fr h₀ L s.heap m) (W : Wld w G s.heap.get?) (hV : VLe V s.heap.get?) (mr : m "rest" = some (.int r tr)) :
    wpG (model pw w) A (eval (.Call (.Name "_law_octets" p1) [.BinOp (.Name "rest" p2) .FloorDiv (.Constant (.int 9) k1 p3) p4, .BinOp (.Name "rest" p5) .Mod (.Constant (.int 9) k2 p6) p7] [] p8) (env26 G L cd))
      (fun v s₂ => Keeps s s₂ ∧ ∃ V', Ext V s.heap V' s₂.heap ∧ Has V' (.byt (byteArr (octs (r.fmod 9).toNat (r.fdiv 9)))) v) (fun _ _ => False) s := by
  refine wpG_of (wpAny_mono (e_octs hh hd hu F W mr) (fun v s₂ h₂ => ?_) fun _ _ q => q)
  obtain ⟨k, t', rfl⟩ := h₂
  have h9 : r.fmod 9 < 9 := Int.fmod_lt_of_pos _ (by decide)
  refine ⟨k, V, Ext.refl fun b o e => keeps_of k b o (hV b o e), ?_⟩
  unfold Has
  exact ⟨by rw [byteArr_size, octs_len]; (clear hd hh hu mr; omega), t', rfl⟩
theorem leaf4 {p1 p2 p3 p4 p5 p6 p7 p8 p9 q1 q2 q3 q4 q5 : Pos} {k1 k2 k3 k4 : Nat} (hh : A.handled = none) (F : Fr h₀ L s.heap m) (W : Wld w G s.heap.get?) (hV : VLe V s.heap.get?) (mr : m "rest" = some (.int r tr)) :
    wpG (model pw w) A (eval (.BinOp (.Call (.Name "bytes" p1) [.List [.BinOp (.Name "rest" p2) .Mod (.Constant (.int 256) k1 p3) p4] p5] [] p6) .Mult
      (.BinOp (.Constant (.int 53) k2 p7) .Add (.BinOp (.BinOp (.Name "rest" p8) .FloorDiv (.Constant (.int 256) k3 p9) q1) .Mod (.Constant (.int 5) k4 q2) q3) q4) q5) (env26 G L cd))
      (fun v s₂ => Keeps s s₂ ∧ ∃ V', Ext V s.heap V' s₂.heap ∧ Has V' (.byt (rep r (53 + (r.fdiv 256).fmod 5))) v) (fun _ _ => False) s := by
  refine wpG_of (wpAny_BinOp (wpAny_mono (e_one hh F W mr) (fun v s₂ h₂ => ?_) fun _ _ q => q))
  obtain ⟨k, t', rfl⟩ := h₂
  have F2 := F.after (keeps_of k)
  have h0 : 0 ≤ (r.fdiv 256).fmod 5 := Int.fmod_nonneg_of_pos _ (by decide)
  have h5 : (r.fdiv 256).fmod 5 < 5 := Int.fmod_lt_of_pos _ (by decide)
  refine wpAny_BinOp (wpAny_Constant_int (wpAny_BinOp (wpAny_BinOp (ld F2 mr (wpAny_Constant_int (floordiv_int (by decide) (wpAny_Constant_int (mod_int (by decide) (add_int ?_)))))))))
  refine bytes_mul_any (by simp) (by (clear hh mr; omega)) (by (clear hh mr; omega)) (by simp) fun t'' k' => ?_
  obtain ⟨h2, k2, rfl, hk⟩ := k
  refine ⟨⟨h2, k', rfl, hk⟩, V, Ext.refl fun b o e => hk b o (hV b o e), ?_⟩
  unfold Has
  exact ⟨by have := rep_size r (53 + (r.fdiv 256).fmod 5); (clear hh mr; omega), t'', rfl⟩
theorem leaf5 {p0 p1 p2 p3 p4 p5 p6 p7 p8 p9 q1 q2 q3 q4 : Pos} {k1 k3 k4 : Nat} (hg : A.guards = some []) (hh : A.handled = none) (F : Fr h₀ L s.heap m) (W : Wld w G s.heap.get?) (hV : VLe V s.heap.get?) (mr : m "rest" = some (.int r tr)) :
    wpG (model pw w) A (eval (.Call (.Name "bytearray" p0) [.BinOp (.Call (.Name "bytes" p1) [.List [.BinOp (.Name "rest" p2) .Mod (.Constant (.int 256) k1 p3) p4] p5] [] p6) .Mult
      (.BinOp (.BinOp (.Name "rest" p8) .FloorDiv (.Constant (.int 256) k3 p9) q1) .Mod (.Constant (.int 3) k4 q2) q3) q4] [] p7) (env26 G L cd))
      (fun v s₂ => Keeps s s₂ ∧ ∃ V', Ext V s.heap V' s₂.heap ∧ Has V' (.ba (rep r ((r.fdiv 256).fmod 3))) v) (fun _ _ => False) s := by
  refine g_Name1 rfl (wpG_of (bname W ⟨rfl, rfl, rfl⟩ rfl (glo_bytearray _ _) (blt_bytearray _) ?_))
  refine g_callWith_type rfl (g_evalArgs (g_spliced_cons (wpG_of (wpAny_BinOp (wpAny_mono (e_one hh F W mr) (fun v s₂ h₂ => ?_) fun _ _ q => q)))))
  obtain ⟨k, t', rfl⟩ := h₂
  have F2 := F.after (keeps_of k)
  have h0 : 0 ≤ (r.fdiv 256).fmod 3 := Int.fmod_nonneg_of_pos _ (by decide)
  have h5 : (r.fdiv 256).fmod 3 < 3 := Int.fmod_lt_of_pos _ (by decide)
  refine wpAny_BinOp (wpAny_BinOp (ld F2 mr (wpAny_Constant_int (floordiv_int (by decide) (wpAny_Constant_int (mod_int (by decide) ?_))))))
  refine bytes_mul_any (by simp) (by (clear hg hh mr; omega)) (by (clear hg hh mr; omega)) (by simp) fun t'' k' => g_spliced_nil ?_
  obtain ⟨h2, k2, rfl, hk⟩ := k
  refine wpG_mono (ba_new (V := V) (b := rep r ((r.fdiv 256).fmod 3)) hg (by rw [rep_size]; (clear hg hh mr; omega)) fun b o e => hk b o (hV b o e)) (fun v s₃ h₃ => ?_) fun _ _ q => q
  obtain ⟨⟨h3, k3, rfl, hk3⟩, V', hE, hT⟩ := h₃
  exact ⟨⟨h3, k3, rfl, fun b o e => hk3 b o (hk b o e)⟩, V', ⟨hE.le, hE.at', fun b o e => (hE.new b o e).imp id fun e' => none_of_le hk e'⟩, hT⟩
end
end Mine
end Th5_part
section Th6_part
open PySem PySem.W PySem.Calls PyProof.Rows
set_option Elab.async false
set_option maxRecDepth 100000
set_option maxHeartbeats 4000000
namespace Mine
section
variable {w : World} {A : Around} {s : Shared} {G : Glo} {h₀ : Heap} {L : Addr} {cd : Value} {m : Str → Option Value} {V : View} {r : Int} {tr : Tok}
theorem Ext.push {V V' : View} {h h' : Heap} (x : Ext V h V' h') (hk : ∀ b o, h.get? b = some o → h'.get? b = some o) (o : Obj) (ho : o.isFreed = false) : Ext V h (fun b => if b = h'.objs.size then some o else V' b) (h'.push o) :=
  Ext.trans x (Ext.one x.at' (fun b o' e => Heap.get?_push_of_some _ e) (Heap.get?_push_size _ ho) (Heap.get?_none_of_le (by simp))) fun b o' e => by rw [hk b o' e]; rfl
theorem leaf6 {p1 p2 p3 p4 p5 p6 p7 p8 p9 q1 q2 q3 q4 q5 q6 : Pos} {k1 k2 k3 k4 k5 k6 k7 k8 k9 : Nat} (F : Fr h₀ L s.heap m) (hV : VLe V s.heap.get?) (mr : m "rest" = some (.int r tr)) :
    wpG (model pw w) A (eval (.Subscript (.List [.Constant .none k1 p1, .Constant (.int 0) k2 p2, .Constant (.int 7) k3 p3, .Constant (.bool true) k4 p4, .List [.Constant (.int 5) k5 p5] p6, .Tuple [.Constant (.bool false) k6 p7] k7 p8, .Constant (.bytes []) k8 p9, .Tuple [] k9 q1] q2)
      (.BinOp (.Name "rest" q3) .Mod (.Constant (.int 8) k5 q4) q5) q6) (env26 G L cd))
      (fun v s₂ => Keeps s s₂ ∧ ∃ V', Ext V s.heap V' s₂.heap ∧ Has V' (item6 (r.fmod 8).toNat) v) (fun _ _ => False) s := by
  have h0 : 0 ≤ r.fmod 8 := Int.fmod_nonneg_of_pos _ (by decide)
  have h8 : r.fmod 8 < 8 := Int.fmod_lt_of_pos _ (by decide)
  refine wpG_of ?_
  refine wpQ ?_
  intro Q0 q0
  refine Subscript_ ?_
  refine wpAny_List ?_
  refine spliced_cons ?_
  refine wpAny_Constant_none (k := 0) (pos := default) ?_
  refine spliced_cons ?_
  refine wpAny_Constant_int (k := 0) (pos := default) ?_
  refine spliced_cons ?_
  refine wpAny_Constant_int (k := 0) (pos := default) ?_
  refine spliced_cons ?_
  refine wpAny_Constant_bool (k := 0) (pos := default) ?_
  refine spliced_cons ?_ 
  refine wpAny_List (spliced_cons (wpAny_Constant_int (k := 0) (pos := default) (spliced_nil ?_)))
  refine ⟨by size_fits, spliced_cons ?_⟩
  refine wpAny_Tuple (k := 0) (spliced_cons (wpAny_Constant_bool (k := 0) (pos := default) (spliced_nil ?_)))
  refine ⟨by size_fits, spliced_cons ?_⟩
  refine Constant_bytes (k := 0) (pos := default) (spliced_cons ?_)
  refine wpAny_Tuple (k := 0) (spliced_nil ?_)
  refine ⟨by size_fits, spliced_nil ?_⟩
  refine ⟨by size_fits, ?_⟩
  dsimp only
  have e1 := (Ext.refl (h := s.heap) hV).push (fun _ _ e => e) (listO #[.int 5 (s.toks + 1 + 1)] 0) rfl
  have k1 : ∀ b o, s.heap.get? b = some o → (s.heap.push (listO #[.int 5 (s.toks + 1 + 1)] 0)).get? b = some o := fun b o e => Heap.get?_push_of_some _ e
  have e2 := e1.push k1 (tupO #[.bool false] 0) rfl
  have k2 : ∀ b o, s.heap.get? b = some o → ((s.heap.push (listO #[.int 5 (s.toks + 1 + 1)] 0)).push (tupO #[.bool false] 0)).get? b = some o := fun b o e => Heap.get?_push_of_some _ (k1 b o e)
  have e3 := e2.push k2 (tupO #[] 0) rfl
  have k3 : ∀ b o, s.heap.get? b = some o → (((s.heap.push (listO #[.int 5 (s.toks + 1 + 1)] 0)).push (tupO #[.bool false] 0)).push (tupO #[] 0)).get? b = some o := fun b o e => Heap.get?_push_of_some _ (k2 b o e)
  have n1 : s.heap.objs.size ≠ (s.heap.push (listO #[.int 5 (s.toks + 1 + 1)] 0)).objs.size := by rw [Heap.size_push]; exact Nat.ne_of_lt (Nat.lt_succ_self _)
  have n2 : (s.heap.push (listO #[.int 5 (s.toks + 1 + 1)] 0)).objs.size ≠ ((s.heap.push (listO #[.int 5 (s.toks + 1 + 1)] 0)).push (tupO #[.bool false] 0)).objs.size := by rw [Heap.size_push _ (tupO #[.bool false] 0)]; exact Nat.ne_of_lt (Nat.lt_succ_self _)
  have n3 : s.heap.objs.size ≠ ((s.heap.push (listO #[.int 5 (s.toks + 1 + 1)] 0)).push (tupO #[.bool false] 0)).objs.size := by rw [Heap.size_push, Heap.size_push]; exact Nat.ne_of_lt (Nat.lt_succ_of_lt (Nat.lt_succ_self _))
  generalize hvw : (fun b => if b = ((s.heap.push (listO #[Value.int 5 (s.toks + 1 + 1)] 0)).push (tupO #[Value.bool false] 0)).objs.size then some (tupO #[] 0) else if b = (s.heap.push (listO #[Value.int 5 (s.toks + 1 + 1)] 0)).objs.size then some (tupO #[Value.bool false] 0) else if b = s.heap.objs.size then some (listO #[Value.int 5 (s.toks + 1 + 1)] 0) else V b) = V3 at e3
  have v5 : V3 s.heap.objs.size = some (listO #[.int 5 (s.toks + 1 + 1)] 0) := by rw [← hvw]; dsimp only; rw [if_neg n3, if_neg n1, if_pos rfl]
  have vF : V3 (s.heap.push (listO #[.int 5 (s.toks + 1 + 1)] 0)).objs.size = some (tupO #[.bool false] 0) := by rw [← hvw]; dsimp only; rw [if_neg n2, if_pos rfl]
  have v0 : V3 ((s.heap.push (listO #[.int 5 (s.toks + 1 + 1)] 0)).push (tupO #[.bool false] 0)).objs.size = some (tupO #[] 0) := by rw [← hvw]; dsimp only; rw [if_pos rfl]
  clear hvw e1 e2 k1 k2 n1 n2 n3
  generalize hH : (((s.heap.push (listO #[Value.int 5 (s.toks + 1 + 1)] 0)).push (tupO #[Value.bool false] 0)).push (tupO #[] 0)) = H3 at e3 k3 ⊢
  have F3 : Fr h₀ L H3 m := F.after k3
  refine wpAny_BinOp (ld (F3.push _) mr (wpAny_Constant_int (mod_int (by decide) ?_)))
  have key : ∃ x, #[Value.none, .int 0 s.toks, .int 7 (s.toks + 1), .bool true, .ref s.heap.objs.size, .ref (s.heap.push (listO #[.int 5 (s.toks + 1 + 1)] 0)).objs.size, .bytes #[] (s.toks + 1 + 1 + 1), .ref ((s.heap.push (listO #[.int 5 (s.toks + 1 + 1)] 0)).push (tupO #[.bool false] 0)).objs.size][(r.fmod 8).toNat]? = some x ∧ Has V3 (item6 (r.fmod 8).toNat) x := by
    have : (r.fmod 8).toNat < 8 := by (clear mr v0 v5 vF; omega)
    generalize (r.fmod 8).toNat = k at this
    have hk : k = 0 ∨ k = 1 ∨ k = 2 ∨ k = 3 ∨ k = 4 ∨ k = 5 ∨ k = 6 ∨ k = 7 := by (clear h0 h8 mr v0 v5 vF; omega)
    rcases hk with rfl | rfl | rfl | rfl | rfl | rfl | rfl | rfl
    · exact ⟨_, rfl, by unfold item6 Has; rfl⟩
    · exact ⟨_, rfl, by unfold item6 Has; exact ⟨_, rfl⟩⟩
    · exact ⟨_, rfl, by unfold item6 Has; exact ⟨_, rfl⟩⟩
    · exact ⟨_, rfl, by unfold item6 Has; rfl⟩
    · exact ⟨_, rfl, by unfold item6 Has; exact ⟨_, _, _, rfl, v5, by simp, by unfold HasAll; exact ⟨by unfold Has; exact ⟨_, rfl⟩, by unfold HasAll; trivial⟩⟩⟩
    · exact ⟨_, rfl, by unfold item6 Has; exact ⟨_, _, _, rfl, vF, by simp, by unfold HasAll; exact ⟨by unfold Has; rfl, by unfold HasAll; trivial⟩⟩⟩
    · exact ⟨_, rfl, by unfold item6 Has; exact ⟨by simp, _, rfl⟩⟩
    · exact ⟨_, rfl, by unfold item6 Has; exact ⟨_, _, _, rfl, v0, by simp, by unfold HasAll; trivial⟩⟩
  obtain ⟨x, hx, hT⟩ := key
  refine item_listR (items := #[Value.none, .int 0 s.toks, .int 7 (s.toks + 1), .bool true, .ref s.heap.objs.size, .ref (s.heap.push (listO #[.int 5 (s.toks + 1 + 1)] 0)).objs.size, .bytes #[] (s.toks + 1 + 1 + 1), .ref ((s.heap.push (listO #[.int 5 (s.toks + 1 + 1)] 0)).push (tupO #[.bool false] 0)).objs.size]) (x := x) ⟨_, Heap.get?_push_size _ rfl, rfl, 0, rfl⟩ h0 (by (clear hx mr v0 v5 vF; omega)) hx ?_
  exact q0 _ _ ⟨⟨_, _, rfl, fun b o e => Heap.get?_push_of_some _ (k3 b o e)⟩, V3, ⟨e3.le, fun b o e => Heap.get?_push_of_some _ (e3.at' b o e), e3.new⟩, hT⟩
end
end Mine
end Th6_part
section Th7_part
open PySem PySem.W PySem.Calls PyProof.Rows
set_option Elab.async false
set_option maxRecDepth 100000
set_option maxHeartbeats 4000000
namespace Mine
noncomputable def loop26 : List Stmt := match (fd 26).body with
  | _ :: .For _ _ b _ _ :: _ => b
  | _ => []
theorem g_single {M : Model} {A : Around} {E : Value → Shared → Prop} {s : Shared} {env : Env} {st : Stmt} {P : Shared → Prop} (h : wpG M A (exec st env) (fun f s' => f = .next ∧ P s') E s) : wpG M A (execs [st] env) (fun f s' => f = .next ∧ P s') E s :=
  g_execs_cons (wpG_mono h (fun f s' h' => by obtain ⟨rfl, h'⟩ := h'; exact wpG_of (wpAny_execs_nil ⟨rfl, h'⟩)) fun _ _ q => q)
theorem thStep_leaf {S : Rws} {n : Int} (h1 : ¬ (n.fmod 12 = 0 ∧ S.2.length < 9)) (h2 : ¬ ((n.fmod 12 = 1 ∨ n.fmod 12 = 2) ∧ 0 < S.2.length)) : thStep S n = push1 (thLeaf (n.fmod 12) (n.fdiv 12)) S := by
  unfold thStep
  rw [if_neg h1]
  obtain ⟨top, bs⟩ := S
  cases bs with
  | nil => rfl
  | cons p bs =>
    dsimp only at h2 ⊢
    rw [if_neg fun q => h2 ⟨q, by simp⟩]
section
variable {w : World} {A : Around} {s : Shared} {G : Glo} {h₀ : Heap} {oI : Obj} {L I RL : Addr} {cd : Value} {m : Str → Option Value} {V₀ V : View} {r : Int} {tr : Tok} {D : List Addr} {S : Rws} {n : Int} {tn : Tok}
theorem e_len {p1 p2 p3 : Pos} {R : List (List T)} (hh : A.handled = none) (hd : A.depth ≤ 800) (hu : A.units ≤ 8000) (F : Fr h₀ L s.heap m) (W : Wld w G s.heap.get?) (mr : m "rows" = some (.ref RL)) (X : RS h₀ L I RL oI V₀ V s.heap R D) (hz : D.length ≤ 100) :
    wpAny (model pw w) A (eval (.Call (.Name "len" p1) [.Name "rows" p2] [] p3) (env26 G L cd)) (fun v s' => Keeps s s' ∧ ∃ t', v = .int D.length t') (fun _ _ => False) s := by
  obtain ⟨ep, hrl⟩ := X.rl
  refine Call_Name1 (bname W ⟨rfl, rfl, rfl⟩ rfl (glo_len _ _) (blt_len _) ?_) rfl
  refine callWith_builtin rfl (evalArgs_plain (spliced_cons (ld F mr (spliced_nil ?_))))
  have := len_list (prog := pw) (w := w) (h := s.heap) (g := s.gens) (d := s.drawn) (tk := s.toks) (os := s.os) (vs := refs D) (a := RL) (ep := ep) (by rw [refs_size]; (clear hd hh hrl hu mr; omega)) hrl
  rw [refs_size] at this
  exact amax this hh (by (clear hh hrl hu hz mr; omega)) (by (clear hd hh hrl hz mr; omega))
/-- what a turn leaves -/
noncomputable def After (s : Shared) (h₀ : Heap) (L I RL : Addr) (oI : Obj) (V₀ : View) (S : Rws) (s' : Shared) : Prop :=
  ∃ h' tk m' V' D', s' = { s with heap := h', toks := tk } ∧ Fr h₀ L h' m' ∧ m' "rows" = some (.ref RL) ∧ RS h₀ L I RL oI V₀ V' h' (S.1 :: S.2) D'
theorem after_push {t : T} {d : Addr} {D : List Addr} {s1 : Shared} {h1 : Heap} {k1 : Tok} (e : s1 = { s with heap := h1, toks := k1 }) (mr : m "rows" = some (.ref RL)) {f : Flow} {s' : Shared}
    (h : f = .next ∧ ∃ h' tk V', s' = { s1 with heap := h', toks := tk } ∧ Fr h₀ L h' m ∧ RS h₀ L I RL oI V₀ V' h' ((S.1 ++ [t]) :: S.2) (d :: D)) : f = .next ∧ After s h₀ L I RL oI V₀ (push1 t S) s' := by
  subst e
  obtain ⟨rfl, h', tk, V', rfl, F, X⟩ := h
  exact ⟨rfl, h', tk, m, V', _, rfl, F, mr, X⟩
end
end Mine
end Th7_part
section Th8_part
open PySem PySem.W PySem.Calls PyProof.Rows
set_option Elab.async false
set_option maxRecDepth 100000
set_option maxHeartbeats 4000000
namespace Mine
noncomputable def chain3 : List Stmt := match loop26 with
  | [_, _, .If _ _ [.If _ _ l _] _] => l
  | _ => []
section
variable {w : World} {A : Around} {s : Shared} {G : Glo} {h₀ : Heap} {oI : Obj} {L I RL : Addr} {cd : Value} {m : Str → Option Value} {V₀ V : View} {D : List Addr} {S : Rws} {d : Addr}
theorem leaves_ok {k r : Int} {tk tr : Tok} (hg : A.guards = some []) (hh : A.handled = none) (hd : A.depth ≤ 800) (hu : A.units ≤ 8000) (F : Fr h₀ L s.heap m) (W : Wld w G h₀.get?) (mr : m "rows" = some (.ref RL)) (mk : m "kind" = some (.int k tk)) (mt : m "rest" = some (.int r tr))
    (X : RS h₀ L I RL oI V₀ V s.heap (S.1 :: S.2) (d :: D)) (hz : S.1.length ≤ 900) :
    wpG (model pw w) A (execs chain3 (env26 G L cd)) (fun f s' => f = .next ∧ After s h₀ L I RL oI V₀ (push1 (thLeaf k r) S) s') (fun _ _ => False) s := by
  have W1 := W.keeps F.keep
  refine g_single (g_If (wpAny_isTrue_Compare1 (ld F mk (wpAny_Constant_int (eq_int (wpAny_truthy_bool ?_)))) (by rfl)))
  by_cases c3 : k = 3
  · subst c3
    rw [show (((3 : Int) == 3) = true) from rfl, if_pos rfl]
    refine g_single (wpG_mono (row_append (t := .ba (byteArr (octs (r.fmod 9).toNat (r.fdiv 9)))) F rfl (by rfl) mr X hz (by rfl) (by rfl) (by rfl) (by rfl) (by rfl) fun tk' => leaf3 hg hh hd hu F W1 X.at' mt) (fun f s' h => ?_) fun _ _ q => q)
    exact after_push rfl mr h
  rw [show (k == 3) = false from by simpa using c3, if_neg (by simp)]
  refine g_single (g_If (wpAny_isTrue_Compare1 (ld F mk (wpAny_Constant_int (eq_int (wpAny_truthy_bool ?_)))) (by rfl)))
  by_cases c4 : k = 4
  · subst c4
    rw [show (((4 : Int) == 4) = true) from rfl, if_pos rfl]
    refine g_single (wpG_mono (row_append (t := .byt (rep r (53 + (r.fdiv 256).fmod 5))) F rfl (by rfl) mr X hz (by rfl) (by rfl) (by rfl) (by rfl) (by rfl) fun tk' => leaf4 hh F W1 X.at' mt) (fun f s' h => ?_) fun _ _ q => q)
    exact after_push rfl mr h
  rw [show (k == 4) = false from by simpa using c4, if_neg (by simp)]
  refine g_single (g_If (wpAny_isTrue_Compare1 (ld F mk (wpAny_Constant_int (eq_int (wpAny_truthy_bool ?_)))) (by rfl)))
  by_cases c5 : k = 5
  · subst c5
    rw [show (((5 : Int) == 5) = true) from rfl, if_pos rfl]
    refine g_single (wpG_mono (row_append (t := .ba (rep r ((r.fdiv 256).fmod 3))) F rfl (by rfl) mr X hz (by rfl) (by rfl) (by rfl) (by rfl) (by rfl) fun tk' => leaf5 hg hh F W1 X.at' mt) (fun f s' h => ?_) fun _ _ q => q)
    exact after_push rfl mr h
  rw [show (k == 5) = false from by simpa using c5, if_neg (by simp)]
  refine g_single (g_If (wpAny_isTrue_Compare1 (ld F mk (wpAny_Constant_int (eq_int (wpAny_truthy_bool ?_)))) (by rfl)))
  by_cases c6 : k = 6
  · subst c6
    rw [show (((6 : Int) == 6) = true) from rfl, if_pos rfl]
    refine g_single (wpG_mono (row_append (t := item6 (r.fmod 8).toNat) F rfl (by rfl) mr X hz (by rfl) (by rfl) (by rfl) (by rfl) (by rfl) fun tk' => leaf6 F X.at' mt) (fun f s' h => ?_) fun _ _ q => q)
    exact after_push rfl mr h
  rw [show (k == 6) = false from by simpa using c6, if_neg (by simp)]
  refine g_single (wpG_mono (row_append (t := .byt (byteArr (octs (r.fmod 9).toNat (r.fdiv 9)))) F rfl (by rfl) mr X hz (by rfl) (by rfl) (by rfl) (by rfl) (by rfl) fun tk' => leaf7 hh hd hu F W1 X.at' mt) (fun f s' h => ?_) fun _ _ q => q)
  have e : thLeaf k r = .byt (byteArr (octs (r.fmod 9).toNat (r.fdiv 9))) := by unfold thLeaf; rw [if_neg c3, if_neg c4, if_neg c5, if_neg c6]
  rw [e]
  exact after_push rfl mr h
end
end Mine
end Th8_part
section Th9_part
open PySem PySem.W PySem.Calls PyProof.Rows
set_option Elab.async false
set_option maxRecDepth 100000
set_option maxHeartbeats 4000000
namespace Mine
noncomputable def rowNew : List Stmt := match loop26 with
  | [_, _, .If _ l _ _] => l
  | _ => []
noncomputable def rowPop : List Stmt := match loop26 with
  | [_, _, .If _ _ [.If _ l _ _] _] => l
  | _ => []
theorem refs_pop (d : Addr) (D : List Addr) : (refs (d :: D)).eraseIdxIfInBounds ((refs (d :: D)).size - 1) = refs D := by
  rw [refs_cons]
  apply Array.ext'
  simp only [Array.eraseIdxIfInBounds, Array.size_push, Nat.add_sub_cancel, Nat.lt_succ_self, ↓reduceDIte, Array.toList_eraseIdx, Array.toList_push]
  rw [List.eraseIdx_append_of_length_le (by simp)]
  simp
section
variable {w : World} {A : Around} {s : Shared} {G : Glo} {h₀ : Heap} {oI : Obj} {L I RL : Addr} {cd : Value} {m : Str → Option Value} {V₀ V : View} {D : List Addr} {S : Rws} {d : Addr}
theorem new_ok (F : Fr h₀ L s.heap m) (mr : m "rows" = some (.ref RL)) (X : RS h₀ L I RL oI V₀ V s.heap (S.1 :: S.2) D) (hz : D.length ≤ 100) :
    wpG (model pw w) A (execs rowNew (env26 G L cd)) (fun f s' => f = .next ∧ After s h₀ L I RL oI V₀ ([], S.1 :: S.2) s') (fun _ _ => False) s := by
  obtain ⟨ep, hrl⟩ := X.rl
  refine g_single (g_Expr (g_append (by rfl) (by rfl) (by rfl) (ld F mr ⟨RL, _, _, rfl, hrl, wpG_of (wpAny_List (spliced_nil ?_))⟩)) (by rfl) (by rfl))
  refine ⟨by size_fits, ?_⟩
  have hn : s.heap.get? s.heap.objs.size = none := Heap.get?_none_of_le (by simp)
  have hline : (1000 : Nat) ≤ sizeLine := by decide
  refine wpAny_list_append_plain ⟨_, Heap.get?_push_of_some _ hrl⟩ (fun h3 hl3 hs3 => ?_) (by rw [refs_size]; (clear hn hrl mr; omega))
  obtain ⟨ep3, hl3⟩ := hl3
  dsimp only at hl3 hs3 ⊢
  refine ⟨rfl, h3, s.toks, m, V, _, rfl, ?_, mr, X.pushrow hs3 hl3⟩
  exact Fr.change (F.push _) X.rl0 X.ne1 hs3
theorem pop_ok {k : Int} {tk : Tok} {p : List T} {bs : List (List T)} (hh : A.handled = none) (F : Fr h₀ L s.heap m) (hIL : I ≠ L) (W : Wld w G h₀.get?) (mr : m "rows" = some (.ref RL)) (mk : m "kind" = some (.int k tk))
    (X : RS h₀ L I RL oI V₀ V s.heap (S.1 :: p :: bs) D) (hz : D.length ≤ 100) (hz1 : S.1.length ≤ 900) (hz2 : p.length ≤ 900) :
    wpG (model pw w) A (execs rowPop (env26 G L cd)) (fun f s' => f = .next ∧ After s h₀ L I RL oI V₀ (p ++ [if k = 1 then .lst S.1 else .tup S.1], bs) s') (fun _ _ => False) s := by
  obtain ⟨ep, hrl⟩ := X.rl
  obtain ⟨d, D1, rfl⟩ : ∃ d D1, D = d :: D1 := by
    cases D with
    | nil => have := X.rows; unfold RowsOn at this; exact this.elim
    | cons d D1 => exact ⟨d, D1, rfl⟩
  obtain ⟨d2, D2, rfl⟩ : ∃ d2 D2, D1 = d2 :: D2 := by
    cases D1 with
    | nil => have := X.rows; unfold RowsOn at this; have := this.2.2.2.2.2; unfold RowsOn at this; exact this.elim
    | cons d D1 => exact ⟨d, D1, rfl⟩
  have hline : (1000 : Nat) ≤ sizeLine := by decide
  refine g_execs_cons (wpG_of (wpAny_Assign_Name (Call_method0 (by rfl) (by rfl) (ld F mr ?_)) (by rfl)))
  refine ⟨"list", "list.pop", PySem.F.plainAttrs_list, PySem.F.slot_list_pop, PySem.F.type_list_pop, ⟨_, hrl, rfl⟩, (fun a ea => by cases ea; exact ⟨_, hrl, rfl⟩), ?_⟩
  refine P.pop_list (items := refs (d :: d2 :: D2)) (n := ep) hrl (y := .ref d) (by rw [refs_size]; exact refs_last d (d2 :: D2)) ?_ (by rw [refs_size]; (clear hIL hh hrl hz1 hz2 mk mr; omega))
  have hup := IsL.update (h := s.heap) (l := RL) (items := refs (d :: d2 :: D2)) (n := ep) hrl (fun xs => xs.eraseIdxIfInBounds ((refs (d :: d2 :: D2)).size - 1))
  rw [refs_pop] at hup
  have hsb : Heap.SameBut RL s.heap (s.heap.update RL (Obj.mapSeq fun xs => xs.eraseIdxIfInBounds ((refs (d :: d2 :: D2)).size - 1))) := Heap.SameBut.update ..
  generalize (s.heap.update RL (Obj.mapSeq fun xs => xs.eraseIdxIfInBounds ((refs (d :: d2 :: D2)).size - 1))) = h1 at hup hsb ⊢
  obtain ⟨V', vs, epd, X1, hVV, hVd, hd, hHas⟩ := X.pop hsb hup
  have F1 : Fr h₀ L h1 m := Fr.change F X.rl0 X.ne1 hsb
  refine stK F1 News.nil (fun h2 F2 _ k2 => ?_) (by rfl) (by rfl)
  dsimp only at k2 ⊢
  have X2 : RS h₀ L I RL oI V₀ V' h2 (p :: bs) (d2 :: D2) := X1.own (fun b o hL _ e => k2 b o hL e) (by obtain ⟨o, _, _, e, _⟩ := F2.ns; exact ⟨o, e⟩) (k2 _ _ hIL X1.iI) F2.keep
  have hdL : d ≠ L := fun q => by have := X.rows; unfold RowsOn at this; have := this.2.2.2.1; simp only [List.mem_cons, not_or] at this; exact this.1 q
  have hvs : vs.size = S.1.length := by rw [← Array.length_toList, hHas.length]
  refine g_single (wpG_mono (row_append (t := if k = 1 then .lst S.1 else .tup S.1) F2 rfl (by rfl) (show set1 m "part" (.ref d) "rows" = some (.ref RL) from (if_neg (by decide)).trans mr) X2 hz2 (by rfl) (by rfl) (by rfl) (by rfl) (by rfl) fun tk' => ?_) (fun f s' h => ?_) fun _ _ q => q)
  · refine wpG_of (IfExp_ (wpAny_isTrue_Compare1 (ld F2 (show set1 m "part" (.ref d) "kind" = some (.int k tk) from (if_neg (by decide)).trans mk) (wpAny_Constant_int (eq_int (wpAny_truthy_bool ?_)))) (by rfl)))
    by_cases c : k = 1
    · subst c
      rw [show (((1 : Int) == 1) = true) from rfl, if_pos rfl]
      refine ld F2 (show set1 m "part" (.ref d) "part" = some (.ref d) from if_pos rfl) ?_
      refine ⟨⟨h2, _, rfl, fun _ _ e => e⟩, V', Ext.refl X2.at', ?_⟩
      rw [if_pos rfl]
      unfold Has
      exact ⟨d, vs, epd, rfl, hVd, by (clear hIL hVd hd hdL hh hline hrl hz hz2 mk mr; omega), hHas⟩
    · rw [show (k == 1) = false from by simpa using c, if_neg (by simp)]
      refine Call_Name1 (bname (W.keeps F2.keep) ⟨rfl, rfl, rfl⟩ rfl (glo_tuple _ _) (blt_tuple _) ?_) rfl
      refine PyProof.Rows.callWith_type rfl (evalArgs_plain (spliced_cons (ld F2 (show set1 m "part" (.ref d) "part" = some (.ref d) from if_pos rfl) (spliced_nil ?_))))
      refine call_tuple_list (items := vs) ⟨_, k2 d _ hdL hd, rfl, epd, rfl⟩ (fun h3 hk3 => ?_) (by (clear c hIL hVd hd hdL hh hrl hz hz2 mk mr; omega))
      have hn : h3.get? h3.objs.size = none := Heap.get?_none_of_le (by simp)
      have hup3 : ∀ b o, h2.get? b = some o → (h3.push (tupO vs 0)).get? b = some o := fun b o e => Heap.get?_push_of_some _ (hk3 b o e)
      have e3 := Ext.one (V := V') (h := h2) (h' := h3.push (tupO vs 0)) (a := h3.objs.size) (o := tupO vs 0) X2.at' hup3 (Heap.get?_push_size _ rfl) (none_of_le hk3 hn)
      refine ⟨⟨_, _, rfl, hup3⟩, _, e3, ?_⟩
      rw [if_neg c]
      unfold Has
      exact ⟨h3.objs.size, vs, 0, rfl, if_pos rfl, by (clear c hIL hVd hd hdL hh hline hn hrl hz hz2 mk mr; omega), HasAll.mono e3.le _ _ hHas⟩
  · obtain ⟨rfl, h', tk', V'', rfl, F3, X3⟩ := h
    exact ⟨rfl, h', tk', _, V'', _, rfl, F3, (if_neg (by decide)).trans mr, X3⟩
end
end Mine
end Th9_part
section Th10_part
open PySem PySem.W PySem.Calls PyProof.Rows
set_option Elab.async false
set_option maxRecDepth 100000
set_option maxHeartbeats 4000000
namespace Mine
noncomputable def elseNew : List Stmt := match loop26 with
  | [_, _, .If _ _ l _] => l
  | _ => []
section
variable {w : World} {A : Around} {s : Shared} {G : Glo} {h₀ : Heap} {oI : Obj} {L I RL : Addr} {cd : Value} {m : Str → Option Value} {V₀ V : View} {D : List Addr} {S : Rws} {n : Int} {tn : Tok}
theorem After.of {s s2 s' : Shared} {h2 : Heap} {k2 : Tok} {S : Rws} (e : s2 = { s with heap := h2, toks := k2 }) (h : After s2 h₀ L I RL oI V₀ S s') : After s h₀ L I RL oI V₀ S s' := by
  subst e
  obtain ⟨h', tk, m', V', D', rfl, r⟩ := h
  exact ⟨h', tk, m', V', D', rfl, r⟩
theorem else_ok {k r : Int} {tk tr : Tok} (hg : A.guards = some []) (hh : A.handled = none) (hd : A.depth ≤ 800) (hu : A.units ≤ 8000) (F : Fr h₀ L s.heap m) (hIL : I ≠ L) (W : Wld w G h₀.get?) (mr : m "rows" = some (.ref RL)) (mk : m "kind" = some (.int k tk)) (mt : m "rest" = some (.int r tr))
    (X : RS h₀ L I RL oI V₀ V s.heap (S.1 :: S.2) D) (hz : S.2.length ≤ 9) (hz1 : S.1.length ≤ 900) (hz2 : ∀ p ∈ S.2, p.length ≤ 900) (hk : k = n.fmod 12) (hr : r = n.fdiv 12) (hno : ¬ (n.fmod 12 = 0 ∧ S.2.length < 9)) :
    wpG (model pw w) A (execs elseNew (env26 G L cd)) (fun f s' => f = .next ∧ After s h₀ L I RL oI V₀ (thStep S n) s') (fun _ _ => False) s := by
  have hD : D.length = S.2.length + 1 := by rw [X.rows.len]; rfl
  have leaf : ∀ h3 tk3, (∀ b o, s.heap.get? b = some o → h3.get? b = some o) → ¬ ((k = 1 ∨ k = 2) ∧ 0 < S.2.length) →
      wpG (model pw w) A (execs chain3 (env26 G L cd)) (fun f s' => f = .next ∧ After s h₀ L I RL oI V₀ (thStep S n) s') (fun _ _ => False) { s with heap := h3, toks := tk3 } := fun h3 tk3 hk3 hn2 => by
    obtain ⟨d, D1, rfl⟩ : ∃ d D1, D = d :: D1 := by
      cases D with
      | nil => simp at hD
      | cons d D1 => exact ⟨d, D1, rfl⟩
    rw [hk] at hn2
    rw [thStep_leaf hno hn2, ← hk, ← hr]
    exact wpG_mono (leaves_ok (s := { s with heap := h3, toks := tk3 }) hg hh hd hu (F.after hk3) W mr mk mt (X.keep0 hk3) hz1) (fun f s' h => ⟨h.1, After.of rfl h.2⟩) fun _ _ q => q
  refine g_single (g_If (isTrue_and (wpAny_isTrue_Compare1 (ld F mk (wpAny_Tuple (k := 0) (spliced_cons (wpAny_Constant_int (k := 0) (pos := default) (spliced_cons (wpAny_Constant_int (k := 0) (pos := default) (spliced_nil ?_))))))) (by rfl))))
  refine ⟨by size_fits, ?_⟩
  refine in_tuple_ints (ns := [1, 2]) ⟨_, Heap.get?_push_size _ rfl, rfl, 0, rfl⟩ (.cons _ _ (.cons _ _ .nil)) (wpAny_truthy_bool ?_)
  have k3 : ∀ b o, s.heap.get? b = some o → (s.heap.push { cls := .type "tuple", data := .seq [Value.int 1 s.toks, .int 2 (s.toks + 1)].toArray }).get? b = some o := fun b o e => Heap.get?_push_of_some _ e
  by_cases c : k = 1 ∨ k = 2
  · have e : ([(1 : Int), 2].any (· == k)) = true := by rcases c with rfl | rfl <;> rfl
    rw [e, if_pos rfl]
    have F3 := F.after k3
    have X3 := X.keep0 k3
    refine isTrue_and (wpAny_isTrue_Compare1 (wpAny_mono (e_len hh hd hu F3 (W.keeps F3.keep) mr X3 (by (clear c e hIL hd hg hh hk hno hr hu hz1 mk mr mt; omega))) (fun v s4 h4 => ?_) fun _ _ q => q) (by rfl))
    obtain ⟨⟨h4, tk4, rfl, k4⟩, t', rfl⟩ := h4
    have k34 : ∀ b o, s.heap.get? b = some o → h4.get? b = some o := fun b o e => k4 b o (k3 b o e)
    refine wpAny_Constant_int (gt_int (wpAny_truthy_bool ?_))
    by_cases c2 : 0 < S.2.length
    · have e2 : decide ((1 : Int) < (D.length : Int)) = true := decide_eq_true (by (clear c e hIL hd hg hh hk hno hr hu hz1 mk mr mt; omega))
      rw [e2, if_pos rfl]
      refine isTrue_and_nil ?_
      rw [if_pos rfl]
      obtain ⟨top, bs⟩ := S
      cases bs with
      | nil => simp at c2
      | cons p bs =>
        have e3 : thStep (top, p :: bs) n = (p ++ [if k = 1 then .lst top else .tup top], bs) := by
          unfold thStep
          rw [if_neg hno]
          dsimp only
          rw [← hk, if_pos c]
        rw [e3]
        exact wpG_mono (pop_ok (s := { s with heap := h4, toks := tk4 + 1 }) (S := (top, p :: bs)) hh (F.after k34) hIL W mr mk (X.keep0 k34) (by (clear c e e2 hIL hd hg hh hk hno hr hu hz1 mk mr mt; omega)) hz1 (hz2 p (.head _))) (fun f s' h => ⟨h.1, After.of rfl h.2⟩) fun _ _ q => q
    · have e2 : decide ((1 : Int) < (D.length : Int)) = false := decide_eq_false (by (clear c e hIL hd hg hh hk hno hr hu hz1 mk mr mt; omega))
      rw [e2, if_neg (by simp)]
      rw [if_neg (by simp)]
      exact leaf h4 _ k34 fun q => c2 q.2
  · have e : ([(1 : Int), 2].any (· == k)) = false := by
      simp only [List.any_cons, List.any_nil, Bool.or_false, Bool.or_eq_false_iff, beq_eq_false_iff_ne, ne_eq]
      exact ⟨fun q => c (.inl q.symm), fun q => c (.inr q.symm)⟩
    rw [e, if_neg (by simp)]
    rw [if_neg (by simp)]
    exact leaf _ _ k3 fun q => c q.1
theorem body_ok (hg : A.guards = some []) (hh : A.handled = none) (hd : A.depth ≤ 800) (hu : A.units ≤ 8000) (F : Fr h₀ L s.heap m) (hIL : I ≠ L) (W : Wld w G h₀.get?) (mr : m "rows" = some (.ref RL)) (mn : m "number" = some (.int n tn))
    (X : RS h₀ L I RL oI V₀ V s.heap (S.1 :: S.2) D) (hz : S.2.length ≤ 9) (hz1 : S.1.length ≤ 900) (hz2 : ∀ p ∈ S.2, p.length ≤ 900) :
    wpG (model pw w) A (execs loop26 (env26 G L cd)) (fun f s' => f = .next ∧ After s h₀ L I RL oI V₀ (thStep S n) s') (fun _ _ => False) s := by
  have hD : D.length = S.2.length + 1 := by rw [X.rows.len]; rfl
  refine g_execs_cons (wpG_of (wpAny_Assign_Name (wpAny_BinOp (ld F mn (wpAny_Constant_int (mod_int (by decide) ?_)))) (by rfl)))
  refine stK (F : Fr h₀ L s.heap m) News.nil (fun h1 F1 _ k1 => ?_) (by rfl) (by rfl)
  dsimp only at k1 ⊢
  refine g_execs_cons (wpG_of (wpAny_Assign_Name (wpAny_BinOp (ld F1 (show set1 m "kind" _ "number" = some (.int n tn) from (if_neg (by decide)).trans mn) (wpAny_Constant_int (floordiv_int (by decide) ?_)))) (by rfl)))
  refine stK F1 News.nil (fun h2 F2 _ k2 => ?_) (by rfl) (by rfl)
  dsimp only at k2 ⊢
  have X1 : RS h₀ L I RL oI V₀ V h1 (S.1 :: S.2) D := X.own (fun b o hL _ e => k1 b o hL e) (by obtain ⟨o, _, _, e, _⟩ := F1.ns; exact ⟨o, e⟩) (k1 _ _ hIL X.iI) F1.keep
  have X2 : RS h₀ L I RL oI V₀ V h2 (S.1 :: S.2) D := X1.own (fun b o hL _ e => k2 b o hL e) (by obtain ⟨o, _, _, e, _⟩ := F2.ns; exact ⟨o, e⟩) (k2 _ _ hIL X1.iI) F2.keep
  replace F2 : Fr h₀ L h2 (set1 (set1 m "kind" (.int (n.fmod 12) (s.toks + 1))) "rest" (.int (n.fdiv 12) (s.toks + 1 + 1 + 1 + 1))) := F2
  generalize hm2 : set1 (set1 m "kind" (.int (n.fmod 12) (s.toks + 1))) "rest" (.int (n.fdiv 12) (s.toks + 1 + 1 + 1 + 1)) = m2 at F2
  have mr2 : m2 "rows" = some (.ref RL) := by rw [← hm2]; exact (if_neg (by decide)).trans ((if_neg (by decide)).trans mr)
  have mk2 : m2 "kind" = some (.int (n.fmod 12) (s.toks + 1)) := by rw [← hm2]; exact (if_neg (by decide)).trans (if_pos rfl)
  have mt2 : m2 "rest" = some (.int (n.fdiv 12) (s.toks + 1 + 1 + 1 + 1)) := by rw [← hm2]; exact if_pos rfl
  have other : ∀ h3 tk3, (∀ b o, h2.get? b = some o → h3.get? b = some o) → ¬ (n.fmod 12 = 0 ∧ S.2.length < 9) →
      wpG (model pw w) A (execs elseNew (env26 G L cd)) (fun f s' => f = .next ∧ After s h₀ L I RL oI V₀ (thStep S n) s') (fun _ _ => False) { s with heap := h3, toks := tk3 } := fun h3 tk3 hk3 hno =>
    wpG_mono (else_ok (s := { s with heap := h3, toks := tk3 }) hg hh hd hu (F2.after hk3) hIL W mr2 mk2 mt2 (X2.keep0 hk3) hz hz1 hz2 rfl rfl hno) (fun f s' h => ⟨h.1, After.of rfl h.2⟩) fun _ _ q => q
  refine g_single (g_If (isTrue_and (wpAny_isTrue_Compare1 (ld F2 mk2 (wpAny_Constant_int (eq_int (wpAny_truthy_bool ?_)))) (by rfl))))
  by_cases c : n.fmod 12 = 0
  · rw [show (n.fmod 12 == 0) = true from by simpa using c, if_pos rfl]
    refine isTrue_and (wpAny_isTrue_Compare1 (wpAny_mono (e_len hh hd hu F2 (W.keeps F2.keep) mr2 X2 (by (clear c hIL hd hg hh hm2 hu hz1 mk2 mn mr mr2 mt2; omega))) (fun v s4 h4 => ?_) fun _ _ q => q) (by rfl))
    obtain ⟨⟨h4, tk4, rfl, k4⟩, t', rfl⟩ := h4
    dsimp only at k4
    refine wpAny_Constant_int (lt_int (wpAny_truthy_bool ?_))
    by_cases c2 : S.2.length < 9
    · have e2 : decide ((D.length : Int) < 10) = true := decide_eq_true (by (clear c hIL hd hg hh hm2 hu hz1 mk2 mn mr mr2 mt2; omega))
      rw [e2, if_pos rfl]
      refine isTrue_and_nil ?_
      rw [if_pos rfl]
      have e3 : thStep S n = ([], S.1 :: S.2) := by
        unfold thStep
        rw [if_pos ⟨c, c2⟩]
      rw [e3]
      exact wpG_mono (new_ok (s := { s with heap := h4, toks := tk4 + 1 }) (F2.after k4) mr2 (X2.keep0 k4) (by (clear c e2 hIL hd hg hh hm2 hu hz1 mk2 mn mr mr2 mt2; omega))) (fun f s' h => ⟨h.1, After.of rfl h.2⟩) fun _ _ q => q
    · have e2 : decide ((D.length : Int) < 10) = false := decide_eq_false (by (clear c hIL hd hg hh hm2 hu hz1 mk2 mn mr mr2 mt2; omega))
      rw [e2, if_neg (by simp)]
      rw [if_neg (by simp)]
      exact other h4 _ k4 fun q => c2 q.2
  · rw [show (n.fmod 12 == 0) = false from by simpa using c, if_neg (by simp)]
    rw [if_neg (by simp)]
    exact other _ _ (fun _ _ e => e) fun q => c q.1
end
end Mine
end Th10_part
section Th11_part
open PySem PySem.W PySem.Calls PyProof.Rows
set_option Elab.async false
set_option maxRecDepth 100000
set_option maxHeartbeats 4000000
namespace Mine
section
variable {prog : Program} {w : World} {A : Around} {E : Value → Shared → Prop} {s : Shared} {env : Env}
theorem g_whileLoop {R : Result → Shared → Prop} {test body} (I : Nat → Shared → Prop)
    (turn : ∀ n s, I n s → wpAny (model prog w) A (isTrue test env (eval test env)) (fun b s₂ =>
        if b then wpG (model prog w) A (execs body env) (fun f s₃ => f = .next ∧ ∃ m, m < n ∧ I m s₃) (fun _ _ => False) s₂ else R (.ok .next) s₂) (fun _ _ => False) s)
    (n : Nat) (h : I n s) : codeG (model prog w) A (.whileLoop test body [] env) R s := by
  refine codeG_loop rfl rfl I (fun n s hI => ?_) n h
  show wpG _ A ((whileTurn test body [] env).onRaise (fun x => do noteFrame x env; theTreesLotGoes x)) _ _ s
  refine g_noted ?_
  simp only [whileTurn]
  refine wpG_bind (wpG_mono (wpG_of (turn n s hI)) (fun b s₂ h₂ => ?_) fun _ _ h' => h'.elim)
  cases b with
  | false =>
    simp only [Bool.false_eq_true, if_false] at h₂ ⊢
    exact wpG_bind (wpG_of (wpAny_execs_nil (wpG_pure h₂)))
  | true =>
    simp only [if_true] at h₂ ⊢
    refine wpG_bind (wpG_mono h₂ (fun f s₃ h₃ => ?_) fun _ _ h' => h'.elim)
    obtain ⟨rfl, h₃⟩ := h₃
    exact wpG_pure (.inl ⟨rfl, h₃⟩)
theorem g_While {test body pos} {Q : Flow → Shared → Prop}
    (h : codeG (model prog w) A (.whileLoop test body [] env) (fun r s' => match r with | .ok f => Q f s' | .error e => cameBackBy (model prog w) A env E e s') s) : wpG (model prog w) A (exec (.While test body [] pos) env) Q E s := by
  rw [exec_While]; exact wpG_bind (wpG_standAt (g_runOwn h))
end
theorem T.nodes_pos : ∀ t : T, 1 ≤ t.nodes
  | .byt _ => by simp [T.nodes]
  | .ba _ => by simp [T.nodes]
  | .lst _ => by simp [T.nodes]
  | .tup _ => by simp [T.nodes]
  | .non => by simp [T.nodes]
  | .boo _ => by simp [T.nodes]
  | .num _ => by simp [T.nodes]
theorem T.len_nodess : ∀ xs : List T, xs.length ≤ T.nodess xs
  | [] => by simp
  | x :: xs => by
    have := T.nodes_pos x
    have := T.len_nodess xs
    simp only [List.length_cons, T.nodess]
    omega
theorem Rws.mem_le {S : Rws} {p : List T} (h : p ∈ S.2) : T.nodess p + 1 ≤ (S.2.map fun r => T.nodess r + 1).sum := by
  obtain ⟨top, bs⟩ := S
  dsimp only at h ⊢
  induction bs with
  | nil => cases h
  | cons b bs ih =>
    rw [List.map_cons, List.sum_cons]
    rcases List.mem_cons.mp h with rfl | h
    · omega
    · have := ih h; omega
theorem Rws.small {S : Rws} (h : S.nodes ≤ 800) : S.1.length ≤ 900 ∧ ∀ p ∈ S.2, p.length ≤ 900 := by
  unfold Rws.nodes at h
  refine ⟨by have := T.len_nodess S.1; omega, fun p hp => ?_⟩
  have := T.len_nodess p
  have := Rws.mem_le hp
  omega
noncomputable def popW : List Stmt := match (fd 26).body with
  | [_, _, .While _ b _ _, _] => b
  | _ => []
section
variable {w : World} {A : Around} {s : Shared} {G : Glo} {h₀ : Heap} {oI : Obj} {L I RL : Addr} {cd : Value} {m : Str → Option Value} {V₀ V : View} {D : List Addr} {S : Rws} {d : Addr}
theorem RowsOn.sub {h : Heap} {Y Z : List Addr} (hs : ∀ x ∈ Z, x ∈ Y) : ∀ {R : List (List T)} {D : List Addr}, RowsOn h₀ Y V h R D → RowsOn h₀ Z V h R D
  | [], [], _ => by unfold RowsOn; trivial
  | [], _ :: _, x => by unfold RowsOn at x; exact x.elim
  | _ :: _, [], x => by unfold RowsOn at x; exact x.elim
  | ts :: R, d :: D, x => by
    unfold RowsOn at x ⊢
    obtain ⟨x1, x3, x4, x5, x6, x7⟩ := x
    exact ⟨x1, x3, x4, fun q => x5 (hs _ q), x6, x7.sub hs⟩
/-- the loop is over: its iterator does not matter any more -/
theorem RS.over {h h' : Heap} {R : List (List T)} {oL : Obj} (X : RS h₀ L I RL oI V₀ V h R D) (hIL : I ≠ L) (h0 : h₀.get? I = none) (hk : ∀ b o, b ≠ I → h.get? b = some o → h'.get? b = some o) (hL : h'.get? L = some oL) : RS h₀ L L RL oL V₀ V h' R D := by
  obtain ⟨ep, hrl⟩ := X.rl
  refine ⟨⟨ep, hk _ _ X.ne2 hrl⟩, ?_, X.ne1, X.ne1, X.rl0, X.vRL, X.vL, X.vL, ⟨_, hL⟩, hL, fun b o e => hk b o (fun q => by rw [q, h0] at e; cases e) (X.base b o e), X.le, fun b o e => hk b o (fun q => by rw [q, X.vI] at e; cases e) (X.at' b o e), X.new⟩
  refine RowsOn.sub (Y := [L, I, RL]) (fun x hx => ?_) (X.rows.move (VLe.refl V) fun b hb => ⟨fun o e => hk b o (fun q => ?_) e, fun e => e⟩)
  · simp only [List.mem_cons] at hx ⊢
    rcases hx with rfl | rfl | rfl | hx
    · exact .inl rfl
    · exact .inl rfl
    · exact .inr (.inr (.inl rfl))
    · cases hx
  · have := (X.rows.mem b hb).2.2.2
    simp only [List.mem_cons, not_or] at this
    exact this.2.1 q
theorem popW_ok {p : List T} {bs : List (List T)} (hh : A.handled = none) (F : Fr h₀ L s.heap m) (mr : m "rows" = some (.ref RL))
    (X : RS h₀ L L RL oI V₀ V s.heap (S.1 :: p :: bs) D) (hz : D.length ≤ 100) (hz1 : S.1.length ≤ 900) (hz2 : p.length ≤ 900) :
    wpG (model pw w) A (execs popW (env26 G L cd)) (fun f s' => f = .next ∧ ∃ oJ, After s h₀ L L RL oJ V₀ (p ++ [.lst S.1], bs) s') (fun _ _ => False) s := by
  obtain ⟨ep, hrl⟩ := X.rl
  obtain ⟨d, D1, rfl⟩ : ∃ d D1, D = d :: D1 := by
    cases D with
    | nil => have := X.rows; unfold RowsOn at this; exact this.elim
    | cons d D1 => exact ⟨d, D1, rfl⟩
  obtain ⟨d2, D2, rfl⟩ : ∃ d2 D2, D1 = d2 :: D2 := by
    cases D1 with
    | nil => have := X.rows; unfold RowsOn at this; have := this.2.2.2.2.2; unfold RowsOn at this; exact this.elim
    | cons d D1 => exact ⟨d, D1, rfl⟩
  have hline : (1000 : Nat) ≤ sizeLine := by decide
  refine g_execs_cons (wpG_of (wpAny_Assign_Name (Call_method0 (by rfl) (by rfl) (ld F mr ?_)) (by rfl)))
  refine ⟨"list", "list.pop", PySem.F.plainAttrs_list, PySem.F.slot_list_pop, PySem.F.type_list_pop, ⟨_, hrl, rfl⟩, (fun a ea => by cases ea; exact ⟨_, hrl, rfl⟩), ?_⟩
  refine P.pop_list (items := refs (d :: d2 :: D2)) (n := ep) hrl (y := .ref d) (by rw [refs_size]; exact refs_last d (d2 :: D2)) ?_ (by rw [refs_size]; (clear hh hrl hz1 hz2 mr; omega))
  have hup := IsL.update (h := s.heap) (l := RL) (items := refs (d :: d2 :: D2)) (n := ep) hrl (fun xs => xs.eraseIdxIfInBounds ((refs (d :: d2 :: D2)).size - 1))
  rw [refs_pop] at hup
  have hsb : Heap.SameBut RL s.heap (s.heap.update RL (Obj.mapSeq fun xs => xs.eraseIdxIfInBounds ((refs (d :: d2 :: D2)).size - 1))) := Heap.SameBut.update ..
  generalize (s.heap.update RL (Obj.mapSeq fun xs => xs.eraseIdxIfInBounds ((refs (d :: d2 :: D2)).size - 1))) = h1 at hup hsb ⊢
  obtain ⟨V', vs, epd, X1, hVV, hVd, hd, hHas⟩ := X.pop hsb hup
  have F1 : Fr h₀ L h1 m := Fr.change F X.rl0 X.ne1 hsb
  refine stK F1 News.nil (fun h2 F2 _ k2 => ?_) (by rfl) (by rfl)
  dsimp only at k2 ⊢
  obtain ⟨oL, _, _, hoL, _⟩ := id F2.ns
  have X2 : RS h₀ L L RL oL V₀ V' h2 (p :: bs) (d2 :: D2) := X1.own (fun b o hL _ e => k2 b o hL e) ⟨_, hoL⟩ hoL F2.keep
  have hvs : vs.size = S.1.length := by rw [← Array.length_toList, hHas.length]
  refine g_single (wpG_mono (row_append (t := .lst S.1) F2 rfl (by rfl) (show set1 m "part" (.ref d) "rows" = some (.ref RL) from (if_neg (by decide)).trans mr) X2 hz2 (by rfl) (by rfl) (by rfl) (by rfl) (by rfl) fun tk' => ?_) (fun f s' h => ?_) fun _ _ q => q)
  · refine wpG_of (ld F2 (show set1 m "part" (.ref d) "part" = some (.ref d) from if_pos rfl) ?_)
    refine ⟨⟨h2, _, rfl, fun _ _ e => e⟩, V', Ext.refl X2.at', ?_⟩
    unfold Has
    exact ⟨d, vs, epd, rfl, hVd, by (clear hVd hd hh hline hoL hrl hz hz2 mr; omega), hHas⟩
  · obtain ⟨rfl, h', tk', V'', rfl, F3, X3⟩ := h
    exact ⟨rfl, oL, h', tk', _, V'', _, rfl, F3, (if_neg (by decide)).trans mr, X3⟩
end
end Mine
end Th11_part
section Th12_part
open PySem PySem.W PySem.Calls PyProof.Rows
set_option Elab.async false
set_option maxRecDepth 100000
set_option maxHeartbeats 4000000
namespace Mine
theorem thRun_take {ns : List Int} {i : Nat} {n : Int} (h : ns[i]? = some n) : thRun (ns.take (i + 1)) = thStep (thRun (ns.take i)) n := by
  unfold thRun
  rw [List.take_add_one, h, List.foldl_append]
  rfl
theorem thRun_small (ns : List Int) (i : Nat) (h : ns.length ≤ 16) : (thRun (ns.take i)).nodes ≤ 33 ∧ (thRun (ns.take i)).2.length ≤ 9 := by
  have h0 : Rws.fit ([], []) := ⟨by unfold T.fits; trivial, fun r hr => nomatch hr⟩
  have h1 := (thRun_ok (ns.take i) ([], []) h0).1
  have e0 : Rws.nodes ([], []) = 1 := by simp [Rws.nodes, T.nodess]
  have hl : (ns.take i).length ≤ 16 := by rw [List.length_take]; (clear e0 h1; omega)
  refine ⟨?_, thRun_len _ _ (by simp)⟩
  unfold thRun
  (clear h; omega)
noncomputable def ThA (s : Shared) (ns : List Int) (N I RL : Addr) (ivs : Array Value) (V : View) (k : Nat) (s' : Shared) : Prop :=
  ∃ i h' tk m' V' D oI, s' = { s with heap := h', toks := tk } ∧ i ≤ ns.length ∧ k = ns.length + 1 - i ∧ (h'.IsListIter I N i ∧ h'.IsList N ivs) ∧ Fr s.heap s.heap.objs.size h' m' ∧ m' "rows" = some (.ref RL) ∧ RS s.heap s.heap.objs.size I RL oI V V' h' ((thRun (ns.take i)).1 :: (thRun (ns.take i)).2) D
theorem ThA.mk {s : Shared} {ns : List Int} {N I RL : Addr} {ivs : Array Value} {V : View} {k i : Nat} {h' : Heap} {tk : Nat} {m' : Str → Option Value} {V' : View} {D : List Addr} {oI : Obj} (hi : i ≤ ns.length) (hk : k = ns.length + 1 - i) (hl : h'.IsListIter I N i ∧ h'.IsList N ivs)
    (F : Fr s.heap s.heap.objs.size h' m') (mr : m' "rows" = some (.ref RL)) (X : RS s.heap s.heap.objs.size I RL oI V V' h' ((thRun (ns.take i)).1 :: (thRun (ns.take i)).2) D) : ThA s ns N I RL ivs V k { s with heap := h', toks := tk } :=
  ⟨i, h', tk, m', V', D, oI, rfl, hi, hk, hl, F, mr, X⟩
@[elab_as_elim] theorem ThA.elim {s : Shared} {ns : List Int} {N I RL : Addr} {ivs : Array Value} {V : View} {C : Nat → Shared → Prop} {k : Nat} {s' : Shared} (h : ThA s ns N I RL ivs V k s')
    (H : ∀ (i : Nat) (h' : Heap) (tk : Nat) (m' : Str → Option Value) (V' : View) (D : List Addr) (oI : Obj), i ≤ ns.length → (h'.IsListIter I N i ∧ h'.IsList N ivs) → Fr s.heap s.heap.objs.size h' m' → m' "rows" = some (.ref RL) →
      RS s.heap s.heap.objs.size I RL oI V V' h' ((thRun (ns.take i)).1 :: (thRun (ns.take i)).2) D → C (ns.length + 1 - i) { s with heap := h', toks := tk }) : C k s' := by
  obtain ⟨i, h', tk, m', V', D, oI, rfl, hi, rfl, hl, F, mr, X⟩ := h
  exact H i h' tk m' V' D oI hi hl F mr X
noncomputable def ThB (s : Shared) (ns : List Int) (RL : Addr) (V : View) (k : Nat) (s' : Shared) : Prop :=
  ∃ h' tk m' V' D oL top bs, s' = { s with heap := h', toks := tk } ∧ k = bs.length ∧ Fr s.heap s.heap.objs.size h' m' ∧ m' "rows" = some (.ref RL) ∧ RS s.heap s.heap.objs.size s.heap.objs.size RL oL V V' h' (top :: bs) D ∧ Rws.nodes (top, bs) ≤ 33 ∧ bs.length ≤ 9 ∧ thFin top bs = thing ns
theorem ThB.mk {s : Shared} {ns : List Int} {RL : Addr} {V : View} {k : Nat} {h' : Heap} {tk : Nat} {m' : Str → Option Value} {V' : View} {D : List Addr} {oL : Obj} {top : List T} {bs : List (List T)} (hk : k = bs.length) (F : Fr s.heap s.heap.objs.size h' m') (mr : m' "rows" = some (.ref RL))
    (X : RS s.heap s.heap.objs.size s.heap.objs.size RL oL V V' h' (top :: bs) D) (h1 : Rws.nodes (top, bs) ≤ 33) (h2 : bs.length ≤ 9) (h3 : thFin top bs = thing ns) : ThB s ns RL V k { s with heap := h', toks := tk } :=
  ⟨h', tk, m', V', D, oL, top, bs, rfl, hk, F, mr, X, h1, h2, h3⟩
@[elab_as_elim] theorem ThB.elim {s : Shared} {ns : List Int} {RL : Addr} {V : View} {C : Nat → Shared → Prop} {k : Nat} {s' : Shared} (h : ThB s ns RL V k s')
    (H : ∀ (h' : Heap) (tk : Nat) (m' : Str → Option Value) (V' : View) (D : List Addr) (oL : Obj) (top : List T) (bs : List (List T)), Fr s.heap s.heap.objs.size h' m' → m' "rows" = some (.ref RL) →
      RS s.heap s.heap.objs.size s.heap.objs.size RL oL V V' h' (top :: bs) D → Rws.nodes (top, bs) ≤ 33 → bs.length ≤ 9 → thFin top bs = thing ns → C bs.length { s with heap := h', toks := tk }) : C k s' := by
  obtain ⟨h', tk, m', V', D, oL, top, bs, rfl, rfl, F, mr, X, h1, h2, h3⟩ := h
  exact H h' tk m' V' D oL top bs F mr X h1 h2 h3
section
variable {w : World} {A : Around} {s : Shared} {G : Glo}
theorem thing_ok' (hg : A.guards = some []) (hh : A.handled = none) (hd : A.depth ≤ 700) (hu : A.units ≤ 7000) (W : Wld w G s.heap.get?) {N : Addr} {ivs : Array Value} {epN : Nat} {ns : List Int} (hN : s.heap.get? N = some (listO ivs epN)) (hi : IntsAre ivs.toList ns) (hlen : ns.length ≤ 16)
    {V : View} (hV : VLe V s.heap.get?) :
    wpG (model pw w) A (call (.ref G.a26) [.ref N]) (fun r s' => Keeps s s' ∧ ∃ V', Ext V s.heap V' s'.heap ∧ Has V' (thing ns) r) (fun _ _ => False) s := by
  refine g_call_fn (k := 26) (binds := [("numbers", .ref N)]) (by (clear hN hg hh hlen hu; omega)) W (Glo.m26 _) (by kernel_rfl) (fun pm cd doc => by kernel_rfl) (by kernel_rfl) fun h₁ cd F => ?_
  refine gQ fun Q0 q0 => ?_
  generalize hA : A.deeper (envOf (fd 26).name (fd 26).scope s.heap.objs.size G.a26 cd) = B
  have Bg : B.guards = some [] := by rw [← hA]; exact hg
  have Bh : B.handled = none := by rw [← hA]; exact hh
  have Bd : B.depth ≤ 800 := by rw [← hA]; show A.depth + 1 ≤ 800; (clear Bg Bh hN hg hh hlen hu; omega)
  have Bu : B.units ≤ 8000 := by rw [← hA]; show A.units + 3 ≤ 8000; (clear Bd Bg Bh hN hd hg hh hlen; omega)
  clear hA
  have hline : (1000 : Nat) ≤ sizeLine := by decide
  have hl : ivs.size = ns.length := by rw [← Array.length_toList, hi.length]
  have hLn : s.heap.get? s.heap.objs.size = none := Heap.get?_none_of_le (by simp)
  -- rows = [[]]
  refine g_execs_cons (wpG_of (wpAny_Assign_Name (wpAny_List (spliced_cons (wpAny_List (spliced_nil ?_)))) (by rfl)))
  refine ⟨by size_fits, spliced_nil ⟨by size_fits, ?_⟩⟩
  have hn0 : h₁.get? h₁.objs.size = none := Heap.get?_none_of_le (by simp)
  have up1 : ∀ b o, h₁.get? b = some o → (h₁.push (listO #[] 0)).get? b = some o := fun b o e => Heap.get?_push_of_some _ e
  have hn1 : (h₁.push (listO #[] 0)).get? (h₁.push (listO #[] 0)).objs.size = none := Heap.get?_none_of_le (by simp)
  have hd0 : (h₁.push (listO #[] 0)).get? h₁.objs.size = some (listO #[] 0) := Heap.get?_push_size _ rfl
  have up2 : ∀ b o, (h₁.push (listO #[] 0)).get? b = some o → ((h₁.push (listO #[] 0)).push (listO #[.ref h₁.objs.size] 0)).get? b = some o := fun b o e => Heap.get?_push_of_some _ e
  have hRL : ((h₁.push (listO #[] 0)).push (listO #[.ref h₁.objs.size] 0)).get? (h₁.push (listO #[] 0)).objs.size = some (listO #[.ref h₁.objs.size] 0) := Heap.get?_push_size _ rfl
  have hd0' := up2 _ _ hd0
  have fr0 : s.heap.get? h₁.objs.size = none := none_of_le F.keep hn0
  have fr1 : s.heap.get? (h₁.push (listO #[] 0)).objs.size = none := none_of_le (fun b o e => up1 b o (F.keep b o e)) hn1
  have F2 : Fr s.heap s.heap.objs.size ((h₁.push (listO #[] 0)).push (listO #[.ref h₁.objs.size] 0)) _ := (F.push _).push _
  have d0L : h₁.objs.size ≠ s.heap.objs.size := fun q => by obtain ⟨o, _, _, e, _⟩ := F.ns; rw [← q, hn0] at e; cases e
  have RLL : (h₁.push (listO #[] 0)).objs.size ≠ s.heap.objs.size := fun q => by obtain ⟨o, _, _, e, _⟩ := (F.push (listO #[] 0)).ns; rw [← q, hn1] at e; cases e
  have dRL : h₁.objs.size ≠ (h₁.push (listO #[] 0)).objs.size := fun q => by rw [← q, hd0] at hn1; cases hn1
  generalize hRLe : (h₁.push (listO #[] 0)).objs.size = RL at hRL fr1 RLL dRL ⊢
  generalize hHe : ((h₁.push (listO #[] 0)).push (listO #[.ref h₁.objs.size] 0)) = h2 at hRL F2 hd0' ⊢
  generalize hde : h₁.objs.size = d0 at *
  clear hHe hRLe up1 up2 hn0 hn1 hd0
  refine stK F2 News.nil (fun h3 F3 _ k3 => ?_) (by rfl) (by rfl)
  dsimp only at k3 ⊢
  have hNL : N ≠ s.heap.objs.size := fun q => by rw [q, hLn] at hN; cases hN
  have hN3 : h3.get? N = some (listO ivs epN) := F3.keep _ _ hN
  refine g_execs_cons (g_For (ld F3 (show set1 _ "rows" (.ref RL) "numbers" = some (.ref N) from (if_neg (by decide)).trans rfl) (wpAny_pyIter_list ⟨_, hN3, rfl, epN, rfl⟩ ?_)) (by intro _; rfl))
  have hIn : h3.get? h3.objs.size = none := Heap.get?_none_of_le (by simp)
  have hIt : (h3.push { cls := .type "list_iterator", data := .fields #[.ref N, .int 0 0] }).get? h3.objs.size = some { cls := .type "list_iterator", data := .fields #[.ref N, .int 0 0] } := Heap.get?_push_size _ rfl
  have up4 : ∀ b o, h3.get? b = some o → (h3.push { cls := .type "list_iterator", data := .fields #[.ref N, .int 0 0] }).get? b = some o := fun b o e => Heap.get?_push_of_some _ e
  have F4 : Fr s.heap s.heap.objs.size (h3.push { cls := .type "list_iterator", data := .fields #[.ref N, .int 0 0] }) _ := F3.after up4
  have neI : ∀ {b : Addr} {o : Obj}, h3.get? b = some o → b ≠ h3.objs.size := fun e q => by rw [q, hIn] at e; cases e
  have hIL : h3.objs.size ≠ s.heap.objs.size := by obtain ⟨o, _, _, e, _⟩ := F3.ns; exact Ne.symm (neI e)
  have hI0 : s.heap.get? h3.objs.size = none := none_of_le F3.keep hIn
  have vn : ∀ {b : Addr}, s.heap.get? b = none → V b = none := fun {b} e => by
    cases q : V b with
    | none => rfl
    | some o => have := hV _ _ q; rw [e] at this; cases this
  have hRL3 := k3 _ _ RLL hRL
  have hd3 := k3 _ _ d0L hd0'
  have X4 : RS s.heap s.heap.objs.size h3.objs.size RL { cls := .type "list_iterator", data := .fields #[.ref N, .int 0 0] } V V (h3.push { cls := .type "list_iterator", data := .fields #[.ref N, .int 0 0] }) [[]] [d0] := by
    refine ⟨⟨0, up4 _ _ hRL3⟩, ?_, RLL, neI hRL3, fr1, vn fr1, vn hLn, vn hI0, by obtain ⟨o, _, _, e, _⟩ := F4.ns; exact ⟨o, e⟩, hIt, F4.keep, VLe.refl V, fun b o e => F4.keep b o (hV b o e), fun b o e => .inl e⟩
    unfold RowsOn
    refine ⟨⟨#[], 0, up4 _ _ hd3, by unfold HasAll; trivial⟩, vn fr0, fr0, ?_, (fun q => nomatch q), by unfold RowsOn; trivial⟩
    simp only [List.mem_cons, not_or]
    exact ⟨d0L, neI hd3, dRL, fun q => nomatch q⟩
  have hli : (h3.push { cls := .type "list_iterator", data := .fields #[.ref N, .int 0 0] }).IsListIter h3.objs.size N 0 := ⟨_, hIt, rfl, rfl⟩
  have hNI : N ≠ h3.objs.size := neI hN3
  have mr4 : (set1 (fun x => List.lookup x [(("numbers" : Str), Value.ref N)].reverse) "rows" (.ref RL)) "rows" = some (.ref RL) := if_pos rfl
  generalize h3.push { cls := .type "list_iterator", data := .fields #[.ref N, .int 0 0] } = h4 at *
  generalize h3.objs.size = I at *
  have Wk := Walks.list (prog := pw) (w := w) (A := B) Bh I N hNI ivs
  refine g_forLoop (ThA s ns N I RL ivs V) ?_ (ns.length + 1) (ThA.mk (i := 0) (Nat.zero_le _) rfl ⟨hli, _, F4.keep _ _ hN, rfl, epN, rfl⟩ F4 mr4 X4)
  intro k s' hI
  refine hI.elim fun i h' tk m' V' D oI hi' hst F' mr' X' => ?_
  by_cases hlt : i < ns.length
  · refine Wk.item i _ _ _ (by (clear Bd Bg Bh Bu RLL d0L dRL fr0 fr1 hI0 hIL hIn hIt hLn hN hN3 hNI hNL hRL hRL3 hd hd0' hd3 hde hg hh hi' hlen hline hu mr' mr4; omega)) hst fun v h5 tk5 hP hst5 hk5 => ?_
    dsimp only at hk5 ⊢
    obtain ⟨n, tn, rfl, hn⟩ := IntsAre.at hi i v (by simpa using hP)
    have F5 : Fr s.heap s.heap.objs.size h5 m' := ⟨F'.ns.at' fun o e => hk5 _ o (fun q => hIL (List.mem_singleton.mp q).symm) e, fun b o e => hk5 b o (fun q => by rw [List.mem_singleton.mp q, hI0] at e; cases e) (F'.keep b o e), F'.above⟩
    obtain ⟨oI5, hoI5, _⟩ := id hst5.1
    have X5 : RS s.heap s.heap.objs.size I RL oI5 V V' h5 ((thRun (ns.take i)).1 :: (thRun (ns.take i)).2) D := X'.own (fun b o _ hI e => hk5 b o (fun q => hI (List.mem_singleton.mp q)) e) (by obtain ⟨o, _, _, e, _⟩ := F5.ns; exact ⟨o, e⟩) hoI5 F5.keep
    refine wpAny_assign_Name (stK F5 News.nil (fun h6 F6 _ k6 => ?_) (by rfl) (by rfl))
    dsimp only at k6 ⊢
    have X6 : RS s.heap s.heap.objs.size I RL oI5 V V' h6 ((thRun (ns.take i)).1 :: (thRun (ns.take i)).2) D := X5.own (fun b o hL _ e => k6 b o hL e) (by obtain ⟨o, _, _, e, _⟩ := F6.ns; exact ⟨o, e⟩) (k6 _ _ hIL hoI5) F6.keep
    have hsm := thRun_small ns i hlen
    have hs2 := Rws.small (S := thRun (ns.take i)) (by (clear Bd Bg Bh Bu RLL d0L dRL fr0 fr1 hI0 hIL hIn hIt hLn hN hN3 hNI hNL hP hRL hRL3 hd hd0' hd3 hde hg hh hi' hl hlen hline hlt hn hoI5 hu mr' mr4; omega))
    refine wpG_mono (body_ok (s := { s with heap := h6, toks := tk5 + 1 }) (n := n) (tn := tn) Bg Bh Bd Bu F6 hIL W ((if_neg (by decide)).trans mr') (if_pos rfl) X6 hsm.2 hs2.1 hs2.2) (fun f s7 h7 => ?_) fun _ _ q => q
    obtain ⟨rfl, h7, tk7, m7, V7, D7, rfl, F7, mr7, X7⟩ := h7
    refine ⟨rfl, ns.length + 1 - (i + 1), by (clear Bd Bg Bh Bu RLL d0L dRL fr0 fr1 hI0 hIL hIn hIt hLn hN hN3 hNI hNL hP hRL hRL3 hd hd0' hd3 hde hg hh hi' hlen hline hn hoI5 hs2 hsm hu mr' mr4 mr7; omega), ThA.mk (oI := oI5) (V' := V7) (D := D7) hlt rfl ⟨?_, _, F7.keep _ _ hN, rfl, epN, rfl⟩ F7 mr7 ?_⟩
    · obtain ⟨o8, ho8, r8⟩ := hst5.1
      rw [hoI5] at ho8
      cases ho8
      exact ⟨_, X7.iI, r8⟩
    · rw [thRun_take hn]
      exact X7
  · obtain rfl : i = ns.length := by (clear Bd Bg Bh Bu RLL d0L dRL fr0 fr1 hI0 hIL hIn hIt hLn hN hN3 hNI hNL hRL hRL3 hd hd0' hd3 hde hg hh hlen hline hu mr' mr4; omega)
    rw [List.take_length] at X'
    refine Wk.done _ _ _ (by rw [hl]; exact hst) fun h5 tk5 hk5 => ?_
    dsimp only at hk5 ⊢
    have F5 : Fr s.heap s.heap.objs.size h5 m' := ⟨F'.ns.at' fun o e => hk5 _ o (fun q => hIL (List.mem_singleton.mp q).symm) e, fun b o e => hk5 b o (fun q => by rw [List.mem_singleton.mp q, hI0] at e; cases e) (F'.keep b o e), F'.above⟩
    obtain ⟨oL, _, _, hoL, _⟩ := id F5.ns
    have X5 := X'.over hIL hI0 (fun b o hI e => hk5 b o (fun q => hI (List.mem_singleton.mp q)) e) hoL
    have hsm := thRun_small ns ns.length hlen
    rw [List.take_length] at hsm
    refine g_execs_cons (g_While ?_)
    refine g_whileLoop (ThB s ns RL V) ?_ (thRun ns).2.length (ThB.mk rfl F5 mr' X5 hsm.1 hsm.2 rfl)
    intro k s' hI
    refine hI.elim fun h6 tk6 m6 V6 D6 oL6 top bs F6 mr6 X6 hS1 hS2 hS3 => ?_
    have hD6 : D6.length = bs.length + 1 := by rw [X6.rows.len]; rfl
    refine wpAny_isTrue_Compare1 (wpAny_mono (e_len Bh Bd Bu F6 (W.keeps F6.keep) mr6 X6 (by (clear Bd Bg Bh Bu RLL d0L dRL fr0 fr1 hI0 hIL hIn hIt hLn hN hN3 hNI hNL hRL hRL3 hS1 hd hd0' hd3 hde hg hh hi' hl hlen hline hlt hoL hsm hu mr' mr4 mr6; omega))) (fun v s7 h7 => ?_) fun _ _ q => q) (by rfl)
    obtain ⟨⟨h7, tk7, rfl, k7⟩, t', rfl⟩ := h7
    dsimp only at k7
    refine wpAny_Constant_int (gt_int (wpAny_truthy_bool ?_))
    have F7 := F6.after k7
    have X7 := X6.keep0 k7
    cases bs with
    | nil =>
      have e2 : decide ((1 : Int) < (D6.length : Int)) = false := decide_eq_false (by rw [hD6]; simp)
      rw [e2, if_neg (by simp)]
      obtain ⟨d, rfl⟩ := list1 hD6
      obtain ⟨epR, hrl⟩ := X7.rl
      refine g_execs_cons (wpG_of (wpAny_Return_some (Subscript_ (ld F7 mr6 (wpAny_Constant_int ?_)))))
      refine item_listR (items := refs [d]) (x := .ref d) ⟨_, hrl, rfl, epR, rfl⟩ (by decide) (by decide) rfl ?_
      dsimp only
      have x := X7.rows
      unfold RowsOn at x
      obtain ⟨⟨vs, ep, x1, x2⟩, x3, x4, x5, x6, x7⟩ := x
      have hV' : VLe V6 (fun b => if b = d then some (listO vs ep) else V6 b) := fun b o e => by
        dsimp only
        rw [if_neg (fun q => by rw [q, x3] at e; cases e)]
        exact e
      refine q0 _ _ ⟨⟨h7, _, rfl, F7.keep⟩, fun b => if b = d then some (listO vs ep) else V6 b, ⟨X7.le.trans hV', fun b o e => ?_, fun b o e => ?_⟩, ?_⟩
      · split at e
        · rename_i q; subst q; cases e; exact x1
        · exact X7.at' b o e
      · split at e
        · rename_i q; subst q; exact .inr x4
        · exact X7.new b o e
      · rw [← hS3]
        show Has _ (.lst top) _
        have hvs : vs.size = top.length := by rw [← Array.length_toList, x2.length]
        have := (Rws.small (S := (top, [])) (by (clear Bd Bg Bh Bu RLL d0L dRL e2 fr0 fr1 hD6 hI0 hIL hIn hIt hLn hN hN3 hNI hNL hRL hRL3 hS2 hd hd0' hd3 hde hg hh hi' hl hlen hline hlt hoL hrl hsm hu hvs mr' mr4 mr6 x1 x3 x4; omega))).1
        unfold Has
        exact ⟨d, vs, ep, rfl, if_pos rfl, by dsimp only at this; (clear Bd Bg Bh Bu RLL d0L dRL e2 fr0 fr1 hD6 hI0 hIL hIn hIt hLn hN hN3 hNI hNL hRL hRL3 hS1 hS2 hd hd0' hd3 hde hg hh hi' hl hlen hline hlt hoL hrl hsm hu mr' mr4 mr6 x1 x3 x4; omega), HasAll.mono hV' _ _ x2⟩
    | cons p bs =>
      have e2 : decide ((1 : Int) < (D6.length : Int)) = true := decide_eq_true (by rw [hD6]; simp; (clear Bd Bg Bh Bu RLL d0L dRL fr0 fr1 hD6 hI0 hIL hIn hIt hLn hN hN3 hNI hNL hRL hRL3 hS1 hS2 hd hd0' hd3 hde hg hh hi' hl hlen hline hlt hoL hsm hu mr' mr4 mr6; omega))
      rw [e2, if_pos rfl]
      have hs2 := Rws.small (S := (top, p :: bs)) (by (clear Bd Bg Bh Bu RLL d0L dRL e2 fr0 fr1 hD6 hI0 hIL hIn hIt hLn hN hN3 hNI hNL hRL hRL3 hS2 hd hd0' hd3 hde hg hh hi' hl hlen hline hlt hoL hsm hu mr' mr4 mr6; omega))
      refine wpG_mono (popW_ok (s := { s with heap := h7, toks := tk7 + 1 }) (S := (top, p :: bs)) Bh F7 mr6 X7 (by (clear Bd Bg Bh Bu RLL d0L dRL e2 fr0 fr1 hI0 hIL hIn hIt hLn hN hN3 hNI hNL hRL hRL3 hS1 hd hd0' hd3 hde hg hh hi' hl hlen hline hlt hoL hs2 hsm hu mr' mr4 mr6; omega)) hs2.1 (hs2.2 p (.head _))) (fun f s8 h8 => ?_) fun _ _ q => q
      obtain ⟨rfl, oJ, h8, tk8, m8, V8, D8, rfl, F8, mr8, X8⟩ := h8
      refine ⟨rfl, bs.length, by simp, ThB.mk (top := p ++ [.lst top]) (bs := bs) rfl F8 mr8 X8 ?_ ?_ hS3⟩
      · refine Nat.le_trans (Nat.le_of_eq ?_) hS1
        simp only [Rws.nodes, T.nodess_append, T.nodess, T.nodes, List.map_cons, List.sum_cons]
        (clear Bd Bg Bh Bu RLL d0L dRL e2 fr0 fr1 hD6 hI0 hIL hIn hIt hLn hN hN3 hNI hNL hRL hRL3 hS1 hS2 hd hd0' hd3 hde hg hh hi' hl hlen hline hlt hoL hs2 hsm hu mr' mr4 mr6 mr8; omega)
      · simp only [List.length_cons] at hS2 ⊢
        (clear Bd Bg Bh Bu RLL d0L dRL e2 fr0 fr1 hD6 hI0 hIL hIn hIt hLn hN hN3 hNI hNL hRL hRL3 hS1 hd hd0' hd3 hde hg hh hi' hl hlen hline hlt hoL hs2 hsm hu mr' mr4 mr6 mr8; omega)
end
end Mine
end Th12_part
section Pl1_part
open PySem PySem.W PySem.Calls PyProof.Rows
set_option Elab.async false
set_option maxRecDepth 100000
set_option maxHeartbeats 4000000
namespace Mine
noncomputable def pick : T → T
  | .lst [x] => x
  | t => t
mutual
theorem T.ht_nodes : ∀ t : T, t.ht ≤ t.nodes
  | .byt _ => by simp [T.ht]
  | .ba _ => by simp [T.ht]
  | .lst xs => by simp only [T.ht, T.nodes]; have := T.hts_nodess xs; omega
  | .tup xs => by simp only [T.ht, T.nodes]; have := T.hts_nodess xs; omega
  | .non => by simp [T.ht]
  | .boo _ => by simp [T.ht]
  | .num _ => by simp [T.ht]
theorem T.hts_nodess : ∀ xs : List T, T.hts xs ≤ T.nodess xs
  | [] => by simp [T.hts]
  | x :: xs => by
    have := T.ht_nodes x
    have := T.hts_nodess xs
    simp only [T.hts, T.nodess]
    omega
end
theorem pick_ok {t : T} {n : Nat} (h : t.nodes ≤ n) (f : t.fit) : (pick t).nodes ≤ n ∧ (pick t).fit := by
  unfold pick
  split
  · simp only [T.nodes, T.nodess] at h
    unfold T.fit T.fits at f
    exact ⟨by omega, f.1⟩
  · exact ⟨h, f⟩
mutual
theorem T.enc_size : ∀ t : T, t.fit → t.enc.size ≤ 60 * t.nodes
  | .byt b, f => by
    unfold T.fit at f
    unfold T.enc
    split
    · simp only [T.nodes]; (clear f; omega)
    · have := headL_len (base := 128) (size := b.size)
      rw [Array.size_append, byteArr_size]; simp only [T.nodes]; omega
  | .ba b, f => by
    unfold T.fit at f
    unfold T.enc
    split
    · simp only [T.nodes]; (clear f; omega)
    · have := headL_len (base := 128) (size := b.size)
      rw [Array.size_append, byteArr_size]; simp only [T.nodes]; omega
  | .lst xs, f => by
    unfold T.fit at f
    have := T.encs_size xs f
    have h := headL_len (base := 192) (size := (T.encs xs).size)
    unfold T.enc
    rw [Array.size_append, byteArr_size]; simp only [T.nodes]; omega
  | .tup xs, f => by
    unfold T.fit at f
    have := T.encs_size xs f
    have h := headL_len (base := 192) (size := (T.encs xs).size)
    unfold T.enc
    rw [Array.size_append, byteArr_size]; simp only [T.nodes]; omega
  | .non, _ => by simp [T.enc]
  | .boo _, _ => by simp [T.enc]
  | .num _, _ => by simp [T.enc]
theorem T.encs_size : ∀ xs : List T, T.fits xs → (T.encs xs).size ≤ 60 * T.nodess xs
  | [], _ => by simp [T.encs]
  | x :: xs, f => by
    unfold T.fits at f
    have := T.enc_size x f.1
    have := T.encs_size xs f.2
    simp only [T.encs, T.nodess, Array.size_append]
    omega
end
/-- what is plain of a tree -/
structure PlainOf (t p : T) : Prop where
  ser : t.ser = true
  put : p.put = t.enc
  isP : p.isP = true
  ht : p.ht = t.ht
  small : p.small
mutual
theorem plain_of : ∀ (t p : T), t.fit → t.nodes ≤ 900 → t.plain = some p → PlainOf t p
  | .byt b, p, f, _, h => by
    unfold T.plain at h
    cases h
    unfold T.fit at f
    exact ⟨by simp [T.ser], by unfold T.put T.enc; rfl, by simp [T.isP], rfl, by unfold T.small; omega⟩
  | .ba b, p, f, _, h => by
    unfold T.plain at h
    cases h
    unfold T.fit at f
    exact ⟨by simp [T.ser], by unfold T.put T.enc; rfl, by simp [T.isP], by simp [T.ht], by unfold T.small; omega⟩
  | .lst xs, p, f, n, h => by
    unfold T.plain at h
    obtain ⟨ps, hps, rfl⟩ := Option.map_eq_some_iff.mp h
    unfold T.fit at f
    simp only [T.nodes] at n
    have x := plains_of xs ps f (by (clear h hps; omega)) hps
    refine ⟨by unfold T.ser; exact x.1, by unfold T.put T.enc; rw [x.2.1], by unfold T.isP; exact x.2.2.1, by simp only [T.ht, x.2.2.2.1], ?_⟩
    unfold T.small
    have := T.len_nodess xs
    exact ⟨by rw [plains_size hps]; (clear h hps x; omega), x.2.2.2.2⟩
  | .tup xs, p, f, n, h => by
    unfold T.plain at h
    obtain ⟨ps, hps, rfl⟩ := Option.map_eq_some_iff.mp h
    unfold T.fit at f
    simp only [T.nodes] at n
    have x := plains_of xs ps f (by (clear h hps; omega)) hps
    refine ⟨by unfold T.ser; exact x.1, by unfold T.put T.enc; rw [x.2.1], by unfold T.isP; exact x.2.2.1, by simp only [T.ht, x.2.2.2.1], ?_⟩
    unfold T.small
    have := T.len_nodess xs
    exact ⟨by rw [plains_size hps]; (clear h hps x; omega), x.2.2.2.2⟩
  | .non, p, _, _, h => by unfold T.plain at h; cases h
  | .boo _, p, _, _, h => by unfold T.plain at h; cases h
  | .num _, p, _, _, h => by unfold T.plain at h; cases h
theorem plains_of : ∀ (xs ps : List T), T.fits xs → T.nodess xs ≤ 900 → T.plains xs = some ps → T.sers xs = true ∧ T.puts ps = T.encs xs ∧ T.isPs ps = true ∧ T.hts ps = T.hts xs ∧ T.smalls ps
  | [], ps, _, _, h => by
    unfold T.plains at h
    cases h
    exact ⟨by simp [T.sers], by simp [T.puts, T.encs], by simp [T.isPs], rfl, by unfold T.smalls; trivial⟩
  | x :: xs, ps, f, n, h => by
    unfold T.plains at h
    obtain ⟨y, hy, h⟩ := Option.bind_eq_some_iff.mp h
    obtain ⟨ys, hys, rfl⟩ := Option.map_eq_some_iff.mp h
    unfold T.fits at f
    simp only [T.nodess] at n
    have a := plain_of x y f.1 (by (clear h hy hys; omega)) hy
    have b := plains_of xs ys f.2 (by (clear h hy hys; omega)) hys
    exact ⟨by simp [T.sers, a.ser, b.1], by simp [T.puts, T.encs, a.put, b.2.1], by simp [T.isPs, a.isP, b.2.2.1], by simp [T.hts, a.ht, b.2.2.2.1], by unfold T.smalls; exact ⟨a.small, b.2.2.2.2⟩⟩
end
mutual
theorem plain_none : ∀ t : T, t.plain = none → t.ser = false
  | .byt b, h => by unfold T.plain at h; cases h
  | .ba b, h => by unfold T.plain at h; cases h
  | .lst xs, h => by
    unfold T.plain at h
    unfold T.ser
    exact plains_nil xs (Option.map_eq_none_iff.mp h)
  | .tup xs, h => by
    unfold T.plain at h
    unfold T.ser
    exact plains_nil xs (Option.map_eq_none_iff.mp h)
  | .non, _ => by simp [T.ser]
  | .boo _, _ => by simp [T.ser]
  | .num _, _ => by simp [T.ser]
theorem plains_nil : ∀ xs : List T, T.plains xs = none → T.sers xs = false
  | [], h => by unfold T.plains at h; cases h
  | x :: xs, h => by
    unfold T.plains at h
    simp only [T.sers]
    cases q : T.plain x with
    | none => rw [plain_none x q]; rfl
    | some y =>
      rw [q] at h
      simp only [Option.bind_some, Option.map_eq_none_iff] at h
      rw [plains_nil xs h, Bool.and_false]
end
end Mine
end Pl1_part
section BaNe2_part
open PySem PySem.W PySem.W.X PySem.Calls PyProof.Rows
set_option Elab.async false
set_option maxRecDepth 100000
set_option maxHeartbeats 20000000
namespace Mine
section
variable {prog : Program} {w : World} {h : Heap} {g : Array GenState} {d : Drawn} {tk : Nat} {os : OsState} {hd : Option Value}
theorem ba_ne_by {a : Addr} {x : Array UInt8} {t0 : Tok} (ha : h.get? a = some ⟨.type "bytearray", none, .bytearray x, #[]⟩) :
    wpAny (model prog w) (AmaxV hd) (call (.builtin "bytearray.__ne__") [.ref a, .bytes x t0]) (fun r s' => r = .bool false ∧ s' = ⟨h, g, d, tk, os⟩) (fun _ _ => False) ⟨h, g, d, tk, os⟩ := by
  x_run
end
end Mine
end BaNe2_part
section Lw1_part
open PySem PySem.W PySem.Calls PyProof.Rows
set_option Elab.async false
set_option maxRecDepth 100000
set_option maxHeartbeats 4000000
namespace Mine
theorem sub_by_ba : isSubtype (.type "bytes") (.type "bytearray") = pure false := by rw [isSubtype_type]; kernel_rfl
section
variable {M : Model} {A : Around} {E : Value → Shared → Prop} {s : Shared}
theorem richCompare_left_room {a b : Value} {Ta Tb id : String} {op : CmpOp} {Q : Value → Shared → Prop} (ha : s.TypeIs a Ta) (hb : s.TypeIs b Tb)
    (hne : (Value.type Ta != Value.type Tb) = true) (hsub : isSubtype (.type Tb) (.type Ta) = pure false) (h : Slot Ta (cmpInfo op).2.1 id) (hu : A.units < cLine)
    (hc : wpAny M A (call (.builtin id) [a, b]) (fun v s' => v ≠ .notImplemented ∧ Q v s') E s) : wpAny M A (richCompare op a b) Q E s := by
  rcases hi : cmpInfo op with ⟨sym, f, r⟩
  rw [hi] at h
  simp only [richCompare, hi, ha.oneThing_none]
  try with_reducible refine wpAny_holding ?_
  refine wpAny_bind (wpAny_cRoomFor hu ?_)
  refine wpAny_bind (wpAny_typeOf ha (wpAny_bind (wpAny_typeOf hb ?_)))
  simp only [hne, if_true]
  refine wpAny_bind (wpAny_of_eq hsub ?_)
  simp only [Bool.false_eq_true, if_false]
  exact wpAny_bind (wpAny_tryCompare_slot ha h (wpAny_mono hc (fun v s' h' => ⟨h'.1, wpAny_pure h'.2⟩) fun _ _ h' => h'))
end
section
variable {prog : Program} {w : World} {A : Around} {E : Value → Shared → Prop} {s : Shared}
/-- what encode_raw gave is not unlike the octets told -/
theorem told_ne {b : Array UInt8} {v : Value} {t : Tok} {Q : Value → Shared → Prop} (hd : A.depth ≤ 900) (hu : A.units ≤ 9000) (H : EncV s.heap.get? b v) (h : Q (.bool false) s) : wpAny (model prog w) A (compareOp .NotEq v (.bytes b t)) Q E s := by
  have hline : (9000 : Nat) < cLine := by decide
  rcases H with ⟨t1, rfl⟩ | ⟨a, rfl, ha⟩
  · refine ne_bytes ?_
    rw [bne_self_eq_false]; exact h
  · refine richCompare_left_room (op := .NotEq) ⟨_, ha, rfl⟩ (PySem.W.typeIs_bytes _ _ _) (by decide) sub_by_ba slot_ba_ne (by (clear ha hd; omega)) ?_
    refine wpAny_mono (av_le (ba_ne_by ha) hd hu) (fun v s' q => ?_) fun _ _ q => q.elim
    obtain ⟨rfl, rfl⟩ := q
    exact ⟨(fun e => nomatch e), h⟩
/-- bytes(told) -/
theorem told_bytes {b : Array UInt8} {v : Value} (hh : A.handled = none) (hd : A.depth ≤ 900) (hu : A.units ≤ 9000) (hz : b.size ≤ 100000) (H : EncV s.heap.get? b v) :
    wpAny (model prog w) A (call (.type "bytes") [v]) (fun r s' => Keeps s s' ∧ ∃ t', r = .bytes b t') (fun _ _ => False) s := by
  rcases H with ⟨t1, rfl⟩ | ⟨a, rfl, ha⟩
  · exact amax (bytes_of_bytes (h := s.heap) (g := s.gens) (d := s.drawn) (tk := s.toks) (os := s.os)) hh hd hu
  · exact amax (bytes_of_ba (h := s.heap) (g := s.gens) (d := s.drawn) (tk := s.toks) (os := s.os) hz ha) hh hd hu
end
end Mine
end Lw1_part
section Lw2_part
open PySem PySem.W PySem.Calls PyProof.Rows
set_option Elab.async false
set_option maxRecDepth 100000
set_option maxHeartbeats 4000000
namespace Mine
noncomputable abbrev env31 (G : Glo) (L : Addr) (cd : Value) : Env := envOf (fd 31).name (fd 31).scope L G.a31 cd
noncomputable def lawT (k : Nat) : List Stmt := (fd 31).body.drop k
section
variable {w : World} {A : Around} {s : Shared} {G : Glo} {h₀ : Heap} {L : Addr} {cd : Value} {m : Str → Option Value} {V : View} {t p : T} {vT vp vt va : Value}
theorem tail3_ok (hh : A.handled = none) (hd : A.depth ≤ 305) (hu : A.units ≤ 20) (F : Fr h₀ L s.heap m) (WV : Wld w G V) (hV : VLe V s.heap.get?) (hn : t.nodes ≤ 33) (hf : t.fit) (hp : t.plain = some p)
    (m1 : m "told" = some vT) (m2 : m "plain" = some vp) (m3 : m "thing" = some vt) (m4 : m "again" = some va) (H1 : EncV V t.enc vT) (H2 : Has V p vp) (H3 : Has V t vt) (H4 : Has V t va) :
    wpAny (model pw w) A (execs (lawT 8) (env31 G L cd)) (fun f s' => f = .ret (.bool true) ∧ Keeps s s') (fun _ _ => False) s := by
  have PO := plain_of t p hf (by (clear hd hh hp hu m1 m2 m3 m4; omega)) hp
  have hht : t.ht ≤ 33 := Nat.le_trans (T.ht_nodes t) hn
  have hsz : t.enc.size ≤ 1980 := Nat.le_trans (T.enc_size t hf) (by (clear hd hh hht hp hu m1 m2 m3 m4; omega))
  have hpsz : p.put.size ≤ 1980 := by rw [PO.put]; exact hsz
  have W := WV.keeps hV
  refine wpAny_execs_cons (wpAny_If (isTrue_or (wpAny_isTrue_Compare1 (ld F m2 (wpAny_Constant_none (is_none H2.notBu (wpAny_truthy_bool ?_)))) (by rfl))))
  rw [Has.notN hp H2, if_neg (by simp)]
  refine isTrue_or (wpAny_isTrue_Compare1 (ld F m1 ?_) (by rfl))
  refine Call_Name1 (gname W ⟨rfl, rfl, rfl⟩ rfl (lk_law_put _ _) ?_) rfl
  refine callWith_g (k := 30) W (Glo.m30 _) (spliced_cons (ld F m2 (spliced_nil ⟨fun _ _ _ e => e, ?_⟩)))
  refine mono_k (at_le (put_ok w G 33 p (by rw [PO.ht]; exact hht) (by decide) PO.isP (by (clear hd hh hht hn hp hsz hu m1 m2 m3 m4; omega)) s V vp hV WV H2) hh (by (clear hh hht hn hp hpsz hsz hu m1 m2 m3 m4; omega)) (by (clear hd hh hht hn hp hpsz hsz m1 m2 m3 m4; omega))) fun h1 tk1 tb k1 => ?_
  have F1 := F.after k1
  have hV1 : VLe V h1.get? := fun b o e => k1 b o (hV b o e)
  rw [PO.put]
  refine told_ne (by (clear hh hht hn hp hpsz hsz hu m1 m2 m3 m4; omega)) (by (clear hd hh hht hn hp hpsz hsz m1 m2 m3 m4; omega)) (EncV.mono hV1 H1) (wpAny_truthy_bool ?_)
  rw [if_neg (by simp)]
  refine isTrue_or (wpAny_isTrue_Compare1 (ld F1 m3 (ld F1 m4 (ne_like (n := 33) hht (by (clear hh hht hn hp hpsz hsz hu m1 m2 m3 m4; omega)) (by (clear hd hh hht hn hp hpsz hsz m1 m2 m3 m4; omega)) (Has.mono hV1 _ _ H3) (Has.mono hV1 _ _ H4) (wpAny_truthy_bool ?_)))) (by rfl))
  rw [if_neg (by simp)]
  refine isTrue_or_nil ?_
  rw [if_neg (by simp)]
  refine wpAny_execs_nil ?_
  have W1 := WV.keeps hV1
  refine wpAny_execs_cons (wpAny_Return_some (wpAny_Compare1 ?_ (by rfl)))
  refine Call_Name1 (gname W1 ⟨rfl, rfl, rfl⟩ rfl (lk_decode _ _) ?_) rfl
  refine callWith_g (k := 19) W1 (Glo.m19 _) (spliced_cons ?_)
  refine Call_Name1 (bname W1 ⟨rfl, rfl, rfl⟩ rfl (glo_bytes _ _) (blt_bytes _) ?_) rfl
  refine PyProof.Rows.callWith_type rfl (evalArgs_plain (spliced_cons (ld F1 m1 (spliced_nil ?_))))
  refine mono_k (told_bytes hh (by (clear hh hht hn hp hpsz hsz hu m1 m2 m3 m4; omega)) (by (clear hd hh hht hn hp hpsz hsz m1 m2 m3 m4; omega)) (by (clear hd hh hht hn hp hpsz hu m1 m2 m3 m4; omega)) (EncV.mono hV1 H1)) fun h2 tk2 tb2 k2 => ?_
  dsimp only at k2 ⊢
  refine spliced_nil ⟨fun b o _ e => k2 b o e, ?_⟩
  have hV2 : VLe V h2.get? := fun b o e => k2 b o (hV1 b o e)
  rw [← PO.put]
  refine wpAny_mono (at_le (decode_ok (n := 33) (by decide) (by rw [PO.ht]; exact hht) PO.isP PO.small (by (clear hd hh hht hn hp hsz hu m1 m2 m3 m4; omega)) (V := V) hV2 (WV.keeps hV2)) hh (by (clear hh hht hn hp hpsz hsz hu m1 m2 m3 m4; omega)) (by (clear hd hh hht hn hp hpsz hsz m1 m2 m3 m4; omega))) (fun r s3 h3 => ?_) fun _ _ q => q
  obtain ⟨⟨h3, tk3, rfl, k3⟩, V', hE, hT⟩ := h3
  dsimp only at k3 hE ⊢
  have k03 : ∀ b o, s.heap.get? b = some o → h3.get? b = some o := fun b o e => k3 b o (k2 b o (k1 b o e))
  refine ld (F.after k03) m2 (eq_like (n := 33) (by rw [PO.ht]; exact hht) (by (clear hh hht hn hp hpsz hsz hu m1 m2 m3 m4; omega)) (by (clear hd hh hht hn hp hpsz hsz m1 m2 m3 m4; omega)) (Has.mono hE.at' _ _ hT) (Has.mono (fun b o e => k03 b o (hV b o e)) _ _ H2) ?_)
  exact ⟨rfl, _, _, rfl, k03⟩
end
end Mine
end Lw2_part
section Lw3_part
open PySem PySem.W PySem.Calls PyProof.Rows
set_option Elab.async false
set_option maxRecDepth 100000
set_option maxHeartbeats 4000000
namespace Mine
section
variable {M : Model} {A : Around} {E : Value → Shared → Prop} {s : Shared}
theorem exc_46 {P : Params} {e : Addr} {oe : Obj} {Q : Bool → Shared → Prop} (h46 : s.heap.get? 46 = some (o46 P)) (he : s.heap.get? e = some oe) (hc : oe.cls = .ref 46) (h : Q true s) : wpAny M A (excMatches (.ref e) (.ref 46)) Q E s := by
  have f := tc_notTuple
  unfold excMatches
  unfold isInstance
  refine wpAny_bind (wpAny_bind (wpAny_typeOf_ref h46 ?_))
  rw [show (o46 P).cls = .type "type" from rfl]
  refine wpAny_of_eq f ?_
  simp only [Bool.false_eq_true, if_false, pure_bind, List.forIn_cons, List.forIn_nil]
  refine wpAny_bind (wpAny_bind (wpAny_bind ?_))
  unfold isExcClass isType
  refine wpAny_bind (wpAny_bind (wpAny_loadPart (o := _) h46 (wpAny_pure ?_)))
  refine bm_if_true rfl ?_
  refine isSub_46 h46 ?_
  rw [show ([Value.ref 46, .ref 24, .type "Exception", .type "BaseException", .type "object"].contains (Value.type "BaseException")) = true by decide]
  refine bm_if_false rfl (wpAny_pure ?_)
  refine wpAny_pure ?_
  refine wpAny_bind (wpAny_typeOf_ref he ?_)
  rw [hc]
  refine wpAny_bind (wpAny_bind (wpAny_bind (isSub_46 h46 ?_)))
  rw [show ([Value.ref 46, .ref 24, .type "Exception", .type "BaseException", .type "object"].contains (Value.ref 46)) = true by decide]
  refine bm_if_true rfl (wpAny_pure ?_)
  refine wpAny_pure ?_
  exact wpAny_pure h
theorem exc_88 {P : Params} {e : Addr} {oe : Obj} {Q : Bool → Shared → Prop} (h88 : s.heap.get? 88 = some (o88 P)) (he : s.heap.get? e = some oe) (hc : oe.cls = .ref 88) (h : Q true s) : wpAny M A (excMatches (.ref e) (.ref 88)) Q E s := by
  have f := tc_notTuple
  unfold excMatches
  unfold isInstance
  refine wpAny_bind (wpAny_bind (wpAny_typeOf_ref h88 ?_))
  rw [show (o88 P).cls = .type "type" from rfl]
  refine wpAny_of_eq f ?_
  simp only [Bool.false_eq_true, if_false, pure_bind, List.forIn_cons, List.forIn_nil]
  refine wpAny_bind (wpAny_bind (wpAny_bind ?_))
  unfold isExcClass isType
  refine wpAny_bind (wpAny_bind (wpAny_loadPart (o := _) h88 (wpAny_pure ?_)))
  refine bm_if_true rfl ?_
  refine isSub_88 h88 ?_
  rw [show ([Value.ref 88, .ref 24, .type "Exception", .type "BaseException", .type "object"].contains (Value.type "BaseException")) = true by decide]
  refine bm_if_false rfl (wpAny_pure ?_)
  refine wpAny_pure ?_
  refine wpAny_bind (wpAny_typeOf_ref he ?_)
  rw [hc]
  refine wpAny_bind (wpAny_bind (wpAny_bind (isSub_88 h88 ?_)))
  rw [show ([Value.ref 88, .ref 24, .type "Exception", .type "BaseException", .type "object"].contains (Value.ref 88)) = true by decide]
  refine bm_if_true rfl (wpAny_pure ?_)
  refine wpAny_pure ?_
  exact wpAny_pure h
end
end Mine
end Lw3_part
section Lw4_part
open PySem PySem.W PySem.Calls PyProof.Rows
set_option Elab.async false
set_option maxRecDepth 100000
set_option maxHeartbeats 4000000
namespace Mine
theorem Flying.w {base h : Heap} {l : List Env} {e : Addr} {cls : Value} (x : Heap.Flying base l e cls h) : ∃ a0, Heap.FlyingW base l e cls a0 h := by
  obtain ⟨x1, x2, x3, oe, vs, T, oT, ts, y1, y2, y3, y4, y5, y6, y7, y8, y9⟩ := x
  have hs : 1 < vs.size := (Array.getElem?_eq_some_iff.mp y4).1
  exact ⟨vs[0], x1, x2, x3, oe, vs, T, oT, ts, y1, ⟨y2, Array.getElem?_eq_getElem (by (clear x2 y1 y4 y5 y6 y7 y9; omega))⟩, y3, y4, y5, y6, y7, y8, y9⟩
section
variable {prog : Program} {w : World} {A : Around} {E : Value → Shared → Prop} {s : Shared} {env : Env}
/-- an exception of ours, met by a clause that names its class -/
theorem catch_ok {base : Heap} {outer : List Env} {L e C : Addr} {t : Expr} {b₀ : Stmt} {suite : List Stmt} {pos : Pos} {rest : List ExceptHandler} {Q : Flow → Shared → Prop}
    (hfr : A.frames = some (env :: outer)) (hf : env.frame = some L) (hfl : Heap.Flying base (env :: outer) e (.ref C) s.heap)
    (hex : ∀ (s' : Shared) (oe : Obj) (Q' : Bool → Shared → Prop) (E' : Value → Shared → Prop), base.StaysIn s'.heap → s'.heap.get? e = some oe → oe.cls = .ref C → Q' true s' → wpAny (model prog w) (A.mark (some (.ref e))) (excMatches (.ref e) (.ref C)) Q' E' s')
    (hname : ∀ (s' : Shared) (Q' : Value → Shared → Prop) (E' : Value → Shared → Prop), base.StaysIn s'.heap → Q' (.ref C) s' → wpAny (model prog w) (A.mark (some (.ref e))) (eval t env) Q' E' s')
    (k : ∀ h', base.StaysIn h' → s.heap.UpToSlots h' → wpAny (model prog w) (A.mark (some (.ref e))) (execs (b₀ :: suite) env) Q (fun _ _ => False) { s with heap := h' }) :
    wpAny (model prog w) A (noteFrame (.ref e) env) (fun _ s₂ => wpAny (model prog w) A (setFlight (.ref e) none) (fun _ s₃ =>
      wpAny (model prog w) A (handleBy (.ref e) env (.ExceptHandler (some t) none (b₀ :: suite) pos :: rest)) Q E s₃) E s₂) E s := by
  obtain ⟨a0, hflW⟩ := Flying.w hfl
  refine wpAny_looks_onW hfr hf hflW fun h₄ hheld₄ hsm₄ => ?_
  refine wpAny_landsW hheld₄ fun h₅ hfl₅ hsm₅ => ?_
  refine wpAny_handleBy_cons (codeAny_handlers_test (hname _ _ _ hfl₅.1 ?_)) (by intro q; cases q)
  obtain ⟨oe, hoe, hcls⟩ := hfl₅.there
  refine hex _ oe _ _ hfl₅.1 hoe hcls (codeAny_handlers_suite ?_)
  refine lands_againW hfl₅ fun h₆ hfl₆ hsm₆ => ?_
  refine wpAny_mono (k h₆ hfl₆.1 ((hsm₄.trans hsm₅).trans hsm₆)) (fun f s' q => ?_) fun _ _ q => q.elim
  exact q
end
end Mine
end Lw4_part
section Lw5_part
open PySem PySem.W PySem.Calls PyProof.Rows
set_option Elab.async false
set_option maxRecDepth 100000
set_option maxHeartbeats 4000000
namespace Mine
/-- what the walk of law knows at a place -/
structure LS (w : World) (G : Glo) (pm doc : Value) (c P : Addr) (h₀ : Heap) (L : Addr) (V : View) (h : Heap) (m : Str → Option Value) : Prop where
  F : Fr h₀ L h m
  p0 : h₀.get? P = none
  WV : Wld w G V
  hV : VLe V h.get?
  vL : V L = none
  vP : V P = none
  EF : EncF G pm doc c h.get?
  ET : EncT c P h
/-- what law leaves -/
noncomputable def LawR (c P : Addr) (h₀ : Heap) (s s' : Shared) : Prop := (∀ b o, h₀.get? b = some o → s'.heap.get? b = some o) ∧ EncT c P s'.heap ∧ s'.os = s.os ∧ (AllBare s.gens → AllBare s'.gens)
theorem LawR.after {c P : Addr} {h₀ : Heap} {s s1 s' : Shared} (h : LawR c P h₀ s1 s') (ho : s1.os = s.os) (hg : AllBare s.gens → AllBare s1.gens) : LawR c P h₀ s s' := ⟨h.1, h.2.1, h.2.2.1.trans ho, fun q => h.2.2.2 (hg q)⟩
section
variable {w : World} {A : Around} {s : Shared} {G : Glo} {pm doc : Value} {c P : Addr} {h₀ : Heap} {L : Addr} {cd : Value} {m : Str → Option Value} {V : View} {t p : T} {vT vp vt va : Value}
theorem LS.W (X : LS w G pm doc c P h₀ L V s.heap m) : Wld w G s.heap.get? := X.WV.keeps X.hV
theorem LS.LP (X : LS w G pm doc c P h₀ L V s.heap m) : L ≠ P := fun q => by
  obtain ⟨ps, hp⟩ := X.ET.table
  obtain ⟨o, es, n, ho, hd, _⟩ := X.F.ns
  rw [q, hp] at ho
  cases ho
  cases hd
theorem LS.frames (X : LS w G pm doc c P h₀ L V s.heap m) : s.heap.FunFrames noHeap [env31 G L cd] := by
  obtain ⟨o, es, n, ho, hd, _⟩ := X.F.ns
  refine ⟨?_, ⟨L, o, rfl, Heap.get?_none_of_le (by simp), ho, fun vs q => by rw [hd] at q; cases q⟩, trivial⟩
  show (fd 31).scope.kind ≠ .module
  rw [show (fd 31).scope.kind = .function by kernel_rfl]; decide
theorem LS.n46 (X : LS w G pm doc c P h₀ L V s.heap m) : 46 ∉ frs [env31 G L cd] := fun hm => by
  have e : (46 : Nat) = L := by simpa [frs, envOf] using hm
  have h1 := X.WV.c46
  have h2 := X.vL
  rw [← e] at h2
  rw [show V 46 = none from h2] at h1
  cases h1
/-- after a run that kept all but the table -/
theorem LS.keepsP {h' : Heap} (X : LS w G pm doc c P h₀ L V s.heap m) (hk : ∀ b o, b ≠ P → s.heap.get? b = some o → h'.get? b = some o) (T : EncT c P h') : LS w G pm doc c P h₀ L V h' m :=
  ⟨⟨X.F.ns.at' fun o e => hk _ o X.LP e, fun b o e => hk b o (fun q => by rw [q, X.p0] at e; cases e) (X.F.keep b o e), X.F.above⟩, X.p0, X.WV, fun b o e => hk b o (fun q => by rw [q, X.vP] at e; cases e) (X.hV b o e), X.vL, X.vP, X.EF.keepsP X.ET hk, T⟩
/-- after a run that kept all, and put something into the view -/
theorem LS.ext {h' : Heap} {V' : View} (X : LS w G pm doc c P h₀ L V s.heap m) (hk : ∀ b o, s.heap.get? b = some o → h'.get? b = some o) (hE : Ext V s.heap V' h') : LS w G pm doc c P h₀ L V' h' m := by
  obtain ⟨ps, hp⟩ := X.ET.table
  obtain ⟨o, es, n, ho, _⟩ := X.F.ns
  exact ⟨X.F.after hk, X.p0, X.WV.keeps hE.le, hE.at', hE.off ho X.vL, hE.off hp X.vP, X.EF.keepsC fun b o _ e => hk b o e, X.ET.at (fun o e => hk _ o e) (fun o e => hk _ o e)⟩
/-- a store into the frame -/
theorem LS.store {h' : Heap} {m' : Str → Option Value} (X : LS w G pm doc c P h₀ L V s.heap m) (F' : Fr h₀ L h' m') (hk : ∀ b o, b ≠ L → s.heap.get? b = some o → h'.get? b = some o) : LS w G pm doc c P h₀ L V h' m' := by
  have hf : ∀ b o, s.heap.get? b = some o → (∀ es n, o.data ≠ .dict es n) → b ≠ L := fun b o e hd q => by
    obtain ⟨o', es, n, ho, hd', _⟩ := X.F.ns
    rw [q, ho] at e
    cases e
    exact hd es n hd'
  obtain ⟨oc, vc, c1, c2, c3⟩ := X.ET.code
  obtain ⟨ps, hp⟩ := X.ET.table
  refine ⟨F', X.p0, X.WV, fun b o e => hk b o (fun q => by rw [q, X.vL] at e; cases e) (X.hV b o e), X.vL, X.vP, ⟨hk _ _ (hf _ _ X.EF.fn (by simp)) X.EF.fn, hk _ _ (hf _ _ X.EF.m4 (by simp)) X.EF.m4⟩,
    X.ET.at (fun o e => hk _ o (hf _ _ e (by rw [c1] at e; cases e; rw [c3]; simp)) e) (fun o e => hk _ o (hf _ _ e (by rw [hp] at e; cases e; simp)) e)⟩
/-- after an exception of ours was met: the frame is there up to its slots -/
theorem LS.caught {h' : Heap} (X : LS w G pm doc c P h₀ L V s.heap m) (hk : ∀ b o, b ≠ P → b ≠ L → s.heap.get? b = some o → h'.get? b = some o) (hu : s.heap.UpToSlots h') (T : EncT c P h') : LS w G pm doc c P h₀ L V h' m := by
  have hf : ∀ b o, s.heap.get? b = some o → (∀ es n, o.data ≠ .dict es n) → b ≠ L := fun b o e hd q => by
    obtain ⟨o', es, n, ho, hd', _⟩ := X.F.ns
    rw [q, ho] at e
    cases e
    exact hd es n hd'
  obtain ⟨ps, hp⟩ := X.ET.table
  have hP : ∀ b o, s.heap.get? b = some o → (∀ vs, o.data ≠ .fields vs) → b ≠ P := fun b o e hd q => by
    rw [q, hp] at e
    cases e
    exact hd _ rfl
  have hL0 : h₀.get? L = none := Heap.get?_none_of_le X.F.above
  exact ⟨⟨hu.ns X.F.ns, fun b o e => hk b o (fun q => by rw [q, X.p0] at e; cases e) (fun q => by rw [q, hL0] at e; cases e) (X.F.keep b o e), X.F.above⟩, X.p0, X.WV, fun b o e => hk b o (fun q => by rw [q, X.vP] at e; cases e) (fun q => by rw [q, X.vL] at e; cases e) (X.hV b o e), X.vL, X.vP,
    ⟨hk _ _ (hP _ _ X.EF.fn (by simp)) (hf _ _ X.EF.fn (by simp)) X.EF.fn, hk _ _ (hP _ _ X.EF.m4 (by simp)) (hf _ _ X.EF.m4 (by simp)) X.EF.m4⟩, T⟩
theorem LS.lawR (X : LS w G pm doc c P h₀ L V s.heap m) {s1 : Shared} (e1 : s.os = s1.os) (e2 : AllBare s1.gens → AllBare s.gens) : LawR c P h₀ s1 s := ⟨X.F.keep, X.ET, e1, e2⟩
end
end Mine
end Lw5_part
section Lw6_part
open PySem PySem.W PySem.Calls PyProof.Rows
set_option Elab.async false
set_option maxRecDepth 100000
set_option maxHeartbeats 4000000
namespace Mine
section
variable {w : World} {A : Around} {s : Shared} {G : Glo} {pm doc : Value} {c P : Addr} {h₀ : Heap} {L : Addr} {cd : Value} {m : Str → Option Value} {V : View} {t p : T} {vT vp vt va : Value}
theorem LS.vne (X : LS w G pm doc c P h₀ L V s.heap m) {b : Addr} {o : Obj} (e : V b = some o) : b ≠ P ∧ b ∉ frs [env31 G L cd] := by
  refine ⟨(fun q => by rw [q, X.vP] at e; cases e), fun hm => ?_⟩
  have e' : b = L := by simpa [frs, envOf] using hm
  rw [e', X.vL] at e
  cases e
theorem tail2_ok (hh : A.handled = none) (hfr : A.frames = some [env31 G L cd]) (hd : A.depth ≤ 305) (hu : A.units ≤ 20) (X : LS w G pm doc c P h₀ L V s.heap m) (hn : t.nodes ≤ 33) (hf : t.fit)
    (m2 : m "plain" = some vp) (m3 : m "thing" = some vt) (m4 : m "again" = some va) (H2 : RP V t vp) (H3 : Has V t vt) (H4 : Has V t va) :
    wpAny (model pw w) A (execs (lawT 7) (env31 G L cd)) (fun f s' => f = .ret (.bool true) ∧ LawR c P h₀ s s') (fun _ _ => False) s := by
  have hht : t.ht ≤ 33 := Nat.le_trans (T.ht_nodes t) hn
  have hsz : t.enc.size ≤ 1980 := Nat.le_trans (T.enc_size t hf) (by (clear hd hfr hh hht hu m2 m3 m4; omega))
  refine wpAny_execs_cons (wpAny_Try_except ?_)
  refine wpAny_execs_cons (wpAny_Assign_Name (Call_Name1 (gname X.W ⟨rfl, rfl, rfl⟩ rfl (lk_encode_raw _ _) ?_) rfl) (by rfl))
  refine callWith_g (k := 11) X.W (Glo.m11 _) (spliced_cons (ld X.F m3 (spliced_nil ⟨fun _ _ _ e => e, ?_⟩)))
  refine wpAny_mono (enc_ok w G pm doc c P 33 t hht (by decide) (by (clear hd hfr hh hht hn hu m2 m3 m4; omega)) A [env31 G L cd] s V vt hh hfr (by simp only [DD]; (clear hfr hh hht hn hsz hu m2 m3 m4; omega)) (by simp only [UU]; (clear hd hfr hh hht hn hsz m2 m3 m4; omega)) X.frames X.n46 X.W X.EF X.ET X.hV X.vP H3) (fun r s1 h1 => ?_) (fun e s1 h1 => ?_)
  · obtain ⟨hs, hK, hT, hE⟩ := h1
    obtain ⟨h1, g1, tk1, rfl, k1, g2, b2⟩ := hK
    dsimp only at k1 hT ⊢
    have X1 := X.keepsP k1 hT
    unfold RP at H2
    cases hp : t.plain with
    | none => rw [plain_none t hp] at hs; cases hs
    | some p =>
      rw [hp] at H2
      dsimp only at H2
      refine stK X1.F News.nil (fun h2 F2 _ k2 => ?_) (by rfl) (by rfl)
      dsimp only at k2 ⊢
      have X2 := LS.store (s := { heap := h1, gens := g1, drawn := s.drawn, toks := tk1, os := s.os }) X1 F2 k2
      refine wpAny_execs_nil (wpAny_execs_nil ?_)
      refine wpAny_mono (tail3_ok (s := { heap := h2, gens := g1, drawn := s.drawn, toks := tk1 + 1, os := s.os }) hh hd hu X2.F X2.WV X2.hV hn hf hp (if_pos rfl) ((if_neg (by decide)).trans m2) ((if_neg (by decide)).trans m3) ((if_neg (by decide)).trans m4) hE H2 H3 H4) (fun f s3 h3 => ?_) fun _ _ q => q
      obtain ⟨hf3, h3, tk3, rfl, k3⟩ := h3
      have X3 := LS.ext (s := { heap := h2, gens := g1, drawn := s.drawn, toks := tk1 + 1, os := s.os }) X2 k3 (Ext.refl fun b o e => k3 b o (X2.hV b o e))
      subst hf3
      exact ⟨rfl, LS.lawR (s := { heap := h3, gens := g1, drawn := s.drawn, toks := tk3, os := s.os }) X3 rfl b2⟩
  · obtain ⟨hs, base', e', rfl, x1, x2, x3, x4, x5, x6, x7⟩ := h1
    have hVb : ∀ b o, V b = some o → base'.get? b = some o := fun b o e => x1 b o (X.vne (cd := cd) e).1 (X.vne (cd := cd) e).2 (X.hV b o e)
    unfold RP at H2
    cases hp : t.plain with
    | some p => have := (plain_of t p hf (by (clear hd hfr hh hht hp hs hsz hu m2 m3 m4; omega)) hp).ser; rw [hs] at this; cases this
    | none =>
      rw [hp] at H2
      dsimp only at H2
      subst H2
      refine catch_ok (C := 46) hfr rfl x3 (fun s' oe Q' E' hst he hc q => exc_46 (P := w.params) (hst _ _ (hVb _ _ X.WV.c46)) he hc q)
        (fun s' Q' E' hst q => gname (X.WV.keeps fun b o e => hst b o (hVb b o e)) ⟨rfl, rfl, rfl⟩ rfl (lk_EncodingError _ _) q) (fun h' hst hup => ?_)
      have X1 : LS w G pm doc c P h₀ L V h' m := X.caught (fun b o hbP hbL e => hst b o (x1 b o hbP (fun hm => hbL (by simpa [frs, envOf] using hm)) e)) (x7.trans hup) (x2.at (fun o e => hst _ o e) (fun o e => hst _ o e))
      refine wpAny_execs_cons (wpAny_Return_some (BoolOp_and (wpAny_Compare1 (ld X1.F m2 (wpAny_Constant_none (is_none (fun id q => nomatch q) (wpAny_truthy_bool ?_)))) (by rfl))))
      rw [show isN .none = true from rfl, if_pos rfl]
      refine BoolOp_one (wpAny_Compare1 (ld X1.F m3 (ld X1.F m4 (eq_like (n := 33) hht (by show A.depth ≤ 900; (clear hfr hh hht hn hp hs hsz hu m2 m3 m4; omega)) (by show A.units + 1 + 33 ≤ 9000; (clear hd hfr hh hht hn hp hs hsz m2 m3 m4; omega)) (Has.mono X1.hV _ _ H3) (Has.mono X1.hV _ _ H4) ?_))) (by rfl))
      exact ⟨rfl, LS.lawR (s := { s1 with heap := h' }) X1 x4 x6⟩
end
end Mine
end Lw6_part
section Lw7_part
open PySem PySem.W PySem.Calls PyProof.Rows
set_option Elab.async false
set_option maxRecDepth 100000
set_option maxHeartbeats 4000000
namespace Mine
theorem isnot_none {M : Model} {A : Around} {E : Value → Shared → Prop} {s : Shared} {v : Value} {Q : Value → Shared → Prop} (hv : ∀ id, v ≠ .builtin id) (h : Q (.bool (!isN v)) s) : wpAny M A (compareOp .IsNot v .none) Q E s := by
  refine wpAny_of_eq (a := Value.bool (!isN v)) ?_ h
  cases v <;> first | rfl | exact absurd rfl (hv _)
section
variable {w : World} {A : Around} {s : Shared} {G : Glo} {pm doc : Value} {c P : Addr} {h₀ : Heap} {L : Addr} {cd : Value} {m : Str → Option Value} {V : View} {t p : T} {vT vp vt va : Value}
theorem tail1_ok (hh : A.handled = none) (hfr : A.frames = some [env31 G L cd]) (hd : A.depth ≤ 305) (hu : A.units ≤ 20) (X : LS w G pm doc c P h₀ L V s.heap m) (hn : t.nodes ≤ 33) (hf : t.fit)
    (m2 : m "plain" = some vp) (m3 : m "thing" = some vt) (m4 : m "again" = some va) (H2 : RP V t vp) (H3 : Has V t vt) (H4 : Has V t va) :
    wpAny (model pw w) A (execs (lawT 6) (env31 G L cd)) (fun f s' => f = .ret (.bool true) ∧ LawR c P h₀ s s') (fun _ _ => False) s := by
  have hht : t.ht ≤ 33 := Nat.le_trans (T.ht_nodes t) hn
  refine wpAny_execs_cons (wpAny_Try_except ?_)
  refine wpAny_execs_cons (wpAny_Assign_Name (Call_Name1 (gname X.W ⟨rfl, rfl, rfl⟩ rfl (lk_serialize _ _) ?_) rfl) (by rfl))
  refine callWith_g (k := 22) X.W (Glo.m22 _) (spliced_cons (ld X.F m3 (spliced_nil ⟨fun _ _ _ e => e, ?_⟩)))
  refine wpAny_mono (szl_ok (n := 33) hht (by decide) hh hfr (by (clear hfr hh hht hn hu m2 m3 m4; omega)) (by (clear hd hfr hh hht hn m2 m3 m4; omega)) X.frames X.W X.hV H3) (fun r s1 h1 => ?_) (fun e s1 h1 => ?_)
  · obtain ⟨hs, ⟨h1, tk1, rfl, k1⟩, rfl⟩ := h1
    dsimp only at k1 ⊢
    have X1 : LS w G pm doc c P h₀ L V h1 m := X.ext k1 (Ext.refl fun b o e => k1 b o (X.hV b o e))
    cases hp : t.plain with
    | none => rw [plain_none t hp] at hs; cases hs
    | some p =>
      have H2' := H2
      unfold RP at H2'
      rw [hp] at H2'
      dsimp only at H2'
      refine stK X1.F News.nil (fun h2 F2 _ k2 => ?_) (by rfl) (by rfl)
      dsimp only at k2 ⊢
      have X2 : LS w G pm doc c P h₀ L V h2 (set1 m "same" r) := LS.store (s := { s with heap := h1, toks := tk1 }) X1 F2 k2
      have n1 : set1 m "same" r "same" = some r := if_pos rfl
      have n2 : set1 m "same" r "plain" = some vp := (if_neg (by decide)).trans m2
      have n3 : set1 m "same" r "thing" = some r := (if_neg (by decide)).trans m3
      have n4 : set1 m "same" r "again" = some va := (if_neg (by decide)).trans m4
      have W2 := X2.WV.keeps X2.hV
      refine wpAny_execs_cons (wpAny_If (isTrue_or (wpAny_isTrue_Compare1 (ld X2.F n2 (wpAny_Constant_none (is_none H2'.notBu (wpAny_truthy_bool ?_)))) (by rfl))))
      rw [Has.notN hp H2', if_neg (by simp)]
      refine isTrue_or (wpAny_isTrue_Compare1 (ld X2.F n1 (ld X2.F n4 (ne_like (n := 33) hht (by (clear hfr hh hht hn hp hs hu m2 m3 m4 n1 n2 n3 n4; omega)) (by (clear hd hfr hh hht hn hp hs m2 m3 m4 n1 n2 n3 n4; omega)) (Has.mono X2.hV _ _ H3) (Has.mono X2.hV _ _ H4) (wpAny_truthy_bool ?_)))) (by rfl))
      rw [if_neg (by simp)]
      refine isTrue_or (wpAny_isTrue_Compare1 (Call_Name1 (gname W2 ⟨rfl, rfl, rfl⟩ rfl (lk_deserialize _ _) ?_) rfl) (by rfl))
      refine callWith_g (k := 23) W2 (Glo.m23 _) (spliced_cons (ld X2.F n1 (spliced_nil ⟨fun _ _ _ e => e, ?_⟩)))
      refine mono_k0 (at_le (deser_ok (n := 0) (by decide) W2) hh (by (clear hfr hh hht hn hp hs hu m2 m3 m4 n1 n2 n3 n4; omega)) (by (clear hd hfr hh hht hn hp hs m2 m3 m4 n1 n2 n3 n4; omega))) fun h3 tk3 k3 => ?_
      dsimp only at k3 ⊢
      have X3 : LS w G pm doc c P h₀ L V h3 _ := LS.ext (s := { s with heap := h2, toks := tk1 + 1 }) X2 k3 (Ext.refl fun b o e => k3 b o (X2.hV b o e))
      refine ld X3.F n4 (ne_like (n := 33) hht (by (clear hfr hh hht hn hp hs hu m2 m3 m4 n1 n2 n3 n4; omega)) (by (clear hd hfr hh hht hn hp hs m2 m3 m4 n1 n2 n3 n4; omega)) (Has.mono X3.hV _ _ H3) (Has.mono X3.hV _ _ H4) (wpAny_truthy_bool ?_))
      rw [if_neg (by simp)]
      refine isTrue_or_nil ?_
      rw [if_neg (by simp)]
      refine wpAny_execs_nil (wpAny_execs_nil (wpAny_execs_nil ?_))
      refine wpAny_mono (tail2_ok (s := { s with heap := h3, toks := tk3 }) (pm := pm) (doc := doc) (c := c) (P := P) (h₀ := h₀) hh hfr hd hu X3 hn hf n2 n3 n4 H2 H3 H4) (fun f s4 h4 => ?_) fun _ _ q => q
      exact ⟨h4.1, h4.2.after rfl id⟩
  · obtain ⟨hs, base', e', rfl, x1, x3, x4, x5, x6, x7⟩ := h1
    have hVb : ∀ b o, V b = some o → base'.get? b = some o := fun b o e => x1 b o (X.vne (cd := cd) e).2 (X.hV b o e)
    cases hp : t.plain with
    | some p => have := (plain_of t p hf (by (clear hd hfr hh hht hp hs hu m2 m3 m4 x6; omega)) hp).ser; rw [hs] at this; cases this
    | none =>
      have H2' := H2
      unfold RP at H2'
      rw [hp] at H2'
      dsimp only at H2'
      subst H2'
      refine catch_ok (C := 88) hfr rfl x3 (fun s' oe Q' E' hst he hc q => exc_88 (P := w.params) (hst _ _ (hVb _ _ X.WV.c88)) he hc q)
        (fun s' Q' E' hst q => gname (X.WV.keeps fun b o e => hst b o (hVb b o e)) ⟨rfl, rfl, rfl⟩ rfl (lk_SerializationError _ _) q) (fun h' hst hup => ?_)
      have hnf : ∀ b, b ≠ L → b ∉ frs [env31 G L cd] := fun b hbL hm => hbL (by simpa [frs, envOf] using hm)
      have hk : ∀ b o, b ≠ L → s.heap.get? b = some o → h'.get? b = some o := fun b o hbL e => hst b o (x1 b o (hnf b hbL) e)
      have hf1 : ∀ b o, s.heap.get? b = some o → (∀ es n, o.data ≠ .dict es n) → b ≠ L := fun b o e hd q => by
        obtain ⟨o', es, n, ho, hd', _⟩ := X.F.ns
        rw [q, ho] at e
        cases e
        exact hd es n hd'
      obtain ⟨oc, vc, c1, c2, c3⟩ := X.ET.code
      obtain ⟨ps, hps⟩ := X.ET.table
      have T1 : EncT c P h' := X.ET.at (fun o e => hk _ o (hf1 _ _ e (by rw [c1] at e; cases e; rw [c3]; simp)) e) (fun o e => hk _ o (hf1 _ _ e (by rw [hps] at e; cases e; simp)) e)
      have X1 : LS w G pm doc c P h₀ L V h' m := X.caught (fun b o hbP hbL e => hk b o hbL e) (x7.trans hup) T1
      refine wpAny_execs_cons (wpAny_If (wpAny_isTrue_Compare1 (ld X1.F m2 (wpAny_Constant_none (isnot_none (fun id q => nomatch q) (wpAny_truthy_bool ?_)))) (by rfl)))
      rw [show (!isN .none) = false from rfl, if_neg (by simp)]
      refine wpAny_execs_nil (wpAny_execs_nil ?_)
      refine wpAny_mono (tail2_ok (s := { s1 with heap := h' }) (pm := pm) (doc := doc) (c := c) (P := P) (h₀ := h₀) hh hfr hd hu X1 hn hf m2 m3 m4 H2 H3 H4) (fun f s4 h4 => ?_) fun _ _ q => q
      exact ⟨h4.1, h4.2.after x4 (fun q => by show AllBare s1.gens; rw [x6]; exact q)⟩
end
end Mine
end Lw7_part
section Lw8_part
open PySem PySem.W PySem.Calls PyProof.Rows
set_option Elab.async false
set_option maxRecDepth 100000
set_option maxHeartbeats 4000000
namespace Mine
theorem pick_slice (items : Array Value) : slicePick items none (some 16) none = (items.toList.take 16).toArray := by
  by_cases h : 16 ≤ items.size
  · exact slicePick_upto items 16 h
  · have e1 : slicePick items none (some 16) none = slicePick items none none none := by
      unfold slicePick
      congr 2
      simp only [sliceBounds, Option.getD_none]
      have h2 : ¬ ((16 : Int) < 0) := by decide
      simp only [h2, if_false, show (1 : Int) > 0 by decide, if_true]
      congr 1
      congr 1
      omega
    rw [e1, slicePick_all, List.take_of_length_le (by rw [Array.length_toList]; omega)]
theorem thFin_lst : ∀ (bs : List (List T)) (top : List T), ∃ xs, thFin top bs = .lst xs
  | [], top => ⟨top, rfl⟩
  | p :: bs, top => thFin_lst bs (p ++ [.lst top])
section
variable {w : World} {A : Around} {s : Shared} {G : Glo} {pm doc : Value} {c P : Addr} {h₀ : Heap} {L : Addr} {cd : Value} {m : Str → Option Value} {V : View} {t p : T} {vT vp vt va : Value}
/-- _law_thing(script[:16]) -/
theorem script_thing {p1 p2 p3 p4 p5 p6 : Pos} {k1 : Nat} {N : Addr} {oN : Obj} {ivs : Array Value} {epN : Nat} {ns : List Int} (hg : A.guards = some []) (hh : A.handled = none) (hd : A.depth ≤ 305) (hu : A.units ≤ 20) (X : LS w G pm doc c P h₀ L V s.heap m)
    (mN : m "script" = some (.ref N)) (hN : s.heap.get? N = some oN) (hNc : oN.cls = .type "list") (hNd : oN.data = .seq ivs epN) (hi : IntsAre ivs.toList ns) (hz : ivs.size ≤ 1000) :
    wpG (model pw w) A (eval (.Call (.Name "_law_thing" p1) [.Subscript (.Name "script" p2) (.Slice none (some (.Constant (.int 16) k1 p3)) none p4) p5] [] p6) (env31 G L cd))
      (fun v s' => Keeps s s' ∧ ∃ V', Ext V s.heap V' s'.heap ∧ Has V' (thing (ns.take 16)) v) (fun _ _ => False) s := by
  have hline : (1000 : Nat) ≤ sizeLine := by decide
  obtain ⟨pm', c', doc', dV, vs, dict, cvs, sl, qt, f1, _⟩ := X.W.fns (26, G.a26) (Glo.m26 _)
  refine g_Name1 rfl (wpG_of (gname X.W ⟨rfl, rfl, rfl⟩ rfl (lk_law_thing _ _) ?_))
  obtain ⟨o26, fd26, ho, hdd⟩ : ∃ o fdd, s.heap.get? G.a26 = some o ∧ o.data = .func fdd := ⟨_, _, f1, rfl⟩
  refine g_callWith_function (o := o26) (fd := fd26) (g_evalArgs (g_spliced_cons (wpG_of (wpAny_Subscript_list_slice (ld X.F mN ?_) (by intro _ _; rfl)))))
  refine evalPart_none_step (evalPart_some_step (wpAny_Constant_int ?_))
  refine ⟨N, ivs, none, some 16, rfl, ⟨_, hN, hNc, epN, hNd⟩, by omega, .none, .int 16 _, g_spliced_nil ?_⟩
  have k2 : ∀ b o, s.heap.get? b = some o → ((s.heap.push { cls := .type "slice", data := .fields #[.none, .int 16 s.toks, .none] }).push { cls := .type "list", data := .seq (slicePick ivs none (some 16) none) }).get? b = some o := fun b o e => Heap.get?_push_of_some _ (Heap.get?_push_of_some _ e)
  have hL : ((s.heap.push { cls := .type "slice", data := .fields #[.none, .int 16 s.toks, .none] }).push { cls := .type "list", data := .seq (slicePick ivs none (some 16) none) }).get? (s.heap.objs.size + 1) = some (listO (slicePick ivs none (some 16) none) 0) := by
    have e : s.heap.objs.size + 1 = (s.heap.push { cls := .type "slice", data := .fields #[.none, .int 16 s.toks, .none] }).objs.size := by rw [Heap.size_push]
    rw [e]
    exact Heap.get?_push_size _ rfl
  refine ⟨⟨k2 _ _ ho, hdd⟩, ?_⟩
  refine wpG_mono (thing_ok' hg hh (by omega) (by omega) (X.W.keeps k2) hL (ns := ns.take 16) ?_ (by rw [List.length_take]; omega) (V := V) fun b o e => k2 b o (X.hV b o e)) (fun v s' h => ?_) fun _ _ q => q
  · rw [pick_slice]
    exact hi.take 16
  · obtain ⟨⟨h', tk', rfl, hk⟩, V', hE, hT⟩ := h
    exact ⟨⟨h', tk', rfl, fun b o e => hk b o (k2 b o e)⟩, V', ⟨hE.le, hE.at', fun b o e => (hE.new b o e).imp id fun e' => none_of_le k2 e'⟩, hT⟩
/-- x[0] if len(x) == 1 else x -/
theorem e_pick {x : Str} {p1 p2 p3 p4 p5 p6 p7 p8 p9 q1 : Pos} {k1 k2 : Nat} {xs : List T} {vr : Value} (hl : (env31 G L cd).kindOf x = some .local) (hd0 : (x == ("__debug__" : Str)) = false) (hh : A.handled = none) (hd : A.depth ≤ 305) (hu : A.units ≤ 20) (X : LS w G pm doc c P h₀ L V s.heap m)
    (mx : m x = some vr) (H : Has V (.lst xs) vr) :
    wpAny (model pw w) A (eval (.IfExp (.Compare (.Call (.Name "len" p1) [.Name x p2] [] p3) [.Eq] [.Constant (.int 1) k1 p4] p5) (.Subscript (.Name x p6) (.Constant (.int 0) k2 p7) p8) (.Name x p9) q1) (env31 G L cd))
      (fun v s' => Keeps s s' ∧ Has V (pick (.lst xs)) v) (fun _ _ => False) s := by
  have H' := H
  unfold Has at H'
  obtain ⟨a, vs, ep, rfl, hVa, hz, hA⟩ := H'
  have ha := X.hV _ _ hVa
  refine IfExp_ (wpAny_isTrue_Compare1 (Call_Name1 (bname X.W ⟨rfl, rfl, rfl⟩ rfl (glo_len _ _) (blt_len _) ?_) rfl) (by rfl))
  refine callWith_builtin rfl (evalArgs_plain (spliced_cons (ld X.F mx (spliced_nil ?_) (by kernel_rfl) hl hd0)))
  refine mono_k (amax (len_list (h := s.heap) (g := s.gens) (d := s.drawn) (tk := s.toks) (os := s.os) (vs := vs) (a := a) (ep := ep) (by omega) ha) hh (by omega) (by omega)) fun h1 tk1 t' k1 => ?_
  refine wpAny_Constant_int (eq_int (wpAny_truthy_bool ?_))
  have F1 := X.F.after k1
  by_cases c1 : vs.size = 1
  · rw [show (((vs.size : Nat) : Int) == 1) = true by simp [c1], if_pos rfl]
    have hl1 := hA.length
    rw [Array.length_toList, c1] at hl1
    obtain ⟨x0, rfl⟩ := list1 hl1.symm
    obtain ⟨v0, hv0⟩ := list1 (l := vs.toList) hA.length
    rw [hv0] at hA
    unfold HasAll at hA
    refine Subscript_ (ld F1 mx (wpAny_Constant_int (item_listR (items := vs) (x := v0) ⟨_, k1 _ _ ha, rfl, ep, rfl⟩ (by decide) (by decide) ?_ ?_)) (by kernel_rfl) hl hd0)
    · show vs[0]? = some v0
      rw [← Array.getElem?_toList, hv0]; rfl
    · exact ⟨⟨h1, _, rfl, k1⟩, by unfold pick; exact hA.1⟩
  · rw [show (((vs.size : Nat) : Int) == 1) = false by simp; omega, if_neg (by simp)]
    refine ld F1 mx ?_ (by kernel_rfl) hl hd0
    refine ⟨⟨h1, _, rfl, k1⟩, ?_⟩
    have e : pick (.lst xs) = .lst xs := by
      unfold pick
      split
      · rename_i x0 hx
        cases hx
        have := hA.length
        rw [Array.length_toList] at this
        exact absurd this c1
      · rfl
    rw [e]; exact H
end
end Mine
end Lw8_part
section Lw9_part
open PySem PySem.W PySem.Calls PyProof.Rows PySem.SeqAt
set_option Elab.async false
set_option maxRecDepth 100000
set_option maxHeartbeats 4000000
namespace Mine
section
variable {w : World} {A : Around} {s : Shared} {G : Glo} {pm doc : Value} {c P : Addr}
theorem law_ok (hg : A.guards = some []) (hh : A.handled = none) (hfr : A.frames = some []) (hd : A.depth ≤ 304) (hu : A.units ≤ 10) (W : Wld w G s.heap.get?) (EF : EncF G pm doc c s.heap.get?) (ET : EncT c P s.heap)
    {N : Addr} {oN : Obj} {ivs : Array Value} {epN : Nat} {ns : List Int} (hN : s.heap.get? N = some oN) (hNc : oN.cls = .type "list") (hNd : oN.data = .seq ivs epN) (hi : IntsAre ivs.toList ns) (hz : ivs.size ≤ 1000) :
    wpG (model pw w) A (call (.ref G.a31) [.ref N]) (fun r s' => r = .bool true ∧ (∀ b o, b ≠ P → s.heap.get? b = some o → s'.heap.get? b = some o) ∧ EncT c P s'.heap ∧ s'.os = s.os ∧ (AllBare s.gens → AllBare s'.gens)) (fun _ _ => False) s := by
  refine g_call_fn (k := 31) (binds := [("script", .ref N)]) (by omega) W (Glo.m31 _) (by kernel_rfl) (fun pm cd doc => by kernel_rfl) (by kernel_rfl) fun h₁ cd F => ?_
  generalize hA : A.deeper (envOf (fd 31).name (fd 31).scope s.heap.objs.size G.a31 cd) = B
  have Bg : B.guards = some [] := by rw [← hA]; exact hg
  have Bh : B.handled = none := by rw [← hA]; exact hh
  have Bf : B.frames = some [env31 G s.heap.objs.size cd] := by rw [← hA]; exact Around.frames_deeper hfr
  have Bd : B.depth ≤ 305 := by rw [← hA]; show A.depth + 1 ≤ 305; omega
  have Bu : B.units ≤ 20 := by rw [← hA]; show A.units + 3 ≤ 20; omega
  clear hA
  obtain ⟨ps, hP⟩ := ET.table
  have hLn : s.heap.get? s.heap.objs.size = none := Heap.get?_none_of_le (by simp)
  have hPL : P ≠ s.heap.objs.size := Nat.ne_of_lt (Heap.lt_size hP)
  -- all but the table of encode_raw
  have h0 : ∀ b o, (hideAll s.heap [P]).get? b = some o → s.heap.get? b = some o := fun b o e => of_hideAll _ e
  have F0 : Fr (hideAll s.heap [P]) s.heap.objs.size h₁ (fun x => List.lookup x [(("script" : Str), Value.ref N)].reverse) := ⟨F.ns, fun b o e => F.keep b o (h0 b o e), by rw [hideAll_size]; exact Nat.le_refl _⟩
  have V0le : ∀ b o, (if b = P then none else s.heap.get? b) = some o → s.heap.get? b = some o := fun b o e => by
    split at e
    · cases e
    · exact e
  have X0 : LS w G pm doc c P (hideAll s.heap [P]) s.heap.objs.size (fun b => if b = P then none else s.heap.get? b) h₁ (fun x => List.lookup x [(("script" : Str), Value.ref N)].reverse) := by
    refine ⟨F0, hideAll_none _ (.head _), W.keepsC (fun b o hc e => ?_) ?_, fun b o e => F.keep b o (V0le b o e), ?_, if_pos rfl, EF.keepsC fun b o _ e => F.keep b o e, ET.at (fun o e => F.keep _ o e) (fun o e => F.keep _ o e)⟩
    · rw [if_neg (fun q => by rw [q, hP] at e; cases e; exact hc rfl)]
      exact e
    · rw [if_neg (fun q => by have h2 := W.stat; rw [q, hP] at h2; cases h2)]
    · rw [if_neg (Ne.symm hPL)]
      exact hLn
  have mN0 : (fun x => List.lookup x [(("script" : Str), Value.ref N)].reverse) "script" = some (.ref N) := rfl
  have hN1 := F.keep _ _ hN
  -- rows, other
  refine g_execs_cons (g_Assign_Name (wpG_mono (script_thing (s := { s with heap := h₁, toks := s.toks + 1 }) Bg Bh Bd Bu X0 mN0 hN1 hNc hNd hi hz) (fun vr s1 h1 => ?_) fun _ _ q => q) (by rfl))
  obtain ⟨⟨h1, tk1, rfl, k1⟩, V1, E1, R1⟩ := h1
  dsimp only at k1 E1 ⊢
  have X1 := LS.ext (s := { s with heap := h₁, toks := s.toks + 1 }) X0 k1 E1
  refine stK X1.F News.nil (fun h2 F2 _ k2 => ?_) (by rfl) (by rfl)
  dsimp only at k2 ⊢
  have X2 := LS.store (s := { s with heap := h1, toks := tk1 }) X1 F2 k2
  have hN2 : h2.get? N = some oN := k2 _ _ (fun q => by rw [q, hLn] at hN; cases hN) (k1 _ _ hN1)
  refine g_execs_cons (g_Assign_Name (wpG_mono (script_thing (s := { s with heap := h2, toks := tk1 + 1 }) Bg Bh Bd Bu X2 ((if_neg (by decide)).trans mN0) hN2 hNc hNd hi hz) (fun vo s3 h3 => ?_) fun _ _ q => q) (by rfl))
  obtain ⟨⟨h3, tk3, rfl, k3⟩, V3, E3, R3⟩ := h3
  dsimp only at k3 E3 ⊢
  have X3 := LS.ext (s := { s with heap := h2, toks := tk1 + 1 }) X2 k3 E3
  refine stK X3.F News.nil (fun h4 F4 _ k4 => ?_) (by rfl) (by rfl)
  dsimp only at k4 ⊢
  have X4 := LS.store (s := { s with heap := h3, toks := tk3 }) X3 F4 k4
  obtain ⟨xs, hxs⟩ := thFin_lst (thRun (ns.take 16)).2 (thRun (ns.take 16)).1
  have hth : thing (ns.take 16) = .lst xs := hxs
  have hok := thing_ok (ns.take 16) (by rw [List.length_take]; omega)
  rw [hth] at R1 R3 hok
  have hpk := pick_ok hok.1 hok.2
  have R1' := Has.mono E3.le _ _ R1
  refine wpG_of ?_
  -- thing, again
  refine wpAny_execs_cons (wpAny_Assign_Name (wpAny_mono (e_pick (s := { s with heap := h4, toks := tk3 + 1 }) (x := "rows") (by rfl) (by decide) Bh Bd Bu X4 ((if_neg (by decide)).trans (if_pos rfl)) R1') (fun vt s5 h5 => ?_) fun _ _ q => q) (by rfl))
  obtain ⟨⟨h5, tk5, rfl, k5⟩, Ht⟩ := h5
  dsimp only at k5 ⊢
  have X5 := LS.ext (s := { s with heap := h4, toks := tk3 + 1 }) X4 k5 (Ext.refl fun b o e => k5 b o (X4.hV b o e))
  refine stK X5.F News.nil (fun h6 F6 _ k6 => ?_) (by rfl) (by rfl)
  dsimp only at k6 ⊢
  have X6 := LS.store (s := { s with heap := h5, toks := tk5 }) X5 F6 k6
  refine wpAny_execs_cons (wpAny_Assign_Name (wpAny_mono (e_pick (s := { s with heap := h6, toks := tk5 + 1 }) (x := "other") (by rfl) (by decide) Bh Bd Bu X6 ((if_neg (by decide)).trans (if_pos rfl)) R3) (fun va s7 h7 => ?_) fun _ _ q => q) (by rfl))
  obtain ⟨⟨h7, tk7, rfl, k7⟩, Ha⟩ := h7
  dsimp only at k7 ⊢
  have X7 := LS.ext (s := { s with heap := h6, toks := tk5 + 1 }) X6 k7 (Ext.refl fun b o e => k7 b o (X6.hV b o e))
  refine stK X7.F News.nil (fun h8 F8 _ k8 => ?_) (by rfl) (by rfl)
  dsimp only at k8 ⊢
  have X8 := LS.store (s := { s with heap := h7, toks := tk7 }) X7 F8 k8
  generalize pick (.lst xs) = t at Ht Ha hpk
  have hht : t.ht ≤ 33 := Nat.le_trans (T.ht_nodes t) hpk.1
  -- plain
  have m8t : set1 (set1 (set1 (set1 (fun x => List.lookup x [(("script" : Str), Value.ref N)].reverse) "rows" vr) "other" vo) "thing" vt) "again" va "thing" = some vt := (if_neg (by decide)).trans (if_pos rfl)
  have m8a : set1 (set1 (set1 (set1 (fun x => List.lookup x [(("script" : Str), Value.ref N)].reverse) "rows" vr) "other" vo) "thing" vt) "again" va "again" = some va := if_pos rfl
  have W8 := X8.WV.keeps X8.hV
  refine wpAny_execs_cons (wpAny_Assign_Name (Call_Name1 (gname W8 ⟨rfl, rfl, rfl⟩ rfl (lk_law_plain _ _) ?_) rfl) (by rfl))
  refine callWith_g (k := 28) W8 (Glo.m28 _) (spliced_cons (ld X8.F m8t (spliced_nil ⟨fun _ _ _ e => e, ?_⟩)))
  refine wpAny_mono (at_le (plain_ok w G 33 t hht (by decide) _ V3 vt X8.hV X8.WV Ht) Bh (by omega) (by omega)) (fun vp s9 h9 => ?_) fun _ _ q => q
  obtain ⟨⟨h9, tk9, rfl, k9⟩, V9, E9, Hp⟩ := h9
  dsimp only at k9 E9 ⊢
  have X9 := LS.ext (s := { s with heap := h8, toks := tk7 + 1 }) X8 k9 E9
  have Ht9 := Has.mono E9.le _ _ Ht
  have Ha9 := Has.mono E9.le _ _ Ha
  refine stK X9.F News.nil (fun h10 F10 _ k10 => ?_) (by rfl) (by rfl)
  dsimp only at k10 ⊢
  have X10 := LS.store (s := { s with heap := h9, toks := tk9 }) X9 F10 k10
  generalize set1 (set1 (set1 (set1 (fun x => List.lookup x [(("script" : Str), Value.ref N)].reverse) "rows" vr) "other" vo) "thing" vt) "again" va = m8 at *
  have m10p : set1 m8 "plain" vp "plain" = some vp := if_pos rfl
  have m10t : set1 m8 "plain" vp "thing" = some vt := (if_neg (by decide)).trans m8t
  have m10a : set1 m8 "plain" vp "again" = some va := (if_neg (by decide)).trans m8a
  have W10 := X10.WV.keeps X10.hV
  -- serializable(thing) != (plain is not None)
  refine wpAny_execs_cons (wpAny_If (wpAny_isTrue_Compare1 (Call_Name1 (gname W10 ⟨rfl, rfl, rfl⟩ rfl (lk_serializable _ _) ?_) rfl) (by rfl)))
  refine callWith_g (k := 21) W10 (Glo.m21 _) (spliced_cons (ld X10.F m10t (spliced_nil ⟨fun _ _ _ e => e, ?_⟩)))
  refine mono_k0 (at_le (ser_ok w G 33 t hht (by decide) _ vt W10 (Has.mono X10.hV _ _ Ht9)) Bh (by omega) (by omega)) fun h11 tk11 k11 => ?_
  dsimp only at k11 ⊢
  have X11 := LS.ext (s := { s with heap := h10, toks := tk9 + 1 }) X10 k11 (Ext.refl fun b o e => k11 b o (X10.hV b o e))
  refine wpAny_Compare1 (ld X11.F m10p (wpAny_Constant_none (isnot_none Hp.notB ?_))) (by rfl)
  have hsn : t.ser = !isN vp := by
    unfold RP at Hp
    cases hp : t.plain with
    | none => rw [hp] at Hp; dsimp only at Hp; subst Hp; rw [plain_none t hp]; rfl
    | some p => rw [hp] at Hp; dsimp only at Hp; rw [(plain_of t p hpk.2 (by omega) hp).ser, Has.notN hp Hp]; rfl
  rw [hsn]
  refine RcNeAt.bool_bool _ _ _ _ _ _ (wpAny_truthy_bool ?_)
  rw [beq_self_eq_true, Bool.not_true, if_neg (by simp)]
  refine wpAny_execs_nil ?_
  refine wpAny_mono (tail1_ok (s := { s with heap := h11, toks := tk11 }) (pm := pm) (doc := doc) (c := c) (P := P) (h₀ := hideAll s.heap [P]) Bh Bf Bd Bu X11 hpk.1 hpk.2 m10p m10t m10a Hp Ht9 Ha9) (fun f s' h => ?_) fun _ _ q => q
  obtain ⟨rfl, r1, r2, r3, r4⟩ := h
  exact ⟨rfl, fun b o hb e => r1 b o (hideAll_get _ e (by simpa using hb)), r2, r3, r4⟩
end
end Mine
end Lw9_part
section Jn1_part
open PySem PySem.W PySem.Spec PySem.Calls PyProof.Rows
set_option Elab.async false
set_option maxRecDepth 100000
set_option maxHeartbeats 4000000
namespace Mine
theorem thread_ends_good {prog : Program} {w : World} {t : Sem Fin} {s : Shared} {R : Result → Shared → Prop} (hreg : s.asleep)
    (h : wpG (model prog w) callerA t (fun fin s' => ∃ f, fin = .done f ∧ (R (.ok f) s' ∧ leftWithCleanup s'.gens = false)) (fun e s' => R (.error e) s' ∧ leftWithCleanup s'.gens = false) s) :
    ∃ n r s' s'', runN (denote table) prog w n s ⟨t, .builtin "claim.caller" {}, default, []⟩ = .halted (outcomeOf r) s' ∧
      schedN (denote table) prog w n (.single s ⟨t, .builtin "claim.caller" {}, default, []⟩) = .halted (outcomeOf r) s' ∧ s'.forget = s''.forget ∧ R r s'' := by
  have h0 := h ⟨.builtin "claim.caller" {}, none, none, [], none⟩ default caller_in (fun x hx => nomatch hx) (by show Builtin.Bytes.decodersThatHold.contains "claim.caller" = false; decide +kernel)
  obtain ⟨n, r, s₁, s₂, hs, hn, hfo, hR⟩ := wp_halts_full (M := model prog w) (R := R) (t := t) (p := default) (s := s) hreg (Sem.wp_mono _ _ t (fun fin p' s' h' => by
    obtain ⟨f, rfl, hf⟩ := h'
    exact hf) (fun _ _ _ h' => h') default s h0)
  exact ⟨n, r, s₂, s₁, hn, hs, hfo, hR⟩
theorem callFrom_good {c : ClaimW} {tree : List Value → Sem Fin} {w : World} {s : Shared} {free : Addr → Prop} {gens : Prop} {kept : Heap → Prop} (hz : s.asleep) (hgens : s.gens = #[])
    (hspec : ∀ args, c.pre args = true → WData.layableAll args = true →
      ∀ ord : List DictEntry → List DictEntry, (∀ l, (ord l).Perm l) →
      ∃ vs s₁, layAllW c.records (classAt s.heap) w.params ord args s = some (vs, s₁) ∧
        wpG (model c.prog w) callerA (tree vs) (fun fin s' => ∃ f, fin = .done f ∧ (c.Ends s args vs s₁ (.ok f) s' ∧ s'.os = s.os ∧ AllBare s'.gens ∧ kept s'.heap))
          (fun e s' => c.Ends s args vs s₁ (.error e) s' ∧ s'.os = s.os ∧ AllBare s'.gens ∧ kept s'.heap) s₁) :
    c.CallFrom (fun vs => ⟨tree vs, .builtin "claim.caller" {}, default, []⟩) w free gens kept s := by
  intro args hpre hlay ord hord
  obtain ⟨vs, s₁, hlaid, hcode⟩ := hspec args hpre hlay ord hord
  have hal := layAllW_rest _ _ _ hlaid
  obtain ⟨k, r, s', s'', hrun, hsched, hfo, hcase, hos, hkp⟩ := thread_ends_good (prog := c.prog) (w := w) (t := tree vs) (s := s₁)
    (R := fun r s' => c.Ends s args vs s₁ r s' ∧ s'.os = s.os ∧ kept s'.heap)
    (Shared.asleep_of_life hal.2.2.2 hz)
    (wpG_mono hcode (by
      rintro fin s' ⟨f, e, h1, h2, h3, h4⟩
      exact ⟨f, e, ⟨h1, h2, h4⟩, leftWithCleanup_false_of_bare h3⟩) (by
      rintro e s' ⟨h1, h2, h3, h4⟩
      exact ⟨⟨h1, h2, h4⟩, leftWithCleanup_false_of_bare h3⟩))
  obtain ⟨eh, _, _, eo, _⟩ := Shared.forget_eq hfo
  have hcase := hcase.congr eh
  have hkp : kept s'.heap := by rw [eh]; exact hkp
  rw [← eo] at hos
  have hlife : s'.heap.life = s.heap.life := (runN_life _ _ _ hrun).trans hal.2.2.2
  refine ⟨vs, s₁, hlaid, k, _, s', hsched, ?_, (fun _ i x hx => by rw [hgens] at hx; simp at hx), hkp, by rw [hlife], Shared.rest_eq hos⟩
  rcases hcase with ⟨v, rfl, d1, d2, d3, d4, d5⟩ | ⟨e, ob, cls, rfl, d1, d2, d3, d4, d5⟩
  · exact .inl ⟨v, rfl, d1, d2, d3, fun b o y _ => d4 b o y, d5⟩
  · exact .inr ⟨e, ob, cls, rfl, d1, d2, d3, d4, fun b o y _ => d5 b o y⟩
theorem ints_read {R : WRecords} {cl : Str → Option Addr} {h : Heap} : ∀ {xs : List WData} {vs : List Value} {as : List Addr}, WShape.hasItems R xs .int = true → ReadsAllW R cl h vs xs as → ∃ ns, IntsAre vs ns ∧ vs.length = xs.length
  | [], vs, as, _, x => by cases x; exact ⟨[], .nil, rfl⟩
  | d :: ds, vs, as, hs, x => by
    have hs' : WShape.has R d .int = true ∧ WShape.hasItems R ds .int = true := by simpa [WShape.hasItems] using hs
    obtain ⟨i, rfl⟩ := hasW_int hs'.1
    cases x with
    | cons y z =>
      obtain ⟨ns, h1, h2⟩ := ints_read hs'.2 z
      cases y with
      | int i t => exact ⟨i :: ns, .cons i t h1, by simp [h2]⟩
end Mine
end Jn1_part
section Jn2_part
open PySem PySem.W PySem.Spec PySem.Calls PyProof.Rows
set_option Elab.async false
set_option maxRecDepth 100000
set_option maxHeartbeats 4000000
namespace Mine
theorem EndTop.wld2 {w : World} {os : OsState} {s : Shared} (T : EndTop w os s) : ∃ G, Wld w G s.heap.get? ∧ FnAt s.heap 11 G.a11 ∧ FnAt s.heap 31 G.a31 ∧ s.heap.get? 4 = some ⟨.type "module", some 0, .plain, #[]⟩ := by
  obtain ⟨b6, G, F, ⟨base, n, l, ln, T3, ⟨⟨vs, ep, t1, t2⟩, n3, n12⟩, hk, _, hb⟩⟩ := T.fin
  have up (b : Addr) (o : Obj) (h3 : b ≠ 3) (h12 : b ≠ 12) (e : b6.heap.get? b = some o) : s.heap.get? b = some o := T3.keep b o h3 h12 (hk b o h3 h12 e)
  refine ⟨G, ⟨⟨n, T3.dict⟩, T3.keys, T3.keep 0 _ (by decide) (by decide) hb, up 2 _ (by decide) (by decide) (F.at 0 rfl rfl), fun x hx => (T3.fns x hx).toR, ⟨vs, ep, T3.keep _ _ n3 n12 t1, t2⟩,
    up 24 _ (by decide) (by decide) (F.at 6 rfl rfl), up 23 _ (by decide) (by decide) (F.at 5 rfl rfl), up 25 _ (by decide) (by decide) (F.at 7 rfl rfl), up 46 _ (by decide) (by decide) (F.at 13 rfl rfl),
    up 45 _ (by decide) (by decide) (F.at 12 rfl rfl), up 44 _ (by decide) (by decide) (F.at 11 rfl rfl), up 43 _ (by decide) (by decide) (F.at 10 rfl rfl), up 42 _ (by decide) (by decide) (F.at 9 rfl rfl), up 31 _ (by decide) (by decide) (F.at 8 rfl rfl),
    up 88 _ (by decide) (by decide) (F.at 19 rfl rfl), up 87 _ (by decide) (by decide) (F.at 18 rfl rfl), up 86 _ (by decide) (by decide) (F.at 17 rfl rfl), up 85 _ (by decide) (by decide) (F.at 16 rfl rfl), up 84 _ (by decide) (by decide) (F.at 15 rfl rfl), up 73 _ (by decide) (by decide) (F.at 14 rfl rfl)⟩, T3.fns (11, G.a11) (Glo.m11 _), T3.fns (31, G.a31) (Glo.m31 _), T3.mod4⟩
theorem FnAt.bare {h : Heap} {k : Nat} {a : Addr} (F : FnAt h k a) (hd : (fd k).params.defaults.isEmpty = true) :
    ∃ pm c doc P, h.get? a = some { cls := .type "function", data := .func (docDef (fd k).name (fd k).params (fd k).body (fd k).scope pm (.ref c) doc) } ∧ h.CodeRec (.ref c) (fd k).name ∧ h.IsCode c P #[] ∧ h.TableAt c P #[] := by
  obtain ⟨pm, c, doc, dV, vs, P, h1, h2, h3, h4, h5, h6, _⟩ := F.ex
  have hvs : vs = [] := by
    rw [List.isEmpty_iff] at hd
    rw [hd] at h2
    cases vs with
    | nil => rfl
    | cons v r => exact h2.elim
  have hdV : dV = .none := by
    rcases h3 with ⟨_, e⟩ | z
    · exact e
    · exact absurd hvs z.1
  subst hdV
  exact ⟨pm, c, doc, P, h1, h4, h5, h6⟩
theorem law_pinned {w : World} {G : Glo} {h : Heap} (W : Wld w G h.get?) (F : FnAt h 31 G.a31) : isTheDefsW pw h "law" := by
  obtain ⟨pm, c, doc, P, h1, _⟩ := F.bare (by kernel_rfl)
  refine ⟨G.a31, _, _, (fd 31).params, (fd 31).body, (fd 31).scope, ?_, h1, rfl, by kernel_rfl, by kernel_rfl, by kernel_rfl, rfl, rfl, rfl, rfl, rfl, rfl, ⟨.inl ⟨by kernel_rfl, rfl⟩, [], by kernel_rfl, .inl ⟨rfl, rfl⟩⟩⟩
  obtain ⟨n, e3⟩ := W.glob
  unfold globalOf
  rw [show h.get? mainNs = _ from e3]
  have := lk_law G w
  unfold lookE at this
  rw [← this]
  show Option.map (fun x => x.val) (Array.find? _ (G.e31 w).toArray) = _
  rw [List.find?_toArray]
noncomputable abbrev rowC : ClaimW := PySem.Challenge.rw_aw0024_01.row.toRowW.claim
theorem law_args {args : List WData} (h : rowC.pre args = true) : ∃ xs, args = [.list xs] ∧ WShape.hasItems [] xs .int = true ∧ xs.length ≤ 63 := by
  obtain ⟨h1, h2⟩ := pre_splitW (r := PySem.Challenge.rw_aw0024_01.row.toRowW) h
  obtain ⟨d, r, rfl, h3, h4⟩ := hasAllW_cons h1
  obtain rfl := hasAllW_nil h4
  obtain ⟨xs, rfl, h5⟩ := hasW_list h3
  refine ⟨xs, rfl, h5, ?_⟩
  have e : WTm.holds [] (.and (.not (.lt (.lit (.int 63)) (.len (.arg 0)))) (.lit (.bool true))) { args := [.list xs] } = true := h2
  by_cases c : xs.length ≤ 63
  · exact c
  · exfalso
    have hl : PySem.W.less? (WData.int 63) (WData.int (xs.length : Int)) = some true := by
      simp only [PySem.W.less?, PySem.W.Num.less?]
      rw [decide_eq_true (by omega)]
    unfold WTm.holds at e
    simp [WTm.value, hl] at e
end Mine
end Jn2_part
section Jn3_part
open PySem PySem.W PySem.Spec PySem.Calls PyProof.Rows
set_option Elab.async false
set_option maxRecDepth 100000
set_option maxHeartbeats 8000000
namespace Mine
theorem law_call {w : World} {G : Glo} {s₀ s₁ : Shared} {args : List WData} {vs : List Value} {as : List Addr} (W : Wld w G s₁.heap.get?) (F : FnAt s₀.heap 11 G.a11) (m4 : s₀.heap.get? 4 = some ⟨.type "module", some 0, .plain, #[]⟩)
    (hpre : rowC.pre args = true) (L : Laid [] w s₀ s₁ args vs as) :
    wpG (model pw w) callerA (PySem.call (.ref G.a31) vs) (fun v s' => GoodWG rowC (classAt s₀.heap) (ExcName.means s₀.heap) args s₁ (.ok (.ret v)) s')
      (fun e s' => GoodWG rowC (classAt s₀.heap) (ExcName.means s₀.heap) args s₁ (.error e) s') s₁ := by
  obtain ⟨xs, rfl, hx, hl⟩ := law_args hpre
  obtain ⟨pm, c, doc, P, f1, f2, f3, f4⟩ := F.bare (by kernel_rfl)
  obtain ⟨N, oN, ivs, epN, ns, rfl, hN, hNc, hNd, hi, hz⟩ : ∃ N oN ivs epN ns, vs = [.ref N] ∧ s₁.heap.get? N = some oN ∧ oN.cls = .type "list" ∧ oN.data = .seq ivs epN ∧ IntsAre ivs.toList ns ∧ ivs.size ≤ 63 := by
    have r := L.reads
    cases r with
    | cons r1 r2 =>
      cases r2
      cases r1 with
      | list e1 e2 e3 e4 =>
        obtain ⟨ns, h1, h2⟩ := ints_read hx e4
        exact ⟨_, _, _, _, ns, rfl, e1, e2, e3, h1, by rw [← Array.length_toList, h2]; exact hl⟩
  have EF : EncF G pm doc c s₁.heap.get? := ⟨L.keeps _ _ f1, L.keeps _ _ m4⟩
  have ET0 : EncT c P s₀.heap := ⟨⟨#[], f3, f4, .inl rfl⟩, f2⟩
  have ET : EncT c P s₁.heap := ET0.at (fun o e => L.keeps _ o e) (fun o e => L.keeps _ o e)
  have hP0 : s₁.heap.get? P = some { cls := .none, data := .fields #[] } := L.keeps _ _ f4.2
  refine wpG_mono (law_ok (pm := pm) (doc := doc) (c := c) (P := P) rfl rfl rfl (by decide) (by decide) W EF ET hN hNc hNd hi (by omega)) (fun v s' h => ?_) fun _ _ q => q.elim
  obtain ⟨rfl, k, T', hos, hb⟩ := h
  obtain ⟨ps', hP'⟩ := T'.table
  have hpost : rowC.post [.list xs] (.bool true) [.list xs] = true := by
    show (WShape.has [] (.bool true) .bool && WTm.holds [] (.eq .res (.lit (.bool true))) { args := [.list xs], res := some (.bool true), after := [.list xs] }) = true
    unfold WTm.holds
    simp [WShape.has, WShape.arms, WTm.value, PySem.W.same]
  refine ⟨.inl ⟨_, .bool true, [], rfl, fun cls => rfl, .bool true, hpost, fun _ => ⟨List.nodup_nil, fun a ha => nomatch ha⟩⟩, ⟨fun b o e => ?_, fun b o e => ?_⟩, hos, hb ?_⟩
  · by_cases q : b = P
    · subst q
      rw [hP0] at e
      cases e
      exact .inr (.inl ⟨(f4.keeps L.keeps).isCodeTable, rfl, #[], ps', rfl, by simpa using hP'⟩)
    · exact .inl (k b o q e)
  · by_cases q : b = P
    · subst q; exact ⟨_, hP'⟩
    · exact ⟨o, k b o q e⟩
  · rw [L.gens]
    intro g hg
    simp at hg
end Mine
end Jn3_part
section Jn4_part
open PySem PySem.W PySem.Spec PySem.Calls PyProof.Rows
set_option Elab.async false
set_option maxRecDepth 100000
set_option maxHeartbeats 8000000
theorem Mine.said_fence : sreFenced PySem.Challenge.rw_aw0024_01.row.prog.main = true := by kernel_rfl
theorem Mine.said_looked : ((moduleNames PySem.Challenge.rw_aw0024_01.row.prog.main.body).isEmpty || lookedIntoSs (moduleNames PySem.Challenge.rw_aw0024_01.row.prog.main.body) PySem.Challenge.rw_aw0024_01.row.prog.main.body) = true := by kernel_rfl
theorem Mine.said_names : namesResolve PySem.Challenge.rw_aw0024_01.row.prog = true := by kernel_rfl
theorem Mine.said_row : PySem.Challenge.rw_aw0024_01.row.wellSaid = true := by
  unfold OpenRow.wellSaid OpenRow.partSaid looksOpen
  repeat' with_reducible refine look_both ?_ ?_
  · exact Mine.said_fence
  · exact Mine.said_looked
  · exact Mine.said_names
  all_goals kernel_rfl
theorem Mine.said_law : PySem.Challenge.rw_aw0024_01.wellSaid = true := by
  unfold OpenLaw.wellSaid
  repeat' with_reducible refine look_both ?_ ?_
  · exact Mine.said_row
  all_goals kernel_rfl
theorem PySem.Challenge.cw_aw0024_01_holds : PySem.Challenge.rw_aw0024_01.Holds := by
  refine holds_law Mine.said_law fun said => ?_
  have hw : PySem.Challenge.rw_aw0024_01.row.toRowW.promised := ⟨[.list [.int 3, .int 1]], by decide +kernel, by decide +kernel⟩
  have hb : Mine.pw.bare := ⟨rfl, rfl, rfl, rfl, rfl, by decide +kernel⟩
  have o1 : opensWell Mine.pw = true := by kernel_rfl
  refine ⟨said, hw, ⟨hb, o1, rfl⟩, hw.witness, fun w => ⟨Mine.boot_z w, fun s' hs' => ?_⟩⟩
  obtain ⟨s₀, hf, hg0, s, hT, hz, hgens, hE⟩ := Mine.behind w s' hs'
  obtain ⟨G, W, F11, F31, m4⟩ := Mine.EndTop.wld2 hE
  refine ⟨s₀, hf, hg0, s, hT, fun n hn => ?_, fun x hx => (List.not_mem_nil (show x ∈ ([] : WRecords) from hx)).elim, fun x hx => (List.not_mem_nil (show x ∈ ([] : WRecords) from hx)).elim, ?_⟩
  · have this : n = ("law" : PySem.Str) := List.mem_singleton.mp (show n ∈ [("law" : PySem.Str)] from hn)
    subst this
    exact Mine.law_pinned W F31
  · refine Mine.callFrom_good (c := Mine.rowC) hz hgens fun args hpre hlay ord hord => ?_
    obtain ⟨⟨vs, s₁⟩, hlaid⟩ := Option.isSome_iff_exists.mp (layAllW_isSome (R := []) (cl := classAt s.heap) (P := w.params) (ord := ord) (fun c hc => absurd hc (by simp [WRecords.fields?])) args PySem.Challenge.rw_aw0024_01.row.args s (pre_splitW (r := PySem.Challenge.rw_aw0024_01.row.toRowW) hpre).1)
    have keeps := layAllW_keeps _ _ _ hlaid
    have hal := layAllW_rest _ _ _ hlaid
    obtain ⟨as, hrd, hin, hold⟩ := reads_layAllW hord _ _ _ hlaid hlay s₁.heap (fun _ _ e => e)
    have L : Laid [] w s s₁ args vs as := ⟨⟨ord, hord, hlaid⟩, hrd, hin, hold, keeps, hal.1.trans hgens, hal.2.2.1⟩
    have W₁ := W.keeps keeps
    refine ⟨vs, s₁, hlaid, ?_⟩
    refine Mine.wpG_bind (Mine.wpG_of (wpAny_nsGet W₁.mg ?_))
    have hm : Mine.lookE PySem.Challenge.rw_aw0024_01.row.name (G.e31 w) = some (.ref G.a31) := Mine.lk_law G w
    rw [hm]
    dsimp only
    have hi := ident_freeW (r := PySem.Challenge.rw_aw0024_01.row.toRowW) (by rfl) (by rfl) (by rfl)
    refine Mine.wpG_bind (Mine.wpG_mono (Mine.law_call W₁ F11 m4 hpre L) (fun v s2 g => ?_) fun e s2 g => ?_)
    · have z := g.laid (c := Mine.rowC) rfl rfl hi L
      exact Mine.wpG_pure ⟨_, rfl, z.1, z.2.1, z.2.2, fun q => Bool.noConfusion (show false = true from q)⟩
    · have z := g.laid (c := Mine.rowC) rfl rfl hi L
      exact ⟨z.1, z.2.1, z.2.2, fun q => Bool.noConfusion (show false = true from q)⟩
end Jn4_part
