import PyProof.Rows.All
import Wide.All
import OpenK.AllK
import Wide.FinOn
import Lean
import PySem.Challenge.RW_ux0031_01
set_option Elab.async false
set_option compiler.extract_closed false
section
namespace Mine
section
open PySem PySem.W PyProof.Rows
noncomputable abbrev EvTy := (α : Type) → Ctx → Sem α → Pos → SharedT → Option (Except Value α × Pos × SharedT)
noncomputable def evLoop (den : Code → Sem Fin) (ih : EvTy) : Nat → Ctx → Sem Fin → Pos → SharedT → Option (Result × SharedT)
  | 0, _, _, _, _ => none
  | m + 1, Γ, t, p, s => match ih Fin Γ t p s with
    | some x => match x.1 with
      | .error e => some (.error e, x.2.2)
      | .ok fin => match fin with
        | .done f => some (.ok f, x.2.2)
        | .again c => match c.quiet with
          | true => evLoop den ih m (Γ.goto c) (den c) x.2.1 x.2.2
          | false => none
    | none => none
/-- a big-step evaluator of trees over the tree-shaped heap -/
noncomputable def evStep (den : Code → Sem Fin) (prog : Program) (P : Params) (ih : EvTy) : EvTy := fun α Γ t p s => match t with
    | .pure a => some (.ok a, p, s)
    | .raise e => some (.error e, p, s)
    | .rule _ k => ih α Γ (k ()) p s
    | .at p' k => ih α Γ (k ()) p' s
    | .load a _ k => match Nat.blt a s.n with
      | true => match s.tree.get a with
        | some o => match alive o with
          | some o' => ih α Γ (k o') p s
          | none => none
        | none => none
      | false => none
    | .update a _ f k => match Nat.blt a s.n with
      | true => match s.tree.get a with
        | some o => match alive o with
          | some _ => ih α Γ (k ()) p ⟨s.tree.set a f, s.n, s.life, s.gens, s.drawn, s.toks, s.os⟩
          | none => none
        | none => none
      | false => none
    | .loadIfAlive a k => match Nat.blt a s.n with
      | true => match s.tree.get a with
        | some o => ih α Γ (k (alive o)) p s
        | none => none
      | false => ih α Γ (k none) p s
    | .point _ k => ih α Γ (k ()) p s
    | .alloc o k => match ((s.tree.ins s.n o).get s.n).isSome with
      | true => ih α Γ (k s.n) p ⟨s.tree.ins s.n o, s.n + 1, s.life, s.gens, s.drawn, s.toks, s.os⟩
      | false => none
    | .fresh k => ih α Γ (k s.toks) p ⟨s.tree, s.n, s.life, s.gens, s.drawn, s.toks + 1, s.os⟩
    | .ask k => ih α Γ (k ⟨prog, P⟩) p s
    | .call c h _ _ k => match evLoop den ih 100000 (Γ.enter c h p) (den c) p s with
      | some x => ih α Γ (k x.1) p x.2
      | none => none
    | .handled own k => ih α Γ (k (if own then Γ.own else Γ.handled)) p s
    | .stack k => ih α Γ (k ((Γ.code, p) :: Γ.below)) p s
    | .thread k => ih α Γ (k 0) p s
    | .newGen .. | .genState .. | .resume .. | .unsupported _ | .finish _ | .register .. | .choose .. | .os .. | .yield .. | .fork .. | .await .. => none
noncomputable def ev (den : Code → Sem Fin) (prog : Program) (P : Params) : Nat → EvTy
  | 0 => fun _ _ _ _ _ => none
  | n + 1 => evStep den prog P (ev den prog P n)
noncomputable def EvEnd {α : Type} (Q : α → Pos → Shared → Prop) (E : Value → Pos → Shared → Prop) (x : Except Value α × Pos × SharedT) : Prop := match x.1 with
  | .ok a => Q a x.2.1 x.2.2.abs
  | .error e => E e x.2.1 x.2.2.abs
noncomputable def EvOk (M : Model) (f : EvTy) : Prop := ∀ (α : Type) (Γ : Ctx) (t : Sem α) (p : Pos) (s : SharedT) (x : Except Value α × Pos × SharedT),
    f α Γ t p s = some x → ∀ (Q : α → Pos → Shared → Prop) (E : Value → Pos → Shared → Prop), EvEnd Q E x → Sem.wp M Γ t Q E p s.abs
theorem evLoop_sound {M : Model} {ih : EvTy} (hi : EvOk M ih) : ∀ (m : Nat) (Γ : Ctx) (t : Sem Fin) (p : Pos) (s : SharedT) (r : Result) (s' : SharedT),
    evLoop M.den ih m Γ t p s = some (r, s') → ∀ R : Result → Shared → Prop, R r s'.abs → Sem.wp M Γ t (Sem.finPost M Γ R) (fun e _ s' => R (.error e) s') p s.abs
  | 0, _, _, _, _, _, _, h => by simp [evLoop] at h
  | m + 1, Γ, t, p, s, r, s', h => by
    intro R hR
    unfold evLoop at h
    split at h
    · rename_i x hx
      refine hi _ _ _ _ _ _ hx _ _ ?_
      obtain ⟨x1, x2, x3⟩ := x
      unfold EvEnd
      cases x1 with
      | error e => simp only [Option.some.injEq, Prod.mk.injEq] at h; obtain ⟨rfl, rfl⟩ := h; exact hR
      | ok fin => cases fin with
        | done f => simp only [Option.some.injEq, Prod.mk.injEq] at h; obtain ⟨rfl, rfl⟩ := h; exact hR
        | again c =>
          simp only at h
          split at h
          · rename_i hq
            exact ⟨hq, (wpCode_iff_wp M _ _ _ _).mpr (evLoop_sound hi m _ _ _ _ _ _ h R hR)⟩
          · cases h
    · cases h
theorem evStep_sound {M : Model} {f : EvTy} (hi : EvOk M f) : EvOk M (evStep M.den M.prog M.w.params f) := by
    intro α Γ t p s x h Q E hq
    have ih := hi α Γ
    cases t with
    | pure a => simp only [evStep, Option.some.injEq] at h; subst h; exact hq
    | raise e => simp only [evStep, Option.some.injEq] at h; subst h; exact hq
    | rule _ k => exact ih _ _ _ _ h Q E hq
    | «at» p₁ k => exact ih _ _ _ _ h Q E hq
    | point _ k => exact ih _ _ _ _ h Q E hq
    | ask k => exact ih _ _ _ _ h Q E hq
    | handled own k => exact ih _ _ _ _ h Q E hq
    | stack k => exact ih _ _ _ _ h Q E hq
    | thread k => exact ih _ _ _ _ h Q E hq
    | fresh k => exact ih _ _ _ _ h Q E hq
    | load a q k =>
      simp only [evStep] at h
      split at h
      · rename_i hb
        split at h
        · rename_i o ho
          split at h
          · rename_i o' hal
            refine ⟨o', ?_, ih _ _ _ _ h Q E hq⟩
            exact (abs_get (X.blt_true hb) ho).trans hal
          · cases h
        · cases h
      · cases h
    | update a q f k =>
      simp only [evStep] at h
      split at h
      · rename_i hb
        split at h
        · rename_i o ho
          split at h
          · rename_i o' hal
            have e := (abs_get (life := s.life) (X.blt_true hb) ho).trans hal
            refine ⟨?_, ?_⟩
            · show ((absHeap s.tree s.n s.life).get? a).isSome = true
              rw [e]; rfl
            · have := ih _ _ _ _ h Q E hq
              have e2 := absHeap_set (n := s.n) (life := s.life) (f := f) ho
              simp only [SharedT.abs] at this ⊢
              rw [e2] at this
              exact this
          · cases h
        · cases h
      · cases h
    | loadIfAlive a k =>
      simp only [evStep] at h
      split at h
      · rename_i hb
        split at h
        · rename_i o ho
          have := ih _ _ _ _ h Q E hq
          have e := abs_get (life := s.life) (X.blt_true hb) ho
          show Sem.wp M Γ (k ((absHeap s.tree s.n s.life).get? a)) Q E p s.abs
          rw [e]; exact this
        · cases h
      · rename_i hb
        have := ih _ _ _ _ h Q E hq
        have e := abs_get_none (t := s.tree) (life := s.life) (Nat.not_lt.mpr (X.blt_false hb))
        show Sem.wp M Γ (k ((absHeap s.tree s.n s.life).get? a)) Q E p s.abs
        rw [e]; exact this
    | alloc o k =>
      simp only [evStep] at h
      split at h
      · rename_i hg
        have := ih _ _ _ _ h Q E hq
        have e := absHeap_ins (life := s.life) hg
        have e2 := absHeap_size s.tree s.n s.life
        simp only [SharedT.abs] at this ⊢
        rw [e] at this
        show Sem.wp M Γ (k (absHeap s.tree s.n s.life).objs.size) Q E p _
        rw [e2]
        exact this
      · cases h
    | call c hd g l k =>
      simp only [evStep] at h
      rw [Sem.wp_call]
      refine (wpCode_iff_wp M _ _ _ _).mpr ?_
      show Sem.wp M (Γ.enter c hd p) (M.den c) _ _ p s.abs
      split at h
      · rename_i x₁ h₁
        exact evLoop_sound hi _ _ _ _ _ _ _ h₁ _ (ih _ _ _ _ h Q E hq)
      · cases h
    | newGen | genState | resume | unsupported | finish | register | choose | os | «yield» | fork | await => simp [evStep] at h
theorem ev_sound {M : Model} : ∀ n, EvOk M (ev M.den M.prog M.w.params n)
  | 0 => fun _ _ _ _ _ _ h => by simp [ev] at h
  | n + 1 => evStep_sound (ev_sound n)
end
end Mine
end
section
namespace Mine
section
open PySem PySem.W PyProof.Rows
set_option linter.all false
set_option maxRecDepth 100000
noncomputable section
noncomputable abbrev pw : Program := PySem.Challenge.pw_ux0031_01
noncomputable def defOfAt (i : Nat) : Arguments × List Stmt × Scope := match PySem.Challenge.pw_ux0031_01.main.body[i]? with
  | some (.FunctionDef _ a b _ _ _ sc _ _ _) => (a, b, sc)
  | _ => default
@[reducible] noncomputable def fd_insort_right : { x : Arguments × List Stmt × Scope // x = defOfAt 1 } := by
  refine ⟨?x, ?e⟩
  rotate_left
  · conv => rhs; whnf
@[reducible] noncomputable def fd_bisect_right : { x : Arguments × List Stmt × Scope // x = defOfAt 2 } := by
  refine ⟨?x, ?e⟩
  rotate_left
  · conv => rhs; whnf
@[reducible] noncomputable def fd_bisect_left : { x : Arguments × List Stmt × Scope // x = defOfAt 3 } := by
  refine ⟨?x, ?e⟩
  rotate_left
  · conv => rhs; whnf
@[reducible] noncomputable def fd_parse229 : { x : Arguments × List Stmt × Scope // x = defOfAt 8 } := by
  refine ⟨?x, ?e⟩
  rotate_left
  · conv => rhs; whnf
@[reducible] noncomputable def fd_in_table_b1 : { x : Arguments × List Stmt × Scope // x = defOfAt 11 } := by
  refine ⟨?x, ?e⟩
  rotate_left
  · conv => rhs; whnf
@[reducible] noncomputable def fd_map_table_b3 : { x : Arguments × List Stmt × Scope // x = defOfAt 13 } := by
  refine ⟨?x, ?e⟩
  rotate_left
  · conv => rhs; whnf
@[reducible] noncomputable def fd_law_unseen : { x : Arguments × List Stmt × Scope // x = defOfAt 15 } := by
  refine ⟨?x, ?e⟩
  rotate_left
  · conv => rhs; whnf
@[reducible] noncomputable def fd_law_reply : { x : Arguments × List Stmt × Scope // x = defOfAt 16 } := by
  refine ⟨?x, ?e⟩
  rotate_left
  · conv => rhs; whnf
@[reducible] noncomputable def fd_law_prepared : { x : Arguments × List Stmt × Scope // x = defOfAt 17 } := by
  refine ⟨?x, ?e⟩
  rotate_left
  · conv => rhs; whnf
@[reducible] noncomputable def fd_law_asked : { x : Arguments × List Stmt × Scope // x = defOfAt 18 } := by
  refine ⟨?x, ?e⟩
  rotate_left
  · conv => rhs; whnf
@[reducible] noncomputable def fd_law : { x : Arguments × List Stmt × Scope // x = defOfAt 19 } := by
  refine ⟨?x, ?e⟩
  rotate_left
  · conv => rhs; whnf
/-- the table's rows, as the text has them -/
noncomputable def b3 : List (Int × Str) := match (PySem.Challenge.pw_ux0031_01.main.body[12]? : Option Stmt) with
  | some (.Assign _ (.Dict ks vs _) _) => (ks.zip vs).filterMap fun x => match x with
    | (some (.Constant (.int i) _ _), .Constant (.str v) _ _) => some (i, v)
    | _ => none
  | _ => []
noncomputable def ents : Nat → List (Int × Str) → List DictEntry
  | _, [] => []
  | t, x :: r => ⟨hashInt x.1, .int x.1 t, .str x.2 (t + 1)⟩ :: ents (t + 3) r
noncomputable def entsS : Nat → List (Int × Str) → List DictEntry
  | _, [] => []
  | t, x :: r => ⟨hashInt x.1, .int x.1 t, .str x.2 (t + 1)⟩ :: entsS (t + 2) r
noncomputable def b3all : List DictEntry := ents 366 (b3.take 646) ++ entsS 2304 (b3.drop 646)
noncomputable def dictObj (es : List DictEntry) (n : Nat) : Obj := ⟨.type "dict", none, .dict es.toArray n, #[]⟩
noncomputable def b3dict (_ : Params) : Obj := dictObj b3all 650
noncomputable def b3sub (j : Nat) : Obj := match j with
  | 38 => dictObj (entsS 2304 (b3.drop 646)) 4
  | j => dictObj (ents (366 + 51 * j) ((b3.drop (17 * j)).take 17)) 17
noncomputable def o2A (P : Params) : Obj := ⟨.none, none, (.dict (List.toArray []) 0), #[]⟩
noncomputable def o3A (P : Params) : Obj := ⟨(.type "dict"), none, (.dict (List.toArray [⟨PyData.keyHash P (Str.ofString "__name__"), (.str (Str.ofString "__name__") 165), (.str (Str.ofString "__main__") 164)⟩, ⟨PyData.keyHash P (Str.ofString "__doc__"), (.str (Str.ofString "__doc__") 166), .none⟩, ⟨PyData.keyHash P (Str.ofString "__package__"), (.str (Str.ofString "__package__") 167), .none⟩, ⟨PyData.keyHash P (Str.ofString "__loader__"), (.str (Str.ofString "__loader__") 168), (.builtin "__main__.__loader__#opaque")⟩, ⟨PyData.keyHash P (Str.ofString "__spec__"), (.str (Str.ofString "__spec__") 169), .none⟩, ⟨PyData.keyHash P (Str.ofString "__annotations__"), (.str (Str.ofString "__annotations__") 170), (.ref 6)⟩, ⟨PyData.keyHash P (Str.ofString "__builtins__"), (.str (Str.ofString "__builtins__") 171), (.ref 4)⟩, ⟨PyData.keyHash P (Str.ofString "__file__"), (.str (Str.ofString "__file__") 173), (.str (Str.ofString "/claim/cut.py") 172)⟩, ⟨PyData.keyHash P (Str.ofString "__cached__"), (.str (Str.ofString "__cached__") 174), .none⟩]) 9), #[]⟩
noncomputable def o11A (P : Params) : Obj := ⟨(.type "tuple"), none, (.seq #[] 0), #[]⟩
noncomputable def o12A (P : Params) : Obj := ⟨.none, none, (.fields #[]), #[]⟩
noncomputable def o13A (P : Params) : Obj := ⟨(.type "code"), none, (.fields #[(.str (Str.ofString "<module>") 182), (.str (Str.ofString "<module>") 183), (.str (Str.ofString "/claim/cut.py") 184), (.int 1 0), (.int 0 0), (.int 0 0), (.int 0 0), (.int 0 0), (.ref 11), (.bool false), (.int 181 0), (.ref 12), .none, .none, .none, .none, (.int 185 0), (.int 1 0), (.str (Str.ofString "/claim/cut.py") 186)]), #[]⟩
noncomputable def o14A (P : Params) : Obj := ⟨(.type "frame"), none, .plain, #[(some (.ref 13)), (some (.ref 3)), (some (.ref 3)), none, (some (.str (Str.ofString "__main__") 164)), none, (some (.ref 0))]⟩
noncomputable def o2B (P : Params) : Obj := ⟨.none, none, (.dict (List.toArray [⟨PyData.keyHash P (Str.ofString "type.__subclasses__.Exception.0"), (.str (Str.ofString "type.__subclasses__.Exception.0") 248), (.int 51 0)⟩, ⟨PyData.keyHash P (Str.ofString "type.__subclasses__.Exception.n"), (.str (Str.ofString "type.__subclasses__.Exception.n") 249), (.int 1 0)⟩]) 2), #[]⟩
noncomputable def o3B (P : Params) : Obj := ⟨(.type "dict"), none, (.dict (List.toArray [⟨PyData.keyHash P (Str.ofString "__name__"), (.str (Str.ofString "__name__") 165), (.str (Str.ofString "cpy313.stringprep") 297)⟩, ⟨PyData.keyHash P (Str.ofString "__doc__"), (.str (Str.ofString "__doc__") 166), .none⟩, ⟨PyData.keyHash P (Str.ofString "__package__"), (.str (Str.ofString "__package__") 167), .none⟩, ⟨PyData.keyHash P (Str.ofString "__loader__"), (.str (Str.ofString "__loader__") 168), (.builtin "__main__.__loader__#opaque")⟩, ⟨PyData.keyHash P (Str.ofString "__spec__"), (.str (Str.ofString "__spec__") 169), .none⟩, ⟨PyData.keyHash P (Str.ofString "__annotations__"), (.str (Str.ofString "__annotations__") 170), (.ref 6)⟩, ⟨PyData.keyHash P (Str.ofString "__builtins__"), (.str (Str.ofString "__builtins__") 171), (.ref 4)⟩, ⟨PyData.keyHash P (Str.ofString "__file__"), (.str (Str.ofString "__file__") 173), (.str (Str.ofString "/claim/cut.py") 172)⟩, ⟨PyData.keyHash P (Str.ofString "__cached__"), (.str (Str.ofString "__cached__") 174), .none⟩, ⟨PyData.keyHash P (Str.ofString "insort_right"), (.str (Str.ofString "insort_right") 201), (.ref 23)⟩, ⟨PyData.keyHash P (Str.ofString "bisect_right"), (.str (Str.ofString "bisect_right") 215), (.ref 32)⟩, ⟨PyData.keyHash P (Str.ofString "bisect_left"), (.str (Str.ofString "bisect_left") 229), (.ref 41)⟩, ⟨PyData.keyHash P (Str.ofString "Error"), (.str (Str.ofString "Error") 251), (.ref 51)⟩, ⟨PyData.keyHash P (Str.ofString "error_reply"), (.str (Str.ofString "error_reply") 267), (.ref 64)⟩, ⟨PyData.keyHash P (Str.ofString "error_proto"), (.str (Str.ofString "error_proto") 283), (.ref 76)⟩, ⟨PyData.keyHash P (Str.ofString "parse229"), (.str (Str.ofString "parse229") 296), (.ref 85)⟩]) 16), #[]⟩
noncomputable def o12B (P : Params) : Obj := ⟨.none, none, (.fields #[(.int 2 0), (.int 0 0), (.ref 22), (.int 8 0), (.int 0 0), (.ref 31), (.int 28 0), (.int 0 0), (.ref 40), (.int 49 0), (.int 0 0), (.ref 47), (.int 51 0), (.int 0 0), (.ref 60), (.int 53 0), (.int 0 0), (.ref 72), (.int 55 0), (.int 0 0), (.ref 84)]), #[]⟩
noncomputable def o15 (P : Params) : Obj := ⟨(.type "tuple"), none, (.seq #[(.int 0 189), .none] 0), #[]⟩
noncomputable def o16 (P : Params) : Obj := ⟨(.type "dict"), none, (.dict (List.toArray [⟨PyData.keyHash P (Str.ofString "key"), (.str (Str.ofString "key") 190), .none⟩]) 1), #[]⟩
noncomputable def o17 (P : Params) : Obj := ⟨(.type "tuple"), none, (.seq #[] 0), #[]⟩
noncomputable def o18 (P : Params) : Obj := ⟨.none, none, (.fields #[]), #[]⟩
noncomputable def o19 (P : Params) : Obj := ⟨(.type "tuple"), none, (.seq #[(.str (Str.ofString "a") 194), (.str (Str.ofString "x") 195), (.str (Str.ofString "lo") 196), (.str (Str.ofString "hi") 197), (.str (Str.ofString "key") 198)] 0), #[]⟩
noncomputable def o20 (P : Params) : Obj := ⟨(.type "tuple"), none, (.seq #[] 0), #[]⟩
noncomputable def o21 (P : Params) : Obj := ⟨.none, none, (.func ⟨(Str.ofString "insort_right"), (Str.ofString "insort_right"), fd_insort_right.1.1, .stmts fd_insort_right.1.2.1, fd_insort_right.1.2.2, 0, [], .none, .none, .none, .none, none, .none, .none, 0⟩), #[]⟩
noncomputable def o22 (P : Params) : Obj := ⟨(.type "code"), none, (.fields #[(.str (Str.ofString "insort_right") 191), (.str (Str.ofString "insort_right") 192), (.str (Str.ofString "/claim/cut.py") 193), (.int 2 0), (.int 4 0), (.int 0 0), (.int 1 0), (.int 3 0), (.ref 17), (.bool true), (.int 181 0), (.ref 18), .none, (.ref 19), (.ref 20), (.ref 21), (.int 199 0), (.int 2 0), (.str (Str.ofString "/claim/cut.py") 200)]), #[]⟩
noncomputable def o23 (P : Params) : Obj := ⟨(.type "function"), none, (.func ⟨(Str.ofString "insort_right"), (Str.ofString "insort_right"), fd_insort_right.1.1, .stmts fd_insort_right.1.2.1, fd_insort_right.1.2.2, 3, [], (.ref 15), (.ref 16), .none, (.str (Str.ofString "cpy313.bisect") 187), none, (.ref 22), .none, 0⟩), #[]⟩
noncomputable def o24 (P : Params) : Obj := ⟨(.type "tuple"), none, (.seq #[(.int 0 202), .none] 0), #[]⟩
noncomputable def o25 (P : Params) : Obj := ⟨(.type "dict"), none, (.dict (List.toArray [⟨PyData.keyHash P (Str.ofString "key"), (.str (Str.ofString "key") 203), .none⟩]) 1), #[]⟩
noncomputable def o26 (P : Params) : Obj := ⟨(.type "tuple"), none, (.seq #[] 0), #[]⟩
noncomputable def o27 (P : Params) : Obj := ⟨.none, none, (.fields #[]), #[]⟩
noncomputable def o28 (P : Params) : Obj := ⟨(.type "tuple"), none, (.seq #[(.str (Str.ofString "a") 207), (.str (Str.ofString "x") 208), (.str (Str.ofString "lo") 209), (.str (Str.ofString "hi") 210), (.str (Str.ofString "key") 211), (.str (Str.ofString "mid") 212)] 0), #[]⟩
noncomputable def o29 (P : Params) : Obj := ⟨(.type "tuple"), none, (.seq #[] 0), #[]⟩
noncomputable def o30 (P : Params) : Obj := ⟨.none, none, (.func ⟨(Str.ofString "bisect_right"), (Str.ofString "bisect_right"), fd_bisect_right.1.1, .stmts fd_bisect_right.1.2.1, fd_bisect_right.1.2.2, 0, [], .none, .none, .none, .none, none, .none, .none, 0⟩), #[]⟩
noncomputable def o31 (P : Params) : Obj := ⟨(.type "code"), none, (.fields #[(.str (Str.ofString "bisect_right") 204), (.str (Str.ofString "bisect_right") 205), (.str (Str.ofString "/claim/cut.py") 206), (.int 8 0), (.int 4 0), (.int 0 0), (.int 1 0), (.int 3 0), (.ref 26), (.bool true), (.int 181 0), (.ref 27), .none, (.ref 28), (.ref 29), (.ref 30), (.int 213 0), (.int 8 0), (.str (Str.ofString "/claim/cut.py") 214)]), #[]⟩
noncomputable def o32 (P : Params) : Obj := ⟨(.type "function"), none, (.func ⟨(Str.ofString "bisect_right"), (Str.ofString "bisect_right"), fd_bisect_right.1.1, .stmts fd_bisect_right.1.2.1, fd_bisect_right.1.2.2, 3, [], (.ref 24), (.ref 25), .none, (.str (Str.ofString "cpy313.bisect") 187), none, (.ref 31), .none, 0⟩), #[]⟩
noncomputable def o33 (P : Params) : Obj := ⟨(.type "tuple"), none, (.seq #[(.int 0 216), .none] 0), #[]⟩
noncomputable def o34 (P : Params) : Obj := ⟨(.type "dict"), none, (.dict (List.toArray [⟨PyData.keyHash P (Str.ofString "key"), (.str (Str.ofString "key") 217), .none⟩]) 1), #[]⟩
noncomputable def o35 (P : Params) : Obj := ⟨(.type "tuple"), none, (.seq #[] 0), #[]⟩
noncomputable def o36 (P : Params) : Obj := ⟨.none, none, (.fields #[]), #[]⟩
noncomputable def o37 (P : Params) : Obj := ⟨(.type "tuple"), none, (.seq #[(.str (Str.ofString "a") 221), (.str (Str.ofString "x") 222), (.str (Str.ofString "lo") 223), (.str (Str.ofString "hi") 224), (.str (Str.ofString "key") 225), (.str (Str.ofString "mid") 226)] 0), #[]⟩
noncomputable def o38 (P : Params) : Obj := ⟨(.type "tuple"), none, (.seq #[] 0), #[]⟩
noncomputable def o39 (P : Params) : Obj := ⟨.none, none, (.func ⟨(Str.ofString "bisect_left"), (Str.ofString "bisect_left"), fd_bisect_left.1.1, .stmts fd_bisect_left.1.2.1, fd_bisect_left.1.2.2, 0, [], .none, .none, .none, .none, none, .none, .none, 0⟩), #[]⟩
noncomputable def o40 (P : Params) : Obj := ⟨(.type "code"), none, (.fields #[(.str (Str.ofString "bisect_left") 218), (.str (Str.ofString "bisect_left") 219), (.str (Str.ofString "/claim/cut.py") 220), (.int 28 0), (.int 4 0), (.int 0 0), (.int 1 0), (.int 3 0), (.ref 35), (.bool true), (.int 181 0), (.ref 36), .none, (.ref 37), (.ref 38), (.ref 39), (.int 227 0), (.int 28 0), (.str (Str.ofString "/claim/cut.py") 228)]), #[]⟩
noncomputable def o41 (P : Params) : Obj := ⟨(.type "function"), none, (.func ⟨(Str.ofString "bisect_left"), (Str.ofString "bisect_left"), fd_bisect_left.1.1, .stmts fd_bisect_left.1.2.1, fd_bisect_left.1.2.2, 3, [], (.ref 33), (.ref 34), .none, (.str (Str.ofString "cpy313.bisect") 187), none, (.ref 40), .none, 0⟩), #[]⟩
noncomputable def o42 (P : Params) : Obj := ⟨(.type "tuple"), none, (.seq #[(.type "Exception")] 0), #[]⟩
noncomputable def o43 (P : Params) : Obj := ⟨(.type "builtin_function_or_method"), none, (.fields #[(.builtin "type.__prepare__"), (.type "type")]), #[]⟩
noncomputable def o44 (P : Params) : Obj := ⟨(.type "dict"), none, (.dict (List.toArray [⟨PyData.keyHash P (Str.ofString "__module__"), (.str (Str.ofString "__module__") 239), (.str (Str.ofString "cpy313.ftplib") 230)⟩, ⟨PyData.keyHash P (Str.ofString "__qualname__"), (.str (Str.ofString "__qualname__") 241), (.str (Str.ofString "Error") 240)⟩, ⟨PyData.keyHash P (Str.ofString "__firstlineno__"), (.str (Str.ofString "__firstlineno__") 243), (.int 49 242)⟩, ⟨PyData.keyHash P (Str.ofString "__static_attributes__"), (.str (Str.ofString "__static_attributes__") 244), (.ref 49)⟩]) 4), #[]⟩
noncomputable def o45 (P : Params) : Obj := ⟨(.type "tuple"), none, (.seq #[] 0), #[]⟩
noncomputable def o46 (P : Params) : Obj := ⟨.none, none, (.fields #[]), #[]⟩
noncomputable def o47 (P : Params) : Obj := ⟨(.type "code"), none, (.fields #[(.str (Str.ofString "Error") 234), (.str (Str.ofString "Error") 235), (.str (Str.ofString "/claim/cut.py") 236), (.int 49 0), (.int 0 0), (.int 0 0), (.int 0 0), (.int 0 0), (.ref 45), (.bool false), (.int 181 0), (.ref 46), .none, .none, .none, .none, (.int 237 0), (.int 49 0), (.str (Str.ofString "/claim/cut.py") 238)]), #[]⟩
noncomputable def o48 (P : Params) : Obj := ⟨(.type "frame"), none, .plain, #[(some (.ref 47)), (some (.ref 3)), (some (.ref 44)), none, (some (.str (Str.ofString "cpy313.ftplib") 230)), none, (some (.ref 0))]⟩
noncomputable def o49 (P : Params) : Obj := ⟨(.type "tuple"), none, (.seq #[] 0), #[]⟩
noncomputable def o50 (P : Params) : Obj := ⟨(.type "dict"), none, (.dict (List.toArray [⟨PyData.keyHash P (Str.ofString "__module__"), (.str (Str.ofString "__module__") 239), (.str (Str.ofString "cpy313.ftplib") 230)⟩, ⟨PyData.keyHash P (Str.ofString "__firstlineno__"), (.str (Str.ofString "__firstlineno__") 243), (.int 49 242)⟩, ⟨PyData.keyHash P (Str.ofString "__static_attributes__"), (.str (Str.ofString "__static_attributes__") 244), (.ref 49)⟩, ⟨PyData.keyHash P (Str.ofString "__weakref__"), (.str (Str.ofString "__weakref__") 246), (.ref 52)⟩, ⟨PyData.keyHash P (Str.ofString "__doc__"), (.str (Str.ofString "__doc__") 247), .none⟩]) 3), #[]⟩
noncomputable def o51 (P : Params) : Obj := ⟨(.type "type"), none, (.cls ⟨(Str.ofString "Error"), [(.type "Exception")], [(.ref 51), (.type "Exception"), (.type "BaseException"), (.type "object")], 50, (Str.ofString "Error"), true, [], [(.ref 64), (.ref 76)], false, none, false⟩), #[(some (.ref 42)), none, (some (.str (Str.ofString "Error") 232)), (some (.str (Str.ofString "Error") 240)), (some (.builtin "Exception.__new__")), (some (.bool true))]⟩
noncomputable def o52 (P : Params) : Obj := ⟨(.type "getset_descriptor"), none, (.fields #[(.str (Str.ofString "__weakref__") 245), (.ref 51), (.builtin "ExceptionGroup.__weakref__"), .none]), #[]⟩
noncomputable def o53 (P : Params) : Obj := ⟨(.type "super"), none, (.fields #[(.ref 51), (.ref 51), (.ref 51)]), #[]⟩
noncomputable def o54 (P : Params) : Obj := ⟨(.type "builtin_function_or_method"), none, (.fields #[(.builtin "object.__init_subclass__"), (.ref 51)]), #[]⟩
noncomputable def o55 (P : Params) : Obj := ⟨(.type "tuple"), none, (.seq #[(.ref 51)] 0), #[]⟩
noncomputable def o56 (P : Params) : Obj := ⟨(.type "builtin_function_or_method"), none, (.fields #[(.builtin "type.__prepare__"), (.type "type")]), #[]⟩
noncomputable def o57 (P : Params) : Obj := ⟨(.type "dict"), none, (.dict (List.toArray [⟨PyData.keyHash P (Str.ofString "__module__"), (.str (Str.ofString "__module__") 259), (.str (Str.ofString "cpy313.ftplib") 230)⟩, ⟨PyData.keyHash P (Str.ofString "__qualname__"), (.str (Str.ofString "__qualname__") 261), (.str (Str.ofString "error_reply") 260)⟩, ⟨PyData.keyHash P (Str.ofString "__firstlineno__"), (.str (Str.ofString "__firstlineno__") 263), (.int 51 262)⟩, ⟨PyData.keyHash P (Str.ofString "__static_attributes__"), (.str (Str.ofString "__static_attributes__") 264), (.ref 62)⟩]) 4), #[]⟩
noncomputable def o58 (P : Params) : Obj := ⟨(.type "tuple"), none, (.seq #[] 0), #[]⟩
noncomputable def o59 (P : Params) : Obj := ⟨.none, none, (.fields #[]), #[]⟩
noncomputable def o60 (P : Params) : Obj := ⟨(.type "code"), none, (.fields #[(.str (Str.ofString "error_reply") 254), (.str (Str.ofString "error_reply") 255), (.str (Str.ofString "/claim/cut.py") 256), (.int 51 0), (.int 0 0), (.int 0 0), (.int 0 0), (.int 0 0), (.ref 58), (.bool false), (.int 181 0), (.ref 59), .none, .none, .none, .none, (.int 257 0), (.int 51 0), (.str (Str.ofString "/claim/cut.py") 258)]), #[]⟩
noncomputable def o61 (P : Params) : Obj := ⟨(.type "frame"), none, .plain, #[(some (.ref 60)), (some (.ref 3)), (some (.ref 57)), none, (some (.str (Str.ofString "cpy313.ftplib") 230)), none, (some (.ref 0))]⟩
noncomputable def o62 (P : Params) : Obj := ⟨(.type "tuple"), none, (.seq #[] 0), #[]⟩
noncomputable def o63 (P : Params) : Obj := ⟨(.type "dict"), none, (.dict (List.toArray [⟨PyData.keyHash P (Str.ofString "__module__"), (.str (Str.ofString "__module__") 259), (.str (Str.ofString "cpy313.ftplib") 230)⟩, ⟨PyData.keyHash P (Str.ofString "__firstlineno__"), (.str (Str.ofString "__firstlineno__") 263), (.int 51 262)⟩, ⟨PyData.keyHash P (Str.ofString "__static_attributes__"), (.str (Str.ofString "__static_attributes__") 264), (.ref 62)⟩, ⟨PyData.keyHash P (Str.ofString "__doc__"), (.str (Str.ofString "__doc__") 265), .none⟩]) 2), #[]⟩
noncomputable def o64 (P : Params) : Obj := ⟨(.type "type"), none, (.cls ⟨(Str.ofString "error_reply"), [(.ref 51)], [(.ref 64), (.ref 51), (.type "Exception"), (.type "BaseException"), (.type "object")], 63, (Str.ofString "error_reply"), true, [], [], false, none, false⟩), #[(some (.ref 55)), none, (some (.str (Str.ofString "error_reply") 252)), (some (.str (Str.ofString "error_reply") 260)), (some (.builtin "Exception.__new__")), (some (.bool true))]⟩
noncomputable def o65 (P : Params) : Obj := ⟨(.type "super"), none, (.fields #[(.ref 64), (.ref 64), (.ref 64)]), #[]⟩
noncomputable def o66 (P : Params) : Obj := ⟨(.type "builtin_function_or_method"), none, (.fields #[(.builtin "object.__init_subclass__"), (.ref 64)]), #[]⟩
noncomputable def o67 (P : Params) : Obj := ⟨(.type "tuple"), none, (.seq #[(.ref 51)] 0), #[]⟩
noncomputable def o68 (P : Params) : Obj := ⟨(.type "builtin_function_or_method"), none, (.fields #[(.builtin "type.__prepare__"), (.type "type")]), #[]⟩
noncomputable def o69 (P : Params) : Obj := ⟨(.type "dict"), none, (.dict (List.toArray [⟨PyData.keyHash P (Str.ofString "__module__"), (.str (Str.ofString "__module__") 275), (.str (Str.ofString "cpy313.ftplib") 230)⟩, ⟨PyData.keyHash P (Str.ofString "__qualname__"), (.str (Str.ofString "__qualname__") 277), (.str (Str.ofString "error_proto") 276)⟩, ⟨PyData.keyHash P (Str.ofString "__firstlineno__"), (.str (Str.ofString "__firstlineno__") 279), (.int 53 278)⟩, ⟨PyData.keyHash P (Str.ofString "__static_attributes__"), (.str (Str.ofString "__static_attributes__") 280), (.ref 74)⟩]) 4), #[]⟩
noncomputable def o70 (P : Params) : Obj := ⟨(.type "tuple"), none, (.seq #[] 0), #[]⟩
noncomputable def o71 (P : Params) : Obj := ⟨.none, none, (.fields #[]), #[]⟩
noncomputable def o72 (P : Params) : Obj := ⟨(.type "code"), none, (.fields #[(.str (Str.ofString "error_proto") 270), (.str (Str.ofString "error_proto") 271), (.str (Str.ofString "/claim/cut.py") 272), (.int 53 0), (.int 0 0), (.int 0 0), (.int 0 0), (.int 0 0), (.ref 70), (.bool false), (.int 181 0), (.ref 71), .none, .none, .none, .none, (.int 273 0), (.int 53 0), (.str (Str.ofString "/claim/cut.py") 274)]), #[]⟩
noncomputable def o73 (P : Params) : Obj := ⟨(.type "frame"), none, .plain, #[(some (.ref 72)), (some (.ref 3)), (some (.ref 69)), none, (some (.str (Str.ofString "cpy313.ftplib") 230)), none, (some (.ref 0))]⟩
noncomputable def o74 (P : Params) : Obj := ⟨(.type "tuple"), none, (.seq #[] 0), #[]⟩
noncomputable def o75 (P : Params) : Obj := ⟨(.type "dict"), none, (.dict (List.toArray [⟨PyData.keyHash P (Str.ofString "__module__"), (.str (Str.ofString "__module__") 275), (.str (Str.ofString "cpy313.ftplib") 230)⟩, ⟨PyData.keyHash P (Str.ofString "__firstlineno__"), (.str (Str.ofString "__firstlineno__") 279), (.int 53 278)⟩, ⟨PyData.keyHash P (Str.ofString "__static_attributes__"), (.str (Str.ofString "__static_attributes__") 280), (.ref 74)⟩, ⟨PyData.keyHash P (Str.ofString "__doc__"), (.str (Str.ofString "__doc__") 281), .none⟩]) 2), #[]⟩
noncomputable def o76 (P : Params) : Obj := ⟨(.type "type"), none, (.cls ⟨(Str.ofString "error_proto"), [(.ref 51)], [(.ref 76), (.ref 51), (.type "Exception"), (.type "BaseException"), (.type "object")], 75, (Str.ofString "error_proto"), true, [], [], false, none, false⟩), #[(some (.ref 67)), none, (some (.str (Str.ofString "error_proto") 268)), (some (.str (Str.ofString "error_proto") 276)), (some (.builtin "Exception.__new__")), (some (.bool true))]⟩
noncomputable def o77 (P : Params) : Obj := ⟨(.type "super"), none, (.fields #[(.ref 76), (.ref 76), (.ref 76)]), #[]⟩
noncomputable def o78 (P : Params) : Obj := ⟨(.type "builtin_function_or_method"), none, (.fields #[(.builtin "object.__init_subclass__"), (.ref 76)]), #[]⟩
noncomputable def o79 (P : Params) : Obj := ⟨(.type "tuple"), none, (.seq #[] 0), #[]⟩
noncomputable def o80 (P : Params) : Obj := ⟨.none, none, (.fields #[]), #[]⟩
noncomputable def o81 (P : Params) : Obj := ⟨(.type "tuple"), none, (.seq #[(.str (Str.ofString "resp") 287), (.str (Str.ofString "peer") 288), (.str (Str.ofString "left") 289), (.str (Str.ofString "right") 290), (.str (Str.ofString "parts") 291), (.str (Str.ofString "host") 292), (.str (Str.ofString "port") 293)] 0), #[]⟩
noncomputable def o82 (P : Params) : Obj := ⟨(.type "tuple"), none, (.seq #[] 0), #[]⟩
noncomputable def o83 (P : Params) : Obj := ⟨.none, none, (.func ⟨(Str.ofString "parse229"), (Str.ofString "parse229"), fd_parse229.1.1, .stmts fd_parse229.1.2.1, fd_parse229.1.2.2, 0, [], .none, .none, .none, .none, none, .none, .none, 0⟩), #[]⟩
noncomputable def o84 (P : Params) : Obj := ⟨(.type "code"), none, (.fields #[(.str (Str.ofString "parse229") 284), (.str (Str.ofString "parse229") 285), (.str (Str.ofString "/claim/cut.py") 286), (.int 55 0), (.int 2 0), (.int 0 0), (.int 0 0), (.int 3 0), (.ref 79), (.bool true), (.int 181 0), (.ref 80), .none, (.ref 81), (.ref 82), (.ref 83), (.int 294 0), (.int 55 0), (.str (Str.ofString "/claim/cut.py") 295)]), #[]⟩
noncomputable def o85 (P : Params) : Obj := ⟨(.type "function"), none, (.func ⟨(Str.ofString "parse229"), (Str.ofString "parse229"), fd_parse229.1.1, .stmts fd_parse229.1.2.1, fd_parse229.1.2.2, 3, [], .none, .none, .none, (.str (Str.ofString "cpy313.ftplib") 230), none, (.ref 84), .none, 0⟩), #[]⟩
noncomputable def o3C (P : Params) : Obj := ⟨(.type "dict"), none, (.dict (List.toArray [⟨PyData.keyHash P (Str.ofString "__name__"), (.str (Str.ofString "__name__") 165), (.str (Str.ofString "cpy313.stringprep") 297)⟩, ⟨PyData.keyHash P (Str.ofString "__doc__"), (.str (Str.ofString "__doc__") 166), .none⟩, ⟨PyData.keyHash P (Str.ofString "__package__"), (.str (Str.ofString "__package__") 167), .none⟩, ⟨PyData.keyHash P (Str.ofString "__loader__"), (.str (Str.ofString "__loader__") 168), (.builtin "__main__.__loader__#opaque")⟩, ⟨PyData.keyHash P (Str.ofString "__spec__"), (.str (Str.ofString "__spec__") 169), .none⟩, ⟨PyData.keyHash P (Str.ofString "__annotations__"), (.str (Str.ofString "__annotations__") 170), (.ref 6)⟩, ⟨PyData.keyHash P (Str.ofString "__builtins__"), (.str (Str.ofString "__builtins__") 171), (.ref 4)⟩, ⟨PyData.keyHash P (Str.ofString "__file__"), (.str (Str.ofString "__file__") 173), (.str (Str.ofString "/claim/cut.py") 172)⟩, ⟨PyData.keyHash P (Str.ofString "__cached__"), (.str (Str.ofString "__cached__") 174), .none⟩, ⟨PyData.keyHash P (Str.ofString "insort_right"), (.str (Str.ofString "insort_right") 201), (.ref 23)⟩, ⟨PyData.keyHash P (Str.ofString "bisect_right"), (.str (Str.ofString "bisect_right") 215), (.ref 32)⟩, ⟨PyData.keyHash P (Str.ofString "bisect_left"), (.str (Str.ofString "bisect_left") 229), (.ref 41)⟩, ⟨PyData.keyHash P (Str.ofString "Error"), (.str (Str.ofString "Error") 251), (.ref 51)⟩, ⟨PyData.keyHash P (Str.ofString "error_reply"), (.str (Str.ofString "error_reply") 267), (.ref 64)⟩, ⟨PyData.keyHash P (Str.ofString "error_proto"), (.str (Str.ofString "error_proto") 283), (.ref 76)⟩, ⟨PyData.keyHash P (Str.ofString "parse229"), (.str (Str.ofString "parse229") 296), (.ref 85)⟩, ⟨PyData.keyHash P (Str.ofString "b1_set"), (.str (Str.ofString "b1_set") 358), (.ref 93)⟩, ⟨PyData.keyHash P (Str.ofString "in_table_b1"), (.str (Str.ofString "in_table_b1") 365), (.ref 103)⟩]) 18), #[]⟩
noncomputable def o12C (P : Params) : Obj := ⟨.none, none, (.fields #[(.int 2 0), (.int 0 0), (.ref 22), (.int 8 0), (.int 0 0), (.ref 31), (.int 28 0), (.int 0 0), (.ref 40), (.int 49 0), (.int 0 0), (.ref 47), (.int 51 0), (.int 0 0), (.ref 60), (.int 53 0), (.int 0 0), (.ref 72), (.int 55 0), (.int 0 0), (.ref 84), (.int 74 0), (.int 0 0), (.ref 102)]), #[]⟩
noncomputable def o86 (P : Params) : Obj := ⟨(.type "list"), none, (.seq #[(.int 173 299), (.int 847 300), (.int 6150 301), (.int 6155 302), (.int 6156 303), (.int 6157 304), (.int 8203 305), (.int 8204 306), (.int 8205 307), (.int 8288 308), (.int 65279 309)] 0), #[]⟩
noncomputable def o87 (P : Params) : Obj := ⟨(.type "range"), none, (.fields #[(.int 65024 310), (.int 65040 311), (.int 1 312)]), #[]⟩
noncomputable def o88 (P : Params) : Obj := ⟨(.type "list"), none, (.seq #[(.int 65024 315), (.int 65025 316), (.int 65026 317), (.int 65027 318), (.int 65028 319), (.int 65029 320), (.int 65030 321), (.int 65031 322), (.int 65032 323), (.int 65033 324), (.int 65034 325), (.int 65035 326), (.int 65036 327), (.int 65037 328), (.int 65038 329), (.int 65039 330)] 18), #[]⟩
noncomputable def o89 (P : Params) : Obj := ⟨(.type "range_iterator"), none, (.fields #[(.int 65040 0), (.int 0 0), (.int 1 0)]), #[]⟩
noncomputable def o90 (P : Params) : Obj := ⟨(.type "tuple"), none, (.seq #[] 0), #[]⟩
noncomputable def o91 (P : Params) : Obj := ⟨(.type "StopIteration"), none, (.fields #[(.ref 90), .none, .none, .none, (.bool false), .none]), #[]⟩
noncomputable def o92 (P : Params) : Obj := ⟨(.type "list"), none, (.seq #[(.int 173 299), (.int 847 300), (.int 6150 301), (.int 6155 302), (.int 6156 303), (.int 6157 304), (.int 8203 305), (.int 8204 306), (.int 8205 307), (.int 8288 308), (.int 65279 309), (.int 65024 315), (.int 65025 316), (.int 65026 317), (.int 65027 318), (.int 65028 319), (.int 65029 320), (.int 65030 321), (.int 65031 322), (.int 65032 323), (.int 65033 324), (.int 65034 325), (.int 65035 326), (.int 65036 327), (.int 65037 328), (.int 65038 329), (.int 65039 330)] 0), #[]⟩
noncomputable def o93 (P : Params) : Obj := ⟨(.type "set"), none, (.set #[(65024, (.int 65024 315)), (65025, (.int 65025 316)), (65026, (.int 65026 317)), (65027, (.int 65027 318)), (65028, (.int 65028 319)), (65029, (.int 65029 320)), (6150, (.int 6150 301)), (65030, (.int 65030 321)), (65031, (.int 65031 322)), (65032, (.int 65032 323)), (65033, (.int 65033 324)), (6155, (.int 6155 302)), (6156, (.int 6156 303)), (6157, (.int 6157 304)), (8203, (.int 8203 305)), (8204, (.int 8204 306)), (8205, (.int 8205 307)), (65034, (.int 65034 325)), (65035, (.int 65035 326)), (65036, (.int 65036 327)), (65037, (.int 65037 328)), (65038, (.int 65038 329)), (65039, (.int 65039 330)), (173, (.int 173 299)), (847, (.int 847 300)), (8288, (.int 8288 308)), (65279, (.int 65279 309))] 29 ⟨127, #[0, 1, 2, 3, 4, 5, 6, 7, 8, 9, 10, 11, 12, 13, 14, 15, 16, 17, 18, 19, 20, 21, 22, 45, 79, 96, 127], #[], 0, !P.followText "set-order", 2, true⟩), #[]⟩
noncomputable def o94 (P : Params) : Obj := ⟨(.type "list_iterator"), none, (.fields #[.none, (.int 27 0)]), #[]⟩
noncomputable def o95 (P : Params) : Obj := ⟨(.type "tuple"), none, (.seq #[] 0), #[]⟩
noncomputable def o96 (P : Params) : Obj := ⟨(.type "StopIteration"), none, (.fields #[(.ref 95), .none, .none, .none, (.bool false), .none]), #[]⟩
noncomputable def o97 (P : Params) : Obj := ⟨(.type "tuple"), none, (.seq #[] 0), #[]⟩
noncomputable def o98 (P : Params) : Obj := ⟨.none, none, (.fields #[]), #[]⟩
noncomputable def o99 (P : Params) : Obj := ⟨(.type "tuple"), none, (.seq #[(.str (Str.ofString "code") 362)] 0), #[]⟩
noncomputable def o100 (P : Params) : Obj := ⟨(.type "tuple"), none, (.seq #[] 0), #[]⟩
noncomputable def o101 (P : Params) : Obj := ⟨.none, none, (.func ⟨(Str.ofString "in_table_b1"), (Str.ofString "in_table_b1"), fd_in_table_b1.1.1, .stmts fd_in_table_b1.1.2.1, fd_in_table_b1.1.2.2, 0, [], .none, .none, .none, .none, none, .none, .none, 0⟩), #[]⟩
noncomputable def o102 (P : Params) : Obj := ⟨(.type "code"), none, (.fields #[(.str (Str.ofString "in_table_b1") 359), (.str (Str.ofString "in_table_b1") 360), (.str (Str.ofString "/claim/cut.py") 361), (.int 74 0), (.int 1 0), (.int 0 0), (.int 0 0), (.int 3 0), (.ref 97), (.bool true), (.int 181 0), (.ref 98), .none, (.ref 99), (.ref 100), (.ref 101), (.int 363 0), (.int 74 0), (.str (Str.ofString "/claim/cut.py") 364)]), #[]⟩
noncomputable def o103 (P : Params) : Obj := ⟨(.type "function"), none, (.func ⟨(Str.ofString "in_table_b1"), (Str.ofString "in_table_b1"), fd_in_table_b1.1.1, .stmts fd_in_table_b1.1.2.1, fd_in_table_b1.1.2.2, 3, [], .none, .none, .none, (.str (Str.ofString "cpy313.stringprep") 297), none, (.ref 102), .none, 0⟩), #[]⟩
noncomputable def o3E (P : Params) : Obj := ⟨(.type "dict"), none, (.dict (List.toArray [⟨PyData.keyHash P (Str.ofString "__name__"), (.str (Str.ofString "__name__") 165), (.str (Str.ofString "cpy313.stringprep") 297)⟩, ⟨PyData.keyHash P (Str.ofString "__doc__"), (.str (Str.ofString "__doc__") 166), .none⟩, ⟨PyData.keyHash P (Str.ofString "__package__"), (.str (Str.ofString "__package__") 167), .none⟩, ⟨PyData.keyHash P (Str.ofString "__loader__"), (.str (Str.ofString "__loader__") 168), (.builtin "__main__.__loader__#opaque")⟩, ⟨PyData.keyHash P (Str.ofString "__spec__"), (.str (Str.ofString "__spec__") 169), .none⟩, ⟨PyData.keyHash P (Str.ofString "__annotations__"), (.str (Str.ofString "__annotations__") 170), (.ref 6)⟩, ⟨PyData.keyHash P (Str.ofString "__builtins__"), (.str (Str.ofString "__builtins__") 171), (.ref 4)⟩, ⟨PyData.keyHash P (Str.ofString "__file__"), (.str (Str.ofString "__file__") 173), (.str (Str.ofString "/claim/cut.py") 172)⟩, ⟨PyData.keyHash P (Str.ofString "__cached__"), (.str (Str.ofString "__cached__") 174), .none⟩, ⟨PyData.keyHash P (Str.ofString "insort_right"), (.str (Str.ofString "insort_right") 201), (.ref 23)⟩, ⟨PyData.keyHash P (Str.ofString "bisect_right"), (.str (Str.ofString "bisect_right") 215), (.ref 32)⟩, ⟨PyData.keyHash P (Str.ofString "bisect_left"), (.str (Str.ofString "bisect_left") 229), (.ref 41)⟩, ⟨PyData.keyHash P (Str.ofString "Error"), (.str (Str.ofString "Error") 251), (.ref 51)⟩, ⟨PyData.keyHash P (Str.ofString "error_reply"), (.str (Str.ofString "error_reply") 267), (.ref 64)⟩, ⟨PyData.keyHash P (Str.ofString "error_proto"), (.str (Str.ofString "error_proto") 283), (.ref 76)⟩, ⟨PyData.keyHash P (Str.ofString "parse229"), (.str (Str.ofString "parse229") 296), (.ref 85)⟩, ⟨PyData.keyHash P (Str.ofString "b1_set"), (.str (Str.ofString "b1_set") 358), (.ref 93)⟩, ⟨PyData.keyHash P (Str.ofString "in_table_b1"), (.str (Str.ofString "in_table_b1") 365), (.ref 103)⟩, ⟨PyData.keyHash P (Str.ofString "b3_exceptions"), (.str (Str.ofString "b3_exceptions") 2316), (.ref 104)⟩]) 19), #[]⟩
noncomputable def o3F (P : Params) : Obj := ⟨(.type "dict"), none, (.dict (List.toArray [⟨PyData.keyHash P (Str.ofString "__name__"), (.str (Str.ofString "__name__") 165), (.str (Str.ofString "law_ux0031_01") 2325)⟩, ⟨PyData.keyHash P (Str.ofString "__doc__"), (.str (Str.ofString "__doc__") 166), .none⟩, ⟨PyData.keyHash P (Str.ofString "__package__"), (.str (Str.ofString "__package__") 167), .none⟩, ⟨PyData.keyHash P (Str.ofString "__loader__"), (.str (Str.ofString "__loader__") 168), (.builtin "__main__.__loader__#opaque")⟩, ⟨PyData.keyHash P (Str.ofString "__spec__"), (.str (Str.ofString "__spec__") 169), .none⟩, ⟨PyData.keyHash P (Str.ofString "__annotations__"), (.str (Str.ofString "__annotations__") 170), (.ref 6)⟩, ⟨PyData.keyHash P (Str.ofString "__builtins__"), (.str (Str.ofString "__builtins__") 171), (.ref 4)⟩, ⟨PyData.keyHash P (Str.ofString "__file__"), (.str (Str.ofString "__file__") 173), (.str (Str.ofString "/claim/cut.py") 172)⟩, ⟨PyData.keyHash P (Str.ofString "__cached__"), (.str (Str.ofString "__cached__") 174), .none⟩, ⟨PyData.keyHash P (Str.ofString "insort_right"), (.str (Str.ofString "insort_right") 201), (.ref 23)⟩, ⟨PyData.keyHash P (Str.ofString "bisect_right"), (.str (Str.ofString "bisect_right") 215), (.ref 32)⟩, ⟨PyData.keyHash P (Str.ofString "bisect_left"), (.str (Str.ofString "bisect_left") 229), (.ref 41)⟩, ⟨PyData.keyHash P (Str.ofString "Error"), (.str (Str.ofString "Error") 251), (.ref 51)⟩, ⟨PyData.keyHash P (Str.ofString "error_reply"), (.str (Str.ofString "error_reply") 267), (.ref 64)⟩, ⟨PyData.keyHash P (Str.ofString "error_proto"), (.str (Str.ofString "error_proto") 283), (.ref 76)⟩, ⟨PyData.keyHash P (Str.ofString "parse229"), (.str (Str.ofString "parse229") 296), (.ref 85)⟩, ⟨PyData.keyHash P (Str.ofString "b1_set"), (.str (Str.ofString "b1_set") 358), (.ref 93)⟩, ⟨PyData.keyHash P (Str.ofString "in_table_b1"), (.str (Str.ofString "in_table_b1") 365), (.ref 103)⟩, ⟨PyData.keyHash P (Str.ofString "b3_exceptions"), (.str (Str.ofString "b3_exceptions") 2316), (.ref 104)⟩, ⟨PyData.keyHash P (Str.ofString "map_table_b3"), (.str (Str.ofString "map_table_b3") 2324), (.ref 149)⟩, ⟨PyData.keyHash P (Str.ofString "_law_unseen"), (.str (Str.ofString "_law_unseen") 2333), (.ref 156)⟩, ⟨PyData.keyHash P (Str.ofString "_law_reply"), (.str (Str.ofString "_law_reply") 2346), (.ref 163)⟩, ⟨PyData.keyHash P (Str.ofString "_law_prepared"), (.str (Str.ofString "_law_prepared") 2352), (.ref 168)⟩, ⟨PyData.keyHash P (Str.ofString "_law_asked"), (.str (Str.ofString "_law_asked") 2361), (.ref 175)⟩, ⟨PyData.keyHash P (Str.ofString "law"), (.str (Str.ofString "law") 2367), (.ref 180)⟩]) 25), #[]⟩
noncomputable def o12F (P : Params) : Obj := ⟨.none, none, (.fields #[(.int 2 0), (.int 0 0), (.ref 22), (.int 8 0), (.int 0 0), (.ref 31), (.int 28 0), (.int 0 0), (.ref 40), (.int 49 0), (.int 0 0), (.ref 47), (.int 51 0), (.int 0 0), (.ref 60), (.int 53 0), (.int 0 0), (.ref 72), (.int 55 0), (.int 0 0), (.ref 84), (.int 74 0), (.int 0 0), (.ref 102), (.int 77 0), (.int 0 0), (.ref 148), (.int 83 0), (.int 0 0), (.ref 155), (.int 87 0), (.int 0 0), (.ref 162), (.int 94 0), (.int 0 0), (.ref 167), (.int 96 0), (.int 0 0), (.ref 174), (.int 103 0), (.int 0 0), (.ref 179)]), #[]⟩
noncomputable def o143 (P : Params) : Obj := ⟨(.type "tuple"), none, (.seq #[] 0), #[]⟩
noncomputable def o144 (P : Params) : Obj := ⟨.none, none, (.fields #[]), #[]⟩
noncomputable def o145 (P : Params) : Obj := ⟨(.type "tuple"), none, (.seq #[(.str (Str.ofString "code") 2320), (.str (Str.ofString "r") 2321)] 0), #[]⟩
noncomputable def o146 (P : Params) : Obj := ⟨(.type "tuple"), none, (.seq #[] 0), #[]⟩
noncomputable def o147 (P : Params) : Obj := ⟨.none, none, (.func ⟨(Str.ofString "map_table_b3"), (Str.ofString "map_table_b3"), fd_map_table_b3.1.1, .stmts fd_map_table_b3.1.2.1, fd_map_table_b3.1.2.2, 0, [], .none, .none, .none, .none, none, .none, .none, 0⟩), #[]⟩
noncomputable def o148 (P : Params) : Obj := ⟨(.type "code"), none, (.fields #[(.str (Str.ofString "map_table_b3") 2317), (.str (Str.ofString "map_table_b3") 2318), (.str (Str.ofString "/claim/cut.py") 2319), (.int 77 0), (.int 1 0), (.int 0 0), (.int 0 0), (.int 3 0), (.ref 143), (.bool true), (.int 181 0), (.ref 144), .none, (.ref 145), (.ref 146), (.ref 147), (.int 2322 0), (.int 77 0), (.str (Str.ofString "/claim/cut.py") 2323)]), #[]⟩
noncomputable def o149 (P : Params) : Obj := ⟨(.type "function"), none, (.func ⟨(Str.ofString "map_table_b3"), (Str.ofString "map_table_b3"), fd_map_table_b3.1.1, .stmts fd_map_table_b3.1.2.1, fd_map_table_b3.1.2.2, 3, [], .none, .none, .none, (.str (Str.ofString "cpy313.stringprep") 297), none, (.ref 148), .none, 0⟩), #[]⟩
noncomputable def o150 (P : Params) : Obj := ⟨(.type "tuple"), none, (.seq #[] 0), #[]⟩
noncomputable def o151 (P : Params) : Obj := ⟨.none, none, (.fields #[]), #[]⟩
noncomputable def o152 (P : Params) : Obj := ⟨(.type "tuple"), none, (.seq #[(.str (Str.ofString "k") 2330)] 0), #[]⟩
noncomputable def o153 (P : Params) : Obj := ⟨(.type "tuple"), none, (.seq #[] 0), #[]⟩
noncomputable def o154 (P : Params) : Obj := ⟨.none, none, (.func ⟨(Str.ofString "_law_unseen"), (Str.ofString "_law_unseen"), fd_law_unseen.1.1, .stmts fd_law_unseen.1.2.1, fd_law_unseen.1.2.2, 0, [], .none, .none, .none, .none, none, .none, .none, 0⟩), #[]⟩
noncomputable def o155 (P : Params) : Obj := ⟨(.type "code"), none, (.fields #[(.str (Str.ofString "_law_unseen") 2327), (.str (Str.ofString "_law_unseen") 2328), (.str (Str.ofString "/claim/cut.py") 2329), (.int 83 0), (.int 1 0), (.int 0 0), (.int 0 0), (.int 3 0), (.ref 150), (.bool true), (.int 181 0), (.ref 151), .none, (.ref 152), (.ref 153), (.ref 154), (.int 2331 0), (.int 83 0), (.str (Str.ofString "/claim/cut.py") 2332)]), #[]⟩
noncomputable def o156 (P : Params) : Obj := ⟨(.type "function"), none, (.func ⟨(Str.ofString "_law_unseen"), (Str.ofString "_law_unseen"), fd_law_unseen.1.1, .stmts fd_law_unseen.1.2.1, fd_law_unseen.1.2.2, 3, [], .none, .none, .none, (.str (Str.ofString "law_ux0031_01") 2325), none, (.ref 155), .none, 0⟩), #[]⟩
noncomputable def o157 (P : Params) : Obj := ⟨(.type "tuple"), none, (.seq #[] 0), #[]⟩
noncomputable def o158 (P : Params) : Obj := ⟨.none, none, (.fields #[]), #[]⟩
noncomputable def o159 (P : Params) : Obj := ⟨(.type "tuple"), none, (.seq #[(.str (Str.ofString "port") 2337), (.str (Str.ofString "dress") 2338), (.str (Str.ofString "sign") 2339), (.str (Str.ofString "great") 2340), (.str (Str.ofString "figures") 2341), (.str (Str.ofString "inside") 2342), (.str (Str.ofString "code") 2343)] 0), #[]⟩
noncomputable def o160 (P : Params) : Obj := ⟨(.type "tuple"), none, (.seq #[] 0), #[]⟩
noncomputable def o161 (P : Params) : Obj := ⟨.none, none, (.func ⟨(Str.ofString "_law_reply"), (Str.ofString "_law_reply"), fd_law_reply.1.1, .stmts fd_law_reply.1.2.1, fd_law_reply.1.2.2, 0, [], .none, .none, .none, .none, none, .none, .none, 0⟩), #[]⟩
noncomputable def o162 (P : Params) : Obj := ⟨(.type "code"), none, (.fields #[(.str (Str.ofString "_law_reply") 2334), (.str (Str.ofString "_law_reply") 2335), (.str (Str.ofString "/claim/cut.py") 2336), (.int 87 0), (.int 2 0), (.int 0 0), (.int 0 0), (.int 3 0), (.ref 157), (.bool true), (.int 181 0), (.ref 158), .none, (.ref 159), (.ref 160), (.ref 161), (.int 2344 0), (.int 87 0), (.str (Str.ofString "/claim/cut.py") 2345)]), #[]⟩
noncomputable def o163 (P : Params) : Obj := ⟨(.type "function"), none, (.func ⟨(Str.ofString "_law_reply"), (Str.ofString "_law_reply"), fd_law_reply.1.1, .stmts fd_law_reply.1.2.1, fd_law_reply.1.2.2, 3, [], .none, .none, .none, (.str (Str.ofString "law_ux0031_01") 2325), none, (.ref 162), .none, 0⟩), #[]⟩
noncomputable def o164 (P : Params) : Obj := ⟨(.type "tuple"), none, (.seq #[] 0), #[]⟩
noncomputable def o165 (P : Params) : Obj := ⟨.none, none, (.fields #[]), #[]⟩
noncomputable def o166 (P : Params) : Obj := ⟨.none, none, (.func ⟨(Str.ofString "_law_prepared"), (Str.ofString "_law_prepared"), fd_law_prepared.1.1, .stmts fd_law_prepared.1.2.1, fd_law_prepared.1.2.2, 0, [], .none, .none, .none, .none, none, .none, .none, 0⟩), #[]⟩
noncomputable def o167 (P : Params) : Obj := ⟨(.type "code"), none, (.fields #[(.str (Str.ofString "_law_prepared") 2347), (.str (Str.ofString "_law_prepared") 2348), (.str (Str.ofString "/claim/cut.py") 2349), (.int 94 0), (.int 1 0), (.int 0 0), (.int 0 0), (.int 3 0), (.ref 164), (.bool true), (.int 181 0), (.ref 165), .none, .none, .none, (.ref 166), (.int 2350 0), (.int 94 0), (.str (Str.ofString "/claim/cut.py") 2351)]), #[]⟩
noncomputable def o168 (P : Params) : Obj := ⟨(.type "function"), none, (.func ⟨(Str.ofString "_law_prepared"), (Str.ofString "_law_prepared"), fd_law_prepared.1.1, .stmts fd_law_prepared.1.2.1, fd_law_prepared.1.2.2, 3, [], .none, .none, .none, (.str (Str.ofString "law_ux0031_01") 2325), none, (.ref 167), .none, 0⟩), #[]⟩
noncomputable def o169 (P : Params) : Obj := ⟨(.type "tuple"), none, (.seq #[] 0), #[]⟩
noncomputable def o170 (P : Params) : Obj := ⟨.none, none, (.fields #[]), #[]⟩
noncomputable def o171 (P : Params) : Obj := ⟨(.type "tuple"), none, (.seq #[(.str (Str.ofString "reply") 2356), (.str (Str.ofString "peer") 2357), (.str (Str.ofString "caught") 2358)] 0), #[]⟩
noncomputable def o172 (P : Params) : Obj := ⟨(.type "tuple"), none, (.seq #[] 0), #[]⟩
noncomputable def o173 (P : Params) : Obj := ⟨.none, none, (.func ⟨(Str.ofString "_law_asked"), (Str.ofString "_law_asked"), fd_law_asked.1.1, .stmts fd_law_asked.1.2.1, fd_law_asked.1.2.2, 0, [], .none, .none, .none, .none, none, .none, .none, 0⟩), #[]⟩
noncomputable def o174 (P : Params) : Obj := ⟨(.type "code"), none, (.fields #[(.str (Str.ofString "_law_asked") 2353), (.str (Str.ofString "_law_asked") 2354), (.str (Str.ofString "/claim/cut.py") 2355), (.int 96 0), (.int 2 0), (.int 0 0), (.int 0 0), (.int 3 0), (.ref 169), (.bool true), (.int 181 0), (.ref 170), .none, (.ref 171), (.ref 172), (.ref 173), (.int 2359 0), (.int 96 0), (.str (Str.ofString "/claim/cut.py") 2360)]), #[]⟩
noncomputable def o175 (P : Params) : Obj := ⟨(.type "function"), none, (.func ⟨(Str.ofString "_law_asked"), (Str.ofString "_law_asked"), fd_law_asked.1.1, .stmts fd_law_asked.1.2.1, fd_law_asked.1.2.2, 3, [], .none, .none, .none, (.str (Str.ofString "law_ux0031_01") 2325), none, (.ref 174), .none, 0⟩), #[]⟩
noncomputable def o176 (P : Params) : Obj := ⟨(.type "tuple"), none, (.seq #[] 0), #[]⟩
noncomputable def o177 (P : Params) : Obj := ⟨.none, none, (.fields #[]), #[]⟩
noncomputable def o178 (P : Params) : Obj := ⟨.none, none, (.func ⟨(Str.ofString "law"), (Str.ofString "law"), fd_law.1.1, .stmts fd_law.1.2.1, fd_law.1.2.2, 0, [], .none, .none, .none, .none, none, .none, .none, 0⟩), #[]⟩
noncomputable def o179 (P : Params) : Obj := ⟨(.type "code"), none, (.fields #[(.str (Str.ofString "law") 2362), (.str (Str.ofString "law") 2363), (.str (Str.ofString "/claim/cut.py") 2364), (.int 103 0), (.int 1 0), (.int 0 0), (.int 0 0), (.int 3 0), (.ref 176), (.bool true), (.int 181 0), (.ref 177), .none, .none, .none, (.ref 178), (.int 2365 0), (.int 103 0), (.str (Str.ofString "/claim/cut.py") 2366)]), #[]⟩
noncomputable def o180 (P : Params) : Obj := ⟨(.type "function"), none, (.func ⟨(Str.ofString "law"), (Str.ofString "law"), fd_law.1.1, .stmts fd_law.1.2.1, fd_law.1.2.2, 3, [], .none, .none, .none, (.str (Str.ofString "law_ux0031_01") 2325), none, (.ref 179), .none, 0⟩), #[]⟩
noncomputable def treeO (P : Params) : BT := (.node (boot_o_0 P) (.node (boot_o_1 P) (.node (boot_o_3 P) (.node (boot_o_7 P) .nil .nil) .nil) (.node (boot_o_5 P) (.node (boot_o_9 P) .nil .nil) .nil)) (.node (boot_o_2 P) (.node (boot_o_4 P) (.node (boot_o_8 P) .nil .nil) .nil) (.node (boot_o_6 P) (.node (boot_o_10 P) .nil .nil) .nil)))
-- O: n 11 toks 181
noncomputable def treeA (P : Params) : BT := (.node (boot_o_0 P) (.node (boot_o_1 P) (.node (o3A P) (.node (boot_o_7 P) .nil .nil) (.node (o11A P) .nil .nil)) (.node (boot_o_5 P) (.node (boot_o_9 P) .nil .nil) (.node (o13A P) .nil .nil))) (.node (o2A P) (.node (boot_o_4 P) (.node (boot_o_8 P) .nil .nil) (.node (o12A P) .nil .nil)) (.node (boot_o_6 P) (.node (boot_o_10 P) .nil .nil) (.node (o14A P) .nil .nil))))
-- A: n 15 toks 187
noncomputable def treeB (P : Params) : BT := (.node (boot_o_0 P) (.node (boot_o_1 P) (.node (o3B P) (.node (boot_o_7 P) (.node (o15 P) (.node (o31 P) (.node (o63 P) .nil .nil) .nil) (.node (o47 P) (.node (o79 P) .nil .nil) .nil)) (.node (o23 P) (.node (o39 P) (.node (o71 P) .nil .nil) .nil) (.node (o55 P) .nil .nil))) (.node (o11A P) (.node (o19 P) (.node (o35 P) (.node (o67 P) .nil .nil) .nil) (.node (o51 P) (.node (o83 P) .nil .nil) .nil)) (.node (o27 P) (.node (o43 P) (.node (o75 P) .nil .nil) .nil) (.node (o59 P) .nil .nil)))) (.node (boot_o_5 P) (.node (boot_o_9 P) (.node (o17 P) (.node (o33 P) (.node (o65 P) .nil .nil) .nil) (.node (o49 P) (.node (o81 P) .nil .nil) .nil)) (.node (o25 P) (.node (o41 P) (.node (o73 P) .nil .nil) .nil) (.node (o57 P) .nil .nil))) (.node (o13A P) (.node (o21 P) (.node (o37 P) (.node (o69 P) .nil .nil) .nil) (.node (o53 P) (.node (o85 P) .nil .nil) .nil)) (.node (o29 P) (.node (o45 P) (.node (o77 P) .nil .nil) .nil) (.node (o61 P) .nil .nil))))) (.node (o2B P) (.node (boot_o_4 P) (.node (boot_o_8 P) (.node (o16 P) (.node (o32 P) (.node (o64 P) .nil .nil) .nil) (.node (o48 P) (.node (o80 P) .nil .nil) .nil)) (.node (o24 P) (.node (o40 P) (.node (o72 P) .nil .nil) .nil) (.node (o56 P) .nil .nil))) (.node (o12B P) (.node (o20 P) (.node (o36 P) (.node (o68 P) .nil .nil) .nil) (.node (o52 P) (.node (o84 P) .nil .nil) .nil)) (.node (o28 P) (.node (o44 P) (.node (o76 P) .nil .nil) .nil) (.node (o60 P) .nil .nil)))) (.node (boot_o_6 P) (.node (boot_o_10 P) (.node (o18 P) (.node (o34 P) (.node (o66 P) .nil .nil) .nil) (.node (o50 P) (.node (o82 P) .nil .nil) .nil)) (.node (o26 P) (.node (o42 P) (.node (o74 P) .nil .nil) .nil) (.node (o58 P) .nil .nil))) (.node (o14A P) (.node (o22 P) (.node (o38 P) (.node (o70 P) .nil .nil) .nil) (.node (o54 P) .nil .nil)) (.node (o30 P) (.node (o46 P) (.node (o78 P) .nil .nil) .nil) (.node (o62 P) .nil .nil))))))
-- B: n 86 toks 299
noncomputable def treeC (P : Params) : BT := (.node (boot_o_0 P) (.node (boot_o_1 P) (.node (o3C P) (.node (boot_o_7 P) (.node (o15 P) (.node (o31 P) (.node (o63 P) .nil .nil) (.node (o95 P) .nil .nil)) (.node (o47 P) (.node (o79 P) .nil .nil) .nil)) (.node (o23 P) (.node (o39 P) (.node (o71 P) .nil .nil) (.node (o103 P) .nil .nil)) (.node (o55 P) (.node (o87 P) .nil .nil) .nil))) (.node (o11A P) (.node (o19 P) (.node (o35 P) (.node (o67 P) .nil .nil) (.node (o99 P) .nil .nil)) (.node (o51 P) (.node (o83 P) .nil .nil) .nil)) (.node (o27 P) (.node (o43 P) (.node (o75 P) .nil .nil) .nil) (.node (o59 P) (.node (o91 P) .nil .nil) .nil)))) (.node (boot_o_5 P) (.node (boot_o_9 P) (.node (o17 P) (.node (o33 P) (.node (o65 P) .nil .nil) (.node (o97 P) .nil .nil)) (.node (o49 P) (.node (o81 P) .nil .nil) .nil)) (.node (o25 P) (.node (o41 P) (.node (o73 P) .nil .nil) .nil) (.node (o57 P) (.node (o89 P) .nil .nil) .nil))) (.node (o13A P) (.node (o21 P) (.node (o37 P) (.node (o69 P) .nil .nil) (.node (o101 P) .nil .nil)) (.node (o53 P) (.node (o85 P) .nil .nil) .nil)) (.node (o29 P) (.node (o45 P) (.node (o77 P) .nil .nil) .nil) (.node (o61 P) (.node (o93 P) .nil .nil) .nil))))) (.node (o2B P) (.node (boot_o_4 P) (.node (boot_o_8 P) (.node (o16 P) (.node (o32 P) (.node (o64 P) .nil .nil) (.node (o96 P) .nil .nil)) (.node (o48 P) (.node (o80 P) .nil .nil) .nil)) (.node (o24 P) (.node (o40 P) (.node (o72 P) .nil .nil) .nil) (.node (o56 P) (.node (o88 P) .nil .nil) .nil))) (.node (o12C P) (.node (o20 P) (.node (o36 P) (.node (o68 P) .nil .nil) (.node (o100 P) .nil .nil)) (.node (o52 P) (.node (o84 P) .nil .nil) .nil)) (.node (o28 P) (.node (o44 P) (.node (o76 P) .nil .nil) .nil) (.node (o60 P) (.node (o92 P) .nil .nil) .nil)))) (.node (boot_o_6 P) (.node (boot_o_10 P) (.node (o18 P) (.node (o34 P) (.node (o66 P) .nil .nil) (.node (o98 P) .nil .nil)) (.node (o50 P) (.node (o82 P) .nil .nil) .nil)) (.node (o26 P) (.node (o42 P) (.node (o74 P) .nil .nil) .nil) (.node (o58 P) (.node (o90 P) .nil .nil) .nil))) (.node (o14A P) (.node (o22 P) (.node (o38 P) (.node (o70 P) .nil .nil) (.node (o102 P) .nil .nil)) (.node (o54 P) (.node (o86 P) .nil .nil) .nil)) (.node (o30 P) (.node (o46 P) (.node (o78 P) .nil .nil) .nil) (.node (o62 P) (.node (o94 P) .nil .nil) .nil))))))
-- C: n 104 toks 366
noncomputable def treeD (P : Params) : BT := (.node (boot_o_0 P) (.node (boot_o_1 P) (.node (o3C P) (.node (boot_o_7 P) (.node (o15 P) (.node (o31 P) (.node (o63 P) (.node (b3sub 23) .nil .nil) .nil) (.node (o95 P) .nil .nil)) (.node (o47 P) (.node (o79 P) .nil .nil) (.node (b3sub 7) .nil .nil))) (.node (o23 P) (.node (o39 P) (.node (o71 P) (.node (b3sub 31) .nil .nil) .nil) (.node (o103 P) .nil .nil)) (.node (o55 P) (.node (o87 P) .nil .nil) (.node (b3sub 15) .nil .nil)))) (.node (o11A P) (.node (o19 P) (.node (o35 P) (.node (o67 P) (.node (b3sub 27) .nil .nil) .nil) (.node (o99 P) .nil .nil)) (.node (o51 P) (.node (o83 P) .nil .nil) (.node (b3sub 11) .nil .nil))) (.node (o27 P) (.node (o43 P) (.node (o75 P) (.node (b3sub 35) .nil .nil) .nil) (.node (b3sub 3) .nil .nil)) (.node (o59 P) (.node (o91 P) .nil .nil) (.node (b3sub 19) .nil .nil))))) (.node (boot_o_5 P) (.node (boot_o_9 P) (.node (o17 P) (.node (o33 P) (.node (o65 P) (.node (b3sub 25) .nil .nil) .nil) (.node (o97 P) .nil .nil)) (.node (o49 P) (.node (o81 P) .nil .nil) (.node (b3sub 9) .nil .nil))) (.node (o25 P) (.node (o41 P) (.node (o73 P) (.node (b3sub 33) .nil .nil) .nil) (.node (b3sub 1) .nil .nil)) (.node (o57 P) (.node (o89 P) .nil .nil) (.node (b3sub 17) .nil .nil)))) (.node (o13A P) (.node (o21 P) (.node (o37 P) (.node (o69 P) (.node (b3sub 29) .nil .nil) .nil) (.node (o101 P) .nil .nil)) (.node (o53 P) (.node (o85 P) .nil .nil) (.node (b3sub 13) .nil .nil))) (.node (o29 P) (.node (o45 P) (.node (o77 P) (.node (b3sub 37) .nil .nil) .nil) (.node (b3sub 5) .nil .nil)) (.node (o61 P) (.node (o93 P) .nil .nil) (.node (b3sub 21) .nil .nil)))))) (.node (o2B P) (.node (boot_o_4 P) (.node (boot_o_8 P) (.node (o16 P) (.node (o32 P) (.node (o64 P) (.node (b3sub 24) .nil .nil) .nil) (.node (o96 P) .nil .nil)) (.node (o48 P) (.node (o80 P) .nil .nil) (.node (b3sub 8) .nil .nil))) (.node (o24 P) (.node (o40 P) (.node (o72 P) (.node (b3sub 32) .nil .nil) .nil) (.node (b3dict P) .nil .nil)) (.node (o56 P) (.node (o88 P) .nil .nil) (.node (b3sub 16) .nil .nil)))) (.node (o12C P) (.node (o20 P) (.node (o36 P) (.node (o68 P) (.node (b3sub 28) .nil .nil) .nil) (.node (o100 P) .nil .nil)) (.node (o52 P) (.node (o84 P) .nil .nil) (.node (b3sub 12) .nil .nil))) (.node (o28 P) (.node (o44 P) (.node (o76 P) (.node (b3sub 36) .nil .nil) .nil) (.node (b3sub 4) .nil .nil)) (.node (o60 P) (.node (o92 P) .nil .nil) (.node (b3sub 20) .nil .nil))))) (.node (boot_o_6 P) (.node (boot_o_10 P) (.node (o18 P) (.node (o34 P) (.node (o66 P) (.node (b3sub 26) .nil .nil) .nil) (.node (o98 P) .nil .nil)) (.node (o50 P) (.node (o82 P) .nil .nil) (.node (b3sub 10) .nil .nil))) (.node (o26 P) (.node (o42 P) (.node (o74 P) (.node (b3sub 34) .nil .nil) .nil) (.node (b3sub 2) .nil .nil)) (.node (o58 P) (.node (o90 P) .nil .nil) (.node (b3sub 18) .nil .nil)))) (.node (o14A P) (.node (o22 P) (.node (o38 P) (.node (o70 P) (.node (b3sub 30) .nil .nil) .nil) (.node (o102 P) .nil .nil)) (.node (o54 P) (.node (o86 P) .nil .nil) (.node (b3sub 14) .nil .nil))) (.node (o30 P) (.node (o46 P) (.node (o78 P) (.node (b3sub 38) .nil .nil) .nil) (.node (b3sub 6) .nil .nil)) (.node (o62 P) (.node (o94 P) .nil .nil) (.node (b3sub 22) .nil .nil)))))))
-- D: n 143 toks 2317
noncomputable def treeE (P : Params) : BT := (.node (boot_o_0 P) (.node (boot_o_1 P) (.node (o3E P) (.node (boot_o_7 P) (.node (o15 P) (.node (o31 P) (.node (o63 P) (.node (b3sub 23) .nil .nil) .nil) (.node (o95 P) .nil .nil)) (.node (o47 P) (.node (o79 P) .nil .nil) (.node (b3sub 7) .nil .nil))) (.node (o23 P) (.node (o39 P) (.node (o71 P) (.node (b3sub 31) .nil .nil) .nil) (.node (o103 P) .nil .nil)) (.node (o55 P) (.node (o87 P) .nil .nil) (.node (b3sub 15) .nil .nil)))) (.node (o11A P) (.node (o19 P) (.node (o35 P) (.node (o67 P) (.node (b3sub 27) .nil .nil) .nil) (.node (o99 P) .nil .nil)) (.node (o51 P) (.node (o83 P) .nil .nil) (.node (b3sub 11) .nil .nil))) (.node (o27 P) (.node (o43 P) (.node (o75 P) (.node (b3sub 35) .nil .nil) .nil) (.node (b3sub 3) .nil .nil)) (.node (o59 P) (.node (o91 P) .nil .nil) (.node (b3sub 19) .nil .nil))))) (.node (boot_o_5 P) (.node (boot_o_9 P) (.node (o17 P) (.node (o33 P) (.node (o65 P) (.node (b3sub 25) .nil .nil) .nil) (.node (o97 P) .nil .nil)) (.node (o49 P) (.node (o81 P) .nil .nil) (.node (b3sub 9) .nil .nil))) (.node (o25 P) (.node (o41 P) (.node (o73 P) (.node (b3sub 33) .nil .nil) .nil) (.node (b3sub 1) .nil .nil)) (.node (o57 P) (.node (o89 P) .nil .nil) (.node (b3sub 17) .nil .nil)))) (.node (o13A P) (.node (o21 P) (.node (o37 P) (.node (o69 P) (.node (b3sub 29) .nil .nil) .nil) (.node (o101 P) .nil .nil)) (.node (o53 P) (.node (o85 P) .nil .nil) (.node (b3sub 13) .nil .nil))) (.node (o29 P) (.node (o45 P) (.node (o77 P) (.node (b3sub 37) .nil .nil) .nil) (.node (b3sub 5) .nil .nil)) (.node (o61 P) (.node (o93 P) .nil .nil) (.node (b3sub 21) .nil .nil)))))) (.node (o2B P) (.node (boot_o_4 P) (.node (boot_o_8 P) (.node (o16 P) (.node (o32 P) (.node (o64 P) (.node (b3sub 24) .nil .nil) .nil) (.node (o96 P) .nil .nil)) (.node (o48 P) (.node (o80 P) .nil .nil) (.node (b3sub 8) .nil .nil))) (.node (o24 P) (.node (o40 P) (.node (o72 P) (.node (b3sub 32) .nil .nil) .nil) (.node (b3dict P) .nil .nil)) (.node (o56 P) (.node (o88 P) .nil .nil) (.node (b3sub 16) .nil .nil)))) (.node (o12C P) (.node (o20 P) (.node (o36 P) (.node (o68 P) (.node (b3sub 28) .nil .nil) .nil) (.node (o100 P) .nil .nil)) (.node (o52 P) (.node (o84 P) .nil .nil) (.node (b3sub 12) .nil .nil))) (.node (o28 P) (.node (o44 P) (.node (o76 P) (.node (b3sub 36) .nil .nil) .nil) (.node (b3sub 4) .nil .nil)) (.node (o60 P) (.node (o92 P) .nil .nil) (.node (b3sub 20) .nil .nil))))) (.node (boot_o_6 P) (.node (boot_o_10 P) (.node (o18 P) (.node (o34 P) (.node (o66 P) (.node (b3sub 26) .nil .nil) .nil) (.node (o98 P) .nil .nil)) (.node (o50 P) (.node (o82 P) .nil .nil) (.node (b3sub 10) .nil .nil))) (.node (o26 P) (.node (o42 P) (.node (o74 P) (.node (b3sub 34) .nil .nil) .nil) (.node (b3sub 2) .nil .nil)) (.node (o58 P) (.node (o90 P) .nil .nil) (.node (b3sub 18) .nil .nil)))) (.node (o14A P) (.node (o22 P) (.node (o38 P) (.node (o70 P) (.node (b3sub 30) .nil .nil) .nil) (.node (o102 P) .nil .nil)) (.node (o54 P) (.node (o86 P) .nil .nil) (.node (b3sub 14) .nil .nil))) (.node (o30 P) (.node (o46 P) (.node (o78 P) (.node (b3sub 38) .nil .nil) .nil) (.node (b3sub 6) .nil .nil)) (.node (o62 P) (.node (o94 P) .nil .nil) (.node (b3sub 22) .nil .nil)))))))
-- E: n 143 toks 2317
noncomputable def treeF (P : Params) : BT := (.node (boot_o_0 P) (.node (boot_o_1 P) (.node (o3F P) (.node (boot_o_7 P) (.node (o15 P) (.node (o31 P) (.node (o63 P) (.node (b3sub 23) .nil .nil) .nil) (.node (o95 P) (.node (o159 P) .nil .nil) .nil)) (.node (o47 P) (.node (o79 P) (.node (o143 P) .nil .nil) .nil) (.node (b3sub 7) (.node (o175 P) .nil .nil) .nil))) (.node (o23 P) (.node (o39 P) (.node (o71 P) (.node (b3sub 31) .nil .nil) .nil) (.node (o103 P) (.node (o167 P) .nil .nil) .nil)) (.node (o55 P) (.node (o87 P) (.node (o151 P) .nil .nil) .nil) (.node (b3sub 15) .nil .nil)))) (.node (o11A P) (.node (o19 P) (.node (o35 P) (.node (o67 P) (.node (b3sub 27) .nil .nil) .nil) (.node (o99 P) (.node (o163 P) .nil .nil) .nil)) (.node (o51 P) (.node (o83 P) (.node (o147 P) .nil .nil) .nil) (.node (b3sub 11) (.node (o179 P) .nil .nil) .nil))) (.node (o27 P) (.node (o43 P) (.node (o75 P) (.node (b3sub 35) .nil .nil) .nil) (.node (b3sub 3) (.node (o171 P) .nil .nil) .nil)) (.node (o59 P) (.node (o91 P) (.node (o155 P) .nil .nil) .nil) (.node (b3sub 19) .nil .nil))))) (.node (boot_o_5 P) (.node (boot_o_9 P) (.node (o17 P) (.node (o33 P) (.node (o65 P) (.node (b3sub 25) .nil .nil) .nil) (.node (o97 P) (.node (o161 P) .nil .nil) .nil)) (.node (o49 P) (.node (o81 P) (.node (o145 P) .nil .nil) .nil) (.node (b3sub 9) (.node (o177 P) .nil .nil) .nil))) (.node (o25 P) (.node (o41 P) (.node (o73 P) (.node (b3sub 33) .nil .nil) .nil) (.node (b3sub 1) (.node (o169 P) .nil .nil) .nil)) (.node (o57 P) (.node (o89 P) (.node (o153 P) .nil .nil) .nil) (.node (b3sub 17) .nil .nil)))) (.node (o13A P) (.node (o21 P) (.node (o37 P) (.node (o69 P) (.node (b3sub 29) .nil .nil) .nil) (.node (o101 P) (.node (o165 P) .nil .nil) .nil)) (.node (o53 P) (.node (o85 P) (.node (o149 P) .nil .nil) .nil) (.node (b3sub 13) .nil .nil))) (.node (o29 P) (.node (o45 P) (.node (o77 P) (.node (b3sub 37) .nil .nil) .nil) (.node (b3sub 5) (.node (o173 P) .nil .nil) .nil)) (.node (o61 P) (.node (o93 P) (.node (o157 P) .nil .nil) .nil) (.node (b3sub 21) .nil .nil)))))) (.node (o2B P) (.node (boot_o_4 P) (.node (boot_o_8 P) (.node (o16 P) (.node (o32 P) (.node (o64 P) (.node (b3sub 24) .nil .nil) .nil) (.node (o96 P) (.node (o160 P) .nil .nil) .nil)) (.node (o48 P) (.node (o80 P) (.node (o144 P) .nil .nil) .nil) (.node (b3sub 8) (.node (o176 P) .nil .nil) .nil))) (.node (o24 P) (.node (o40 P) (.node (o72 P) (.node (b3sub 32) .nil .nil) .nil) (.node (b3dict P) (.node (o168 P) .nil .nil) .nil)) (.node (o56 P) (.node (o88 P) (.node (o152 P) .nil .nil) .nil) (.node (b3sub 16) .nil .nil)))) (.node (o12F P) (.node (o20 P) (.node (o36 P) (.node (o68 P) (.node (b3sub 28) .nil .nil) .nil) (.node (o100 P) (.node (o164 P) .nil .nil) .nil)) (.node (o52 P) (.node (o84 P) (.node (o148 P) .nil .nil) .nil) (.node (b3sub 12) (.node (o180 P) .nil .nil) .nil))) (.node (o28 P) (.node (o44 P) (.node (o76 P) (.node (b3sub 36) .nil .nil) .nil) (.node (b3sub 4) (.node (o172 P) .nil .nil) .nil)) (.node (o60 P) (.node (o92 P) (.node (o156 P) .nil .nil) .nil) (.node (b3sub 20) .nil .nil))))) (.node (boot_o_6 P) (.node (boot_o_10 P) (.node (o18 P) (.node (o34 P) (.node (o66 P) (.node (b3sub 26) .nil .nil) .nil) (.node (o98 P) (.node (o162 P) .nil .nil) .nil)) (.node (o50 P) (.node (o82 P) (.node (o146 P) .nil .nil) .nil) (.node (b3sub 10) (.node (o178 P) .nil .nil) .nil))) (.node (o26 P) (.node (o42 P) (.node (o74 P) (.node (b3sub 34) .nil .nil) .nil) (.node (b3sub 2) (.node (o170 P) .nil .nil) .nil)) (.node (o58 P) (.node (o90 P) (.node (o154 P) .nil .nil) .nil) (.node (b3sub 18) .nil .nil)))) (.node (o14A P) (.node (o22 P) (.node (o38 P) (.node (o70 P) (.node (b3sub 30) .nil .nil) .nil) (.node (o102 P) (.node (o166 P) .nil .nil) .nil)) (.node (o54 P) (.node (o86 P) (.node (o150 P) .nil .nil) .nil) (.node (b3sub 14) .nil .nil))) (.node (o30 P) (.node (o46 P) (.node (o78 P) (.node (b3sub 38) .nil .nil) .nil) (.node (b3sub 6) (.node (o174 P) .nil .nil) .nil)) (.node (o62 P) (.node (o94 P) (.node (o158 P) .nil .nil) .nil) (.node (b3sub 22) .nil .nil)))))))
-- F: n 181 toks 2368
end
end
end Mine
end
section
namespace Mine
section
open PySem PySem.W PyProof.Rows
set_option linter.all false
set_option maxRecDepth 100000
noncomputable abbrev dnQ : Code → Sem PySem.Fin := PySem.W.Fast.tw11892475500146522536 PySem.W.Fast.tw14364793385576792824
noncomputable abbrev exQ : List Stmt → Env → Sem Flow := PySem.W.Fast.tw12563942051412417395
theorem den_eq : denote table = dnQ := by rw [table_eq_tree, PySem.W.Fast.te11892475500146522536, PySem.W.Fast.te14364793385576792824]
theorem execs_eq : execs = exQ := PySem.W.Fast.te12563942051412417395
noncomputable abbrev MQ (w : World) : Model := ⟨dnQ, pw, w⟩
theorem model_eq (w : World) : model pw w = MQ w := by
  show (⟨denote table, pw, w⟩ : Model) = _
  rw [den_eq]
noncomputable abbrev topEnv : Env := { scope := pw.main.scope, locals := mainNs, globals := mainNs, cells := [], code := .ref 13, frame := some 14 }
noncomputable def cut (f : Params → BT) (n toks : Nat) (w : World) (os : OsState) : SharedT := ⟨f w.params, n, {}, #[], boot_drawn, toks, os⟩
noncomputable abbrev stA := cut treeA 15 187
noncomputable abbrev stB := cut treeB 86 299
noncomputable abbrev stC := cut treeC 104 366
noncomputable abbrev stE := cut treeE 143 2317
noncomputable abbrev stF := cut treeF 181 2368
noncomputable abbrev Γ1 : Ctx := ⟨.body (behindTheImports pw) topEnv, none, none, [(.builtin "claim.caller" {}, default)], none⟩
noncomputable def sts1 : List Stmt := pw.main.body.take 10
noncomputable def sts2 : List Stmt := (pw.main.body.drop 10).take 2
noncomputable def sts4 : List Stmt := pw.main.body.drop 13
theorem runG1 (w : World) : (fun (os : OsState) (p : Pos) => ev dnQ pw w.params 100000 Flow Γ1 (exQ sts1 topEnv) p (stA w os)) = fun os _ => some (.ok .next, ⟨72, 0, 72, 8⟩, stB w os) := by kernel_rfl
theorem runG4 (w : World) : (fun (os : OsState) (p : Pos) => ev dnQ pw w.params 100000 Flow Γ1 (exQ sts4 topEnv) p (stE w os)) = fun os _ => some (.ok .next, ⟨103, 0, 156, 15⟩, stF w os) := by kernel_rfl
theorem runG2 : ∀ w : World, (fun (os : OsState) (p : Pos) => ev dnQ pw w.params 100000 Flow Γ1 (exQ sts2 topEnv) p (stB w os)) = fun os _ => some (.ok .next, ⟨74, 0, 75, 30⟩, stC w os) :=
  byRow2 "set-order" (byRow2 "special-get-raises" (fun w => by kernel_rfl) (fun w => by kernel_rfl)) (byRow2 "special-get-raises" (fun w => by kernel_rfl) (fun w => by kernel_rfl))
end
end Mine
end
section
namespace Mine
section
open PySem PySem.W PyProof.Rows
set_option linter.all false
set_option maxRecDepth 100000
theorem upd_push (h : Heap) (o : Obj) (f : Obj → Obj) : (h.push o).update h.objs.size f = h.push (f o) := by
  obtain ⟨objs, life⟩ := h
  show Heap.mk _ _ = Heap.mk _ _
  congr 1
  apply Array.ext_getElem?
  intro i
  rw [Array.getElem?_modify, Array.getElem?_push, Array.getElem?_push]
  by_cases e : i = objs.size
  · subst e; simp
  · simp [Ne.symm e, e]
theorem upd_upd (h : Heap) (a : Addr) (f : Obj → Obj) (o : Obj) : (h.update a f).update a (fun _ => o) = h.update a (fun _ => o) := by
  obtain ⟨objs, life⟩ := h
  show Heap.mk _ _ = Heap.mk _ _
  congr 1
  apply Array.ext_getElem?
  intro i
  simp only [Array.getElem?_modify]
  by_cases e : a = i
  · subst e; simp [Function.comp_def]
  · simp [e]
theorem upd_eq {h : Heap} {a : Addr} {f g : Obj → Obj} {o : Obj} (ho : h.get? a = some o) (e : f o = g o) : h.update a f = h.update a g := by
  have hs := (Heap.get?_some_iff.mp ho).1
  obtain ⟨objs, life⟩ := h
  show Heap.mk _ _ = Heap.mk _ _
  congr 1
  apply Array.ext_getElem?
  intro i
  simp only [Array.getElem?_modify]
  by_cases q : a = i
  · subst q; simp [show objs[a]? = some o from hs, e]
  · simp [q]
theorem get_upd {h : Heap} {a : Addr} {o o' : Obj} (ho : h.get? a = some o') (hf : o.isFreed = false) : (h.update a (fun _ => o)).get? a = some o := Heap.get?_update_self (fun _ => o) ho hf
theorem upd_same {h : Heap} {a : Addr} {o : Obj} (ho : h.get? a = some o) : h.update a (fun _ => o) = h := by
  have hs := (Heap.get?_some_iff.mp ho).1
  obtain ⟨objs, life⟩ := h
  show Heap.mk _ _ = Heap.mk _ _
  congr 1
  apply Array.ext_getElem?
  intro i
  simp only [Array.getElem?_modify]
  by_cases q : a = i
  · subst q; simp [show objs[a]? = some o from hs]
  · simp [q]
noncomputable def KeyedE (es : List DictEntry) (ks : List Int) : Prop := ∀ e ∈ es, ∃ k ∈ ks, ∃ t, e.key = .int k t ∧ e.hash = hashInt k
inductive Each : List DictEntry → List Int → Prop
  | nil : Each [] []
  | cons {e : DictEntry} {k : Int} {es : List DictEntry} {ks : List Int} (h : ∃ t, e.key = .int k t ∧ e.hash = hashInt k) (r : Each es ks) : Each (e :: es) (k :: ks)
theorem KeyedE.nil {ks : List Int} : KeyedE [] ks := fun _ h => (nomatch h)
theorem KeyedE.app {es fs : List DictEntry} {ks ls : List Int} (a : KeyedE es ks) (b : KeyedE fs ls) : KeyedE (es ++ fs) (ks ++ ls) := fun e he => by
  rcases List.mem_append.mp he with h | h
  · obtain ⟨k, hk, r⟩ := a e h; exact ⟨k, List.mem_append_left _ hk, r⟩
  · obtain ⟨k, hk, r⟩ := b e h; exact ⟨k, List.mem_append_right _ hk, r⟩
theorem KeyedE.one (k : Int) (t : Tok) (v : Value) : KeyedE [⟨hashInt k, .int k t, v⟩] [k] := fun e he => by
  obtain rfl := List.mem_singleton.mp he
  exact ⟨k, List.mem_singleton.mpr rfl, t, rfl, rfl⟩
theorem KeyedE.ints {es : List DictEntry} {ks : List Int} (a : KeyedE es ks) : IntKeys es.toArray := fun e he => by
  obtain ⟨k, _, t, h⟩ := a e (by simpa using he)
  exact ⟨k, t, h⟩
theorem KeyedE.absent {es : List DictEntry} {ks : List Int} (a : KeyedE es ks) {k : Int} (hk : k ∉ ks) : (es.toArray.findIdx? fun e => Value.isInt k e.key) = none := by
  rw [Array.findIdx?_eq_none_iff]
  intro e he
  obtain ⟨k', hk', t, e1, _⟩ := a e (by simpa using he)
  rw [e1]
  show (k' == k) = false
  refine beq_false_of_ne ?_
  rintro rfl
  exact hk hk'
section
variable {prog : Program} {w : World} {A : Around} {E : Value → Shared → Prop} {s : Shared}
theorem map_push (es : List DictEntry) (n : Nat) (e : DictEntry) : Obj.mapDictKeys (·.push e) (dictObj es n) = dictObj (es ++ [e]) (n + 1) := by
  unfold dictObj
  show (⟨_, _, Data.dict _ _, _⟩ : Obj) = ⟨_, _, Data.dict _ _, _⟩
  simp
theorem put_new {d : Addr} {es : List DictEntry} {n : Nat} {ks : List Int} {k : Int} {t : Tok} {v : Value} {Q : Unit → Shared → Prop} (ho : s.heap.get? d = some (dictObj es n)) (hk : KeyedE es ks) (hn : k ∉ ks) (hz : es.length ≤ sizeLine)
    (h : Q () { s with heap := s.heap.update d (fun _ => dictObj (es ++ [⟨hashInt k, .int k t, v⟩]) (n + 1)) }) : wpAny (model prog w) A (dictPut d (hashInt k) (.int k t) v) Q E s := by
  unfold dictPut
  refine wpAny_bind (wpAny_dictFind_int ho rfl hk.ints ?_)
  rw [hk.absent hn]
  have e := upd_eq (f := Obj.mapDictKeys (·.push ⟨hashInt k, .int k t, v⟩)) (g := fun _ => dictObj (es ++ [⟨hashInt k, .int k t, v⟩]) (n + 1)) ho (map_push ..)
  refine wpAny_updateDictKeys ho rfl ?_ (by simpa [dictObj] using hz) (by simp)
  rw [e]; exact h
theorem set_new {d : Addr} {es : List DictEntry} {n : Nat} {ks : List Int} {k : Int} {t : Tok} {v : Value} {Q : Unit → Shared → Prop} (ho : s.heap.get? d = some (dictObj es n)) (hk : KeyedE es ks) (hn : k ∉ ks) (hz : es.length ≤ sizeLine)
    (h : Q () { s with heap := s.heap.update d (fun _ => dictObj (es ++ [⟨hashInt k, .int k t, v⟩]) (n + 1)), toks := s.toks + 1 }) : wpAny (model prog w) A (dictSet d (.int k t) v) Q E s := by
  unfold dictSet
  try with_reducible refine wpAny_holding ?_
  refine wpAny_bind (wpAny_pyHash_int ?_)
  unfold dictSetHashed
  try with_reducible refine wpAny_holding ?_
  refine wpAny_bind (wpAny_dictFind_int (s := { s with toks := s.toks + 1 }) ho rfl hk.ints ?_)
  rw [hk.absent hn]
  have e := upd_eq (f := Obj.mapDictKeys (·.push ⟨hashInt k, .int k t, v⟩)) (g := fun _ => dictObj (es ++ [⟨hashInt k, .int k t, v⟩]) (n + 1)) ho (map_push ..)
  refine wpAny_bind (wpAny_rule (wpAny_updateDictKeys (s := { s with toks := s.toks + 1 }) ho rfl ?_ (by simpa [dictObj] using hz) (by simp)))
  show Q () _
  have e' : ({ s with toks := s.toks + 1 } : Shared).heap = s.heap := rfl
  rw [e', e]; exact h
/-- one row's two trees -/
noncomputable abbrev rowT (pos : Pos) (x : Int × Str) : Sem Value × Sem Value := (mkInt x.1, do let v ← mkText x.2; standAt pos; pure v)
theorem ents_keyed : ∀ (t : Nat) (xs : List (Int × Str)), KeyedE (ents t xs) (xs.map (·.1))
  | _, [] => KeyedE.nil
  | t, x :: r => by
    have := (KeyedE.one x.1 t (.str x.2 (t + 1))).app (ents_keyed (t + 3) r)
    simpa [ents] using this
theorem entsS_keyed : ∀ (t : Nat) (xs : List (Int × Str)), KeyedE (entsS t xs) (xs.map (·.1))
  | _, [] => KeyedE.nil
  | t, x :: r => by
    have := (KeyedE.one x.1 t (.str x.2 (t + 1))).app (entsS_keyed (t + 2) r)
    simpa [entsS] using this
theorem ents_length : ∀ (t : Nat) (xs : List (Int × Str)), (ents t xs).length = xs.length
  | _, [] => rfl
  | t, x :: r => by simp [ents, ents_length]
theorem entsS_length : ∀ (t : Nat) (xs : List (Int × Str)), (entsS t xs).length = xs.length
  | _, [] => rfl
  | t, x :: r => by simp [entsS, entsS_length]
theorem not_mem_of_nodup {ks : List Int} {x : Int} {r : List Int} (h : (ks ++ x :: r).Nodup) : x ∉ ks := by
  intro hx
  have := List.nodup_append.mp h
  exact this.2.2 x hx x (List.mem_cons_self ..) rfl
theorem long_loop (pos : Pos) {H : Heap} : ∀ (xs : List (Int × Str)) (acc : List DictEntry) (n : Nat) (ks : List Int) (s : Shared) (Q : PUnit → Shared → Prop), s.heap = H.push (dictObj acc n) → KeyedE acc ks → (ks ++ xs.map (·.1)).Nodup → acc.length + xs.length ≤ sizeLine →
    Q PUnit.unit { s with heap := H.push (dictObj (acc ++ ents s.toks xs) (n + xs.length)), toks := s.toks + 3 * xs.length } →
    wpAny (model prog w) A (forIn (xs.map (rowT pos)) PUnit.unit fun (p : Sem Value × Sem Value) (_ : PUnit) => (do
        let kv ← p.1
        let vv ← holding [kv] p.2
        holding [kv, vv] (dictSet H.objs.size kv vv)
        pure (ForInStep.yield PUnit.unit) : Sem (ForInStep PUnit))) Q E s
  | [], acc, n, ks, s, Q, hs, _, _, _, h => by
    rw [List.map_nil, List.forIn_nil]
    refine wpAny_pure ?_
    obtain ⟨hp, g, dr, tk, os⟩ := s
    simp only at hs
    subst hs
    simpa [ents] using h
  | x :: r, acc, n, ks, s, Q, hs, hk, hnd, hz, h => by
    rw [List.map_cons, List.forIn_cons]
    rw [List.length_cons] at hz
    refine wpAny_bind (wpAny_bind (wpAny_mkInt ?_))
    refine wpAny_bind (wpAny_holding (wpAny_bind (wpAny_mkText (wpAny_bind (wpAny_standAt (wpAny_pure ?_))))))
    have ho : ({ s with toks := s.toks + 1 + 1 } : Shared).heap.get? H.objs.size = some (dictObj acc n) := by
      show s.heap.get? _ = _
      rw [hs]; exact Heap.get?_push_size _ rfl
    refine wpAny_bind (wpAny_holding (set_new ho hk (not_mem_of_nodup hnd) (by omega) (wpAny_pure ?_)))
    have e : s.heap.update H.objs.size (fun _ => dictObj (acc ++ [⟨hashInt x.1, .int x.1 s.toks, .str x.2 (s.toks + 1)⟩]) (n + 1)) = H.push (dictObj (acc ++ [⟨hashInt x.1, .int x.1 s.toks, .str x.2 (s.toks + 1)⟩]) (n + 1)) := by
      rw [hs, upd_push]
    refine long_loop pos r (acc ++ [⟨hashInt x.1, .int x.1 s.toks, .str x.2 (s.toks + 1)⟩]) (n + 1) (ks ++ [x.1]) _ Q e (hk.app (KeyedE.one _ _ _)) (by simpa using hnd) (by simp; omega) ?_
    have e2 : acc ++ [⟨hashInt x.1, .int x.1 s.toks, .str x.2 (s.toks + 1)⟩] ++ ents (s.toks + 1 + 1 + 1) r = acc ++ ents s.toks (x :: r) := by simp [ents]
    have e3 : n + 1 + r.length = n + (x :: r).length := by simp; omega
    have e4 : s.toks + 1 + 1 + 1 + 3 * r.length = s.toks + 3 * (x :: r).length := by simp; omega
    show Q _ _
    dsimp only
    rw [e2, e3, e4]; exact h
theorem subDict_long {pos : Pos} {xs : List (Int × Str)} {Q : Addr → Shared → Prop} (hl : 15 < xs.length) (hz : xs.length ≤ sizeLine) (hnd : (xs.map (·.1)).Nodup)
    (h : Q s.heap.objs.size { s with heap := s.heap.push (dictObj (ents s.toks xs) xs.length), toks := s.toks + 3 * xs.length }) : wpAny (model prog w) A (subDict (xs.map (rowT pos))) Q E s := by
  unfold subDict
  refine wpAny_bind (wpAny_alloc (wpAny_bind (wpAny_holding ?_)))
  rw [if_neg (by simp; omega)]
  refine wpAny_bind (wpAny_rule ?_)
  refine wpAny_bind (long_loop pos (H := s.heap) xs [] 0 [] _ _ rfl KeyedE.nil (by simpa using hnd) (by simpa using hz) ?_)
  refine wpAny_pure (wpAny_pure ?_)
  simpa using h
theorem short_eval (pos : Pos) : ∀ (xs : List (Int × Str)) (s : Shared) (Q : List (Value × Value) → Shared → Prop),
    Q ((entsS s.toks xs).map fun e => (e.key, e.val)) { s with toks := s.toks + 2 * xs.length } → wpAny (model prog w) A (evalPairs (xs.map (rowT pos))) Q E s
  | [], s, Q, h => evalPairs_nil (by simpa [entsS] using h)
  | x :: r, s, Q, h => by
    rw [List.map_cons]
    refine evalPairs_cons (wpAny_mkInt (wpAny_bind (wpAny_mkText (wpAny_bind (wpAny_standAt (wpAny_pure ?_))))))
    refine short_eval pos r _ _ ?_
    have e4 : s.toks + 1 + 1 + 2 * r.length = s.toks + 2 * (x :: r).length := by simp; omega
    dsimp only
    rw [e4]
    simpa [entsS] using h
theorem short_loop {H : Heap} : ∀ (es : List DictEntry) (ks' : List Int) (acc : List DictEntry) (n : Nat) (ks : List Int) (s : Shared) (Q : PUnit → Shared → Prop), s.heap = H.push (dictObj acc n) → KeyedE acc ks →
    Each es ks' → (ks ++ ks').Nodup → acc.length + es.length ≤ sizeLine →
    Q PUnit.unit { s with heap := H.push (dictObj (acc ++ es) (n + es.length)), toks := s.toks + es.length } →
    wpAny (model prog w) A (forIn (es.map fun e => (e.key, e.val)) PUnit.unit fun (p : Value × Value) (_ : PUnit) => (do dictSet H.objs.size p.1 p.2; pure (ForInStep.yield PUnit.unit) : Sem (ForInStep PUnit))) Q E s
  | [], _, acc, n, ks, s, Q, hs, _, _, _, _, h => by
    rw [List.map_nil, List.forIn_nil]
    refine wpAny_pure ?_
    obtain ⟨hp, g, dr, tk, os⟩ := s
    simp only at hs
    subst hs
    simpa using h
  | e :: r, ks', acc, n, ks, s, Q, hs, hk, h2, hnd, hz, h => by
    cases h2 with
    | @cons _ k _ kr he hr =>
    obtain ⟨t, e1, e2⟩ := he
    rw [List.map_cons, List.forIn_cons]
    rw [List.length_cons] at hz
    have ho : s.heap.get? H.objs.size = some (dictObj acc n) := by rw [hs]; exact Heap.get?_push_size _ rfl
    dsimp only
    rw [e1]
    refine wpAny_bind (wpAny_bind (set_new ho hk (not_mem_of_nodup hnd) (by omega) (wpAny_pure ?_)))
    have ee : (⟨hashInt k, .int k t, e.val⟩ : DictEntry) = e := by obtain ⟨a, b, c⟩ := e; simp only at e1 e2 ⊢; subst e1; subst e2; rfl
    rw [ee]
    have e5 : s.heap.update H.objs.size (fun _ => dictObj (acc ++ [e]) (n + 1)) = H.push (dictObj (acc ++ [e]) (n + 1)) := by rw [hs, upd_push]
    refine short_loop r kr (acc ++ [e]) (n + 1) (ks ++ [k]) _ Q e5 (hk.app (by rw [← ee]; exact KeyedE.one _ _ _)) hr (by simpa using hnd) (by simp; omega) ?_
    have e3 : n + 1 + r.length = n + (e :: r).length := by simp; omega
    have e4 : s.toks + 1 + r.length = s.toks + (e :: r).length := by simp; omega
    dsimp only
    rw [e3, e4, List.append_assoc]; exact h
theorem entsS_all : ∀ (t : Nat) (xs : List (Int × Str)), Each (entsS t xs) (xs.map (·.1))
  | _, [] => .nil
  | t, x :: r => .cons ⟨t, rfl, rfl⟩ (entsS_all _ r)
theorem ents_all : ∀ (t : Nat) (xs : List (Int × Str)), Each (ents t xs) (xs.map (·.1))
  | _, [] => .nil
  | t, x :: r => .cons ⟨t, rfl, rfl⟩ (ents_all _ r)
theorem subDict_short {pos : Pos} {xs : List (Int × Str)} {Q : Addr → Shared → Prop} (hl : xs.length ≤ 15) (hnd : (xs.map (·.1)).Nodup)
    (h : Q s.heap.objs.size { s with heap := s.heap.push (dictObj (entsS s.toks xs) xs.length), toks := s.toks + 3 * xs.length }) : wpAny (model prog w) A (subDict (xs.map (rowT pos))) Q E s := by
  unfold subDict
  refine wpAny_bind (wpAny_alloc (wpAny_bind (wpAny_holding ?_)))
  rw [if_pos (by simp; omega)]
  refine wpAny_bind (short_eval pos xs _ _ ?_)
  refine wpAny_holding (wpAny_bind (short_loop (H := s.heap) (entsS s.toks xs) _ [] 0 [] _ _ rfl KeyedE.nil (entsS_all ..) (by simpa using hnd) (by rw [entsS_length, sizeLine_eq]; simp; omega) ?_))
  refine wpAny_pure (wpAny_pure ?_)
  have e4 : s.toks + 2 * xs.length + xs.length = s.toks + 3 * xs.length := by omega
  simpa [entsS_length, e4] using h
end
end
end Mine
end
section
namespace Mine
section
open PySem PySem.W PyProof.Rows
set_option linter.all false
set_option maxRecDepth 100000
section
variable {prog : Program} {w : World} {A : Around} {E : Value → Shared → Prop} {s : Shared}
theorem Each.get {es : List DictEntry} {ks : List Int} (h : Each es ks) : ∀ {i : Nat} {e : DictEntry}, es[i]? = some e → ∃ k t, ks[i]? = some k ∧ e.key = .int k t ∧ e.hash = hashInt k := by
  induction h with
  | nil => intro i e h; simp at h
  | @cons e₀ k es ks h0 r ih =>
    intro i e he
    cases i with
    | zero => simp only [List.getElem?_cons_zero, Option.some.injEq] at he; subst he; obtain ⟨t, a, b⟩ := h0; exact ⟨k, t, rfl, a, b⟩
    | succ i => simpa using ih (by simpa using he)
theorem Each.keyed {es : List DictEntry} {ks : List Int} (h : Each es ks) : KeyedE es ks := by
  induction h with
  | nil => exact KeyedE.nil
  | @cons e k es ks h0 r ih =>
    obtain ⟨t, a, b⟩ := h0
    intro x hx
    rcases List.mem_cons.mp hx with rfl | hx
    · exact ⟨k, List.mem_cons_self .., t, a, b⟩
    · obtain ⟨k', hk', r⟩ := ih x hx; exact ⟨k', List.mem_cons_of_mem _ hk', r⟩
theorem Each.length {es : List DictEntry} {ks : List Int} (h : Each es ks) : es.length = ks.length := by
  induction h with
  | nil => rfl
  | cons _ _ ih => simp [ih]
theorem Each.take {es : List DictEntry} {ks : List Int} (h : Each es ks) : ∀ i, Each (es.take i) (ks.take i) := by
  induction h with
  | nil => intro i; simp; exact .nil
  | cons h0 r ih => intro i; cases i with
    | zero => exact .nil
    | succ i => exact .cons h0 (ih i)
theorem Each.app {es fs : List DictEntry} {ks ls : List Int} (h : Each es ks) (h' : Each fs ls) : Each (es ++ fs) (ks ++ ls) := by
  induction h with
  | nil => exact h'
  | cons h0 r ih => exact .cons h0 ih
theorem sub_dict : isSubtype (.type "dict") (.type "dict") = pure true := by rw [isSubtype_type]; kernel_rfl
theorem merge_new {d a : Addr} {es fs : List DictEntry} {n n₂ : Nat} {ks ls : List Int} {Q : Unit → Shared → Prop} (ho : s.heap.get? d = some (dictObj es n)) (ha : s.heap.get? a = some (dictObj fs n₂)) (hda : d ≠ a) (hs : (a == sysModules) = false)
    (hne : es ≠ []) (hk : KeyedE es ks) (hf : Each fs ls) (hnd : (ks ++ ls).Nodup) (hz : es.length + fs.length ≤ sizeLine)
    (h : Q () { s with heap := s.heap.update d (fun _ => dictObj (es ++ fs) (n + fs.length)) }) : wpAny (model prog w) A (mergeMapping d (.ref a) false) Q E s := by
  have hT : s.TypeIs (.ref a) "dict" := ⟨_, ha, rfl⟩
  unfold mergeMapping
  refine wpAny_bind (wpAny_isInstance hT sub_dict ?_)
  rw [if_pos rfl]
  refine wpAny_bind (wpAny_specialOf hT PySem.F.slot_dict_iter.lookup (wpAny_bind (wpAny_pure ?_)))
  rw [show (some (Value.builtin "dict.__iter__") == some (Value.builtin "dict.__iter__")) = true from beq_self_eq_true _]
  dsimp only
  rw [if_neg (by rw [hs]; exact Bool.false_ne_true)]
  refine wpAny_bind (wpAny_dictEntries ho rfl ?_)
  rw [if_neg (by simpa using hne)]
  refine wpAny_bind (wpAny_dictEntries ha rfl ?_)
  refine wpAny_bind (wpAny_dictEpoch ha rfl ?_)
  have key : ∀ i, i ≤ fs.length → ({ s with heap := s.heap.update d (fun _ => dictObj (es ++ fs.take i) (n + i)) } : Shared).heap.get? d = some (dictObj (es ++ fs.take i) (n + i)) := fun i _ => get_upd ho rfl
  have keya : ∀ i, ({ s with heap := s.heap.update d (fun _ => dictObj (es ++ fs.take i) (n + i)) } : Shared).heap.get? a = some (dictObj fs n₂) := fun i => (Heap.get?_update_ne _ _ _ _ (Ne.symm hda)).trans ha
  refine wpAny_bind (wpAny_forIn_list _ (fun rest (_ : PUnit) s' => ∃ i, rest = List.range' i (fs.length - i) ∧ i ≤ fs.length ∧ s' = { s with heap := s.heap.update d (fun _ => dictObj (es ++ fs.take i) (n + i)) }) _ ?_ ?_ _ _ ?_)
  · rintro x rest b s' ⟨i, hr, hi, rfl⟩
    have hlt : i < fs.length := by
      rcases Nat.lt_or_ge i fs.length with q | q
      · exact q
      · rw [show fs.length - i = 0 by omega] at hr; cases hr
    rw [show fs.length - i = (fs.length - (i + 1)) + 1 by omega, List.range'_succ] at hr
    obtain ⟨rfl, rfl⟩ := List.cons.inj hr
    refine wpAny_bind (wpAny_dictEntries (keya x) rfl ?_)
    have hx : fs.toArray[x]? = some fs[x] := by simp [hlt]
    simp only [hx]
    refine wpAny_bind (wpAny_holding ?_)
    obtain ⟨k, t, e0, e1, e2⟩ := hf.get (List.getElem?_eq_getElem hlt)
    rw [if_neg Bool.false_ne_true]
    have hkx : k ∉ ks ++ ls.take x := by
      have hl : ls[x]? = some k := e0
      have hll : x < ls.length := by rw [← hf.length]; exact hlt
      have : ls = ls.take x ++ k :: ls.drop (x + 1) := by
        rw [List.getElem?_eq_getElem hll] at hl
        have := List.take_append_drop x ls
        rw [List.drop_eq_getElem_cons hll, Option.some.inj hl] at this
        exact this.symm
      rw [this, ← List.append_assoc] at hnd
      exact not_mem_of_nodup hnd
    have ee : (⟨hashInt k, .int k t, fs[x].val⟩ : DictEntry) = fs[x] := by
      generalize fs[x] = e at e1 e2
      obtain ⟨a, b, c⟩ := e; simp only at e1 e2 ⊢; subst e1; subst e2; rfl
    rw [e1, e2]
    refine put_new (key x hi) (hk.app (hf.take x).keyed) hkx (by simp; omega) ?_
    rw [ee]
    have hh : (({ s with heap := s.heap.update d (fun _ => dictObj (es ++ fs.take x) (n + x)) } : Shared).heap.update d fun _ => dictObj (es ++ fs.take x ++ [fs[x]]) (n + x + 1)) = s.heap.update d (fun _ => dictObj (es ++ fs.take (x + 1)) (n + (x + 1))) := by
      show (s.heap.update d _).update d _ = _
      rw [upd_upd, List.append_assoc, ← List.take_succ_eq_append_getElem hlt]
      rfl
    rw [hh]
    refine wpAny_bind (wpAny_dictEpoch (keya (x + 1)) rfl ?_)
    rw [if_neg (by simp)]
    exact wpAny_pure ⟨x + 1, rfl, hlt, rfl⟩
  · rintro b s' ⟨i, hr, hi, rfl⟩
    have : i = fs.length := by
      rcases Nat.lt_or_ge i fs.length with q | q
      · rw [show fs.length - i = (fs.length - (i + 1)) + 1 by omega, List.range'_succ] at hr; cases hr
      · omega
    subst this
    rw [List.take_length]
    exact wpAny_pure h
  · refine ⟨0, ?_, Nat.zero_le _, ?_⟩
    · show List.range _ = _
      rw [List.range_eq_range']; simp
    · rw [List.take_zero, List.append_nil, Nat.add_zero, upd_same ho]
/-- one chunk's dict on the heap -/
noncomputable abbrev chunkHeap (H : Heap) (m : Addr) (acc : List DictEntry) (n : Nat) (e : List DictEntry) : Heap := (H.push (dictObj e e.length)).update m (fun _ => dictObj (acc ++ e) (n + e.length))
end
end
end Mine
end
section
namespace Mine
section
open PySem PySem.W PyProof.Rows
set_option linter.all false
set_option maxRecDepth 100000
section
variable {prog : Program} {w : World} {A : Around} {E : Value → Shared → Prop} {s : Shared}
theorem upd_comm (H : Heap) (o : Obj) (m : Addr) (f : Obj → Obj) (hm : m < H.objs.size) : (H.push o).update m f = (H.update m f).push o := by
  obtain ⟨objs, life⟩ := H
  show Heap.mk _ _ = Heap.mk _ _
  congr 1
  apply Array.ext_getElem?
  intro i
  have hm' : m < objs.size := hm
  rw [Array.getElem?_modify, Array.getElem?_push, Array.getElem?_push, Array.getElem?_modify, Array.size_modify]
  by_cases e : i = objs.size
  · subst e
    have : m ≠ objs.size := Nat.ne_of_lt hm'
    simp [this]
  · simp [e]
noncomputable abbrev Row : Type := Int × Str
noncomputable abbrev itemT (pos : Pos) (x : Row) : Option (Sem Value) × Sem Value := (some (rowT pos x).1, (rowT pos x).2)
noncomputable abbrev St := Option Addr × List (Sem Value × Sem Value)
theorem gather {f : (Option (Sem Value) × Sem Value) → St → Sem (ForInStep St)} (hf : ∀ (p : Sem Value × Sem Value) (m : Option Addr) (run : List (Sem Value × Sem Value)), run.length + 1 < 17 → f (some p.1, p.2) (m, run) = pure (.yield (m, run ++ [p])))
    {pos : Pos} {rest : List (Option (Sem Value) × Sem Value)} {m : Option Addr} : ∀ (xs : List Row) (run : List (Sem Value × Sem Value)), run.length + xs.length < 17 → forIn (xs.map (itemT pos) ++ rest) (m, run) f = forIn rest (m, run ++ xs.map (rowT pos)) f
  | [], run, _ => by simp
  | p :: r, run, h => by
    rw [List.map_cons, List.cons_append, List.forIn_cons, hf (rowT pos p) m run (by simp at h; omega), pure_bind]
    have := gather hf (pos := pos) (rest := rest) (m := m) r (run ++ [rowT pos p]) (by simp at h ⊢; omega)
    simpa using this
theorem chunk_eq {f : (Option (Sem Value) × Sem Value) → St → Sem (ForInStep St)} {flush : List (Sem Value × Sem Value) → Option Addr → Sem (Option Addr)} (hf : ∀ (p : Sem Value × Sem Value) (m : Option Addr) (run : List (Sem Value × Sem Value)), run.length + 1 < 17 → f (some p.1, p.2) (m, run) = pure (.yield (m, run ++ [p])))
    (hg : ∀ (p : Sem Value × Sem Value) (m : Option Addr) (run : List (Sem Value × Sem Value)), run.length + 1 = 17 → f (some p.1, p.2) (m, run) = (do let m' ← flush (run ++ [p]) m; pure (.yield (m', []))))
    {pos : Pos} {rest : List (Option (Sem Value) × Sem Value)} {m : Option Addr} (xs : List Row) (h : xs.length = 17) : forIn (xs.map (itemT pos) ++ rest) (m, []) f = (do let m' ← flush (xs.map (rowT pos)) m; forIn rest (m', []) f) := by
  obtain ⟨ys, y, rfl⟩ : ∃ ys y, xs = ys ++ [y] := ⟨xs.dropLast, xs.getLast (by intro e; subst e; cases h), (List.dropLast_concat_getLast _).symm⟩
  have hy : ys.length = 16 := by simpa using h
  rw [List.map_append, List.append_assoc, gather hf ys [] (by simp; omega), List.nil_append, List.map_cons, List.map_nil, List.cons_append, List.nil_append, List.forIn_cons, hg (rowT pos y) m _ (by simp [hy])]
  rw [List.map_append]
  show Sem.bind (Sem.bind _ _) _ = Sem.bind _ _
  rw [show ∀ {α β γ : Type} (x : Sem α) (g : α → Sem β) (k : β → Sem γ), Sem.bind (Sem.bind x g) k = Sem.bind x (fun a => Sem.bind (g a) k) from fun x g k => bind_assoc x g k]
  rfl
noncomputable def pushAll : Heap → List Obj → Heap
  | H, [] => H
  | H, o :: r => pushAll (H.push o) r
noncomputable def subsOf : Nat → List (List Row) → List Obj
  | _, [] => []
  | t, c :: r => dictObj (ents t c) 17 :: subsOf (t + 51) r
noncomputable def entsAll : Nat → List (List Row) → List DictEntry
  | _, [] => []
  | t, c :: r => ents t c ++ entsAll (t + 51) r
theorem pushAll_upd (m : Addr) (f : Obj → Obj) : ∀ (os : List Obj) (H : Heap), m < H.objs.size → (pushAll H os).update m f = pushAll (H.update m f) os
  | [], _, _ => rfl
  | o :: r, H, h => by
    show (pushAll (H.push o) r).update m f = pushAll ((H.update m f).push o) r
    rw [pushAll_upd m f r (H.push o) (by rw [Heap.size_push]; exact Nat.lt_succ_of_lt h), upd_comm _ _ _ _ h]
theorem pushAll_app : ∀ (os ps : List Obj) (H : Heap), pushAll H (os ++ ps) = pushAll (pushAll H os) ps
  | [], _, _ => rfl
  | o :: r, ps, H => pushAll_app r ps (H.push o)
/-- what the display's own part does with a run -/
noncomputable abbrev flushT (run : List (Sem Value × Sem Value)) (main : Option Addr) : Sem (Option Addr) := do
  if run.isEmpty then return main
  match main with
  | none => return some (← subDict run)
  | some d =>
    let sub ← holding [.ref d] (subDict run)
    (holding [.ref d, .ref sub] (mergeMapping d (.ref sub) false)).onRaise fun x => do let _ ← holding [.ref d, x] (runValue (.builtin "proto.let_go" {}))
    return some d
theorem flush_first {pos : Pos} {xs : List Row} {Q : Option Addr → Shared → Prop} (hl : xs.length = 17) (hnd : (xs.map (·.1)).Nodup)
    (h : Q (some s.heap.objs.size) { s with heap := s.heap.push (dictObj (ents s.toks xs) 17), toks := s.toks + 51 }) : wpAny (model prog w) A (flushT (xs.map (rowT pos)) none) Q E s := by
  unfold flushT
  rw [if_neg (by cases xs with | nil => cases hl | cons => simp)]
  refine wpAny_bind (subDict_long (by omega) (by rw [hl, sizeLine_eq]; omega) hnd (wpAny_pure ?_))
  rw [hl]; exact h
theorem flush_more {pos : Pos} {xs : List Row} {es : List DictEntry} {e : List DictEntry} {n : Nat} {ks : List Int} {d : Addr} {tk : Nat} {Q : Option Addr → Shared → Prop}
    (hsub : ∀ (Q : Addr → Shared → Prop), Q s.heap.objs.size { s with heap := s.heap.push (dictObj e e.length), toks := tk } → wpAny (model prog w) A (subDict (xs.map (rowT pos))) Q E s)
    (he : Each e (xs.map (·.1))) (hne : xs ≠ []) (ho : s.heap.get? d = some (dictObj es n)) (hes : es ≠ []) (hk : KeyedE es ks) (hnd : (ks ++ xs.map (·.1)).Nodup) (hz : es.length + e.length ≤ sizeLine) (hm : s.heap.objs.size ≠ 1)
    (h : Q (some d) { s with heap := (s.heap.update d (fun _ => dictObj (es ++ e) (n + e.length))).push (dictObj e e.length), toks := tk }) : wpAny (model prog w) A (flushT (xs.map (rowT pos)) (some d)) Q E s := by
  unfold flushT
  rw [if_neg (by cases xs with | nil => exact absurd rfl hne | cons => simp)]
  have hd : d < s.heap.objs.size := Heap.lt_size ho
  refine wpAny_bind (wpAny_holding (hsub _ (wpAny_bind (wpAny_onRaise (wpAny_holding ?_)))))
  refine merge_new (es := es) (fs := e) (n := n) (n₂ := e.length) (ks := ks) (ls := xs.map (·.1)) (Heap.get?_push_of_some _ ho) (Heap.get?_push_size _ rfl) (Nat.ne_of_lt hd) (beq_eq_false_iff_ne.mpr hm) hes hk he hnd hz (wpAny_pure ?_)
  rw [show ({ s with heap := s.heap.push (dictObj e e.length), toks := tk } : Shared).heap = s.heap.push (dictObj e e.length) from rfl, upd_comm _ _ _ _ hd]
  exact h
end
end
end Mine
end
section
namespace Mine
section
open PySem PySem.W PyProof.Rows
set_option linter.all false
set_option maxRecDepth 100000
section
variable {prog : Program} {w : World} {A : Around} {E : Value → Shared → Prop} {s : Shared}
theorem entsAll_length : ∀ (t : Nat) (cs : List (List Row)), (∀ c ∈ cs, c.length = 17) → (entsAll t cs).length = 17 * cs.length
  | _, [], _ => rfl
  | t, c :: r, h => by
    rw [entsAll, List.length_append, ents_length, h c (List.mem_cons_self ..), entsAll_length _ r (fun x hx => h x (List.mem_cons_of_mem _ hx)), List.length_cons]; omega
theorem entsAll_each : ∀ (t : Nat) (cs : List (List Row)), Each (entsAll t cs) (cs.flatten.map (·.1))
  | _, [] => .nil
  | t, c :: r => by
    rw [entsAll, List.flatten_cons, List.map_append]
    exact (ents_all t c).app (entsAll_each _ r)
theorem loop_more {f : (Option (Sem Value) × Sem Value) → St → Sem (ForInStep St)} (hf : ∀ (p : Sem Value × Sem Value) (m : Option Addr) (run : List (Sem Value × Sem Value)), run.length + 1 < 17 → f (some p.1, p.2) (m, run) = pure (.yield (m, run ++ [p])))
    (hg : ∀ (p : Sem Value × Sem Value) (m : Option Addr) (run : List (Sem Value × Sem Value)), run.length + 1 = 17 → f (some p.1, p.2) (m, run) = (do let m' ← flushT (run ++ [p]) m; pure (.yield (m', []))))
    {pos : Pos} {l : List Row} (hl : l.length < 17) {d : Addr} : ∀ (cs : List (List Row)) (acc : List DictEntry) (n : Nat) (ks : List Int) (s : Shared) (Q : St → Shared → Prop), (∀ c ∈ cs, c.length = 17) → s.heap.get? d = some (dictObj acc n) → acc ≠ [] → KeyedE acc ks →
      (ks ++ cs.flatten.map (·.1)).Nodup → acc.length + 17 * cs.length ≤ sizeLine → 1 < s.heap.objs.size →
      Q (some d, l.map (rowT pos)) { s with heap := pushAll (s.heap.update d (fun _ => dictObj (acc ++ entsAll s.toks cs) (n + 17 * cs.length))) (subsOf s.toks cs), toks := s.toks + 51 * cs.length } →
      wpAny (model prog w) A (forIn ((cs.flatten ++ l).map (itemT pos)) (some d, []) f) Q E s
  | [], acc, n, ks, s, Q, _, ho, _, _, _, _, _, h => by
    have := gather hf (pos := pos) (rest := []) (m := some d) l [] (by simpa using hl)
    rw [List.append_nil, List.nil_append, List.forIn_nil] at this
    rw [List.flatten_nil, List.nil_append, this]
    refine wpAny_pure ?_
    obtain ⟨hp, g, dr, tk, os⟩ := s
    have e : (hp.update d fun _ => dictObj (acc ++ entsAll tk []) (n + 17 * ([] : List (List Row)).length)) = hp := by
      rw [entsAll, List.append_nil]; exact upd_same ho
    have h2 := h
    dsimp only [subsOf, pushAll] at h2
    rw [e] at h2
    exact h2
  | c :: r, acc, n, ks, s, Q, h17, ho, hne, hk, hnd, hz, hm, h => by
    have hc : c.length = 17 := h17 c (List.mem_cons_self ..)
    rw [List.length_cons] at hz
    rw [List.flatten_cons, List.map_append, ← List.append_assoc] at hnd
    rw [List.flatten_cons, List.append_assoc, List.map_append, chunk_eq hf hg c hc]
    have hnd1 := (List.nodup_append.mp hnd).1
    have hndc : (c.map (·.1)).Nodup := (List.nodup_append.mp hnd1).2.1
    have hE : (ents s.toks c).length = 17 := (ents_length ..).trans hc
    have hlen : ({ s with toks := s.toks + 51 } : Shared).toks = s.toks + 51 := rfl
    refine wpAny_bind (flush_more (e := ents s.toks c) (es := acc) (n := n) (ks := ks) (tk := s.toks + 51) (fun Q hQ => subDict_long (by omega) (by rw [hc, sizeLine_eq]; omega) hndc (by rw [hc]; rw [hE] at hQ; exact hQ)) (ents_all ..) (by intro e; subst e; cases hc) ho hne hk hnd1 (by omega) (Nat.ne_of_gt hm) ?_)
    have hd : d < s.heap.objs.size := Heap.lt_size ho
    have hd' : d < (s.heap.update d (fun _ => dictObj (acc ++ ents s.toks c) (n + (ents s.toks c).length))).objs.size := by
      rw [show (s.heap.update d _).objs.size = s.heap.objs.size from (Heap.SameBut.update ..).1]; exact hd
    refine loop_more hf hg hl r (acc ++ ents s.toks c) (n + 17) (ks ++ c.map (·.1)) _ Q (fun x hx => h17 x (List.mem_cons_of_mem _ hx)) ?_ (by intro e; exact hne (List.append_eq_nil_iff.mp e).1) (hk.app (ents_keyed _ _)) hnd (by rw [List.length_append, hE]; omega) ?_ ?_
    · show ((s.heap.update d _).push _).get? d = _
      rw [hE]
      exact Heap.get?_push_of_some _ (get_upd ho rfl)
    · show 1 < ((s.heap.update d _).push _).objs.size
      rw [Heap.size_push, show (s.heap.update d _).objs.size = s.heap.objs.size from (Heap.SameBut.update ..).1]; omega
    · have e1 : ∀ (o : Obj), ((s.heap.update d (fun _ => dictObj (acc ++ ents s.toks c) (n + 17))).push (dictObj (ents s.toks c) 17)).update d (fun _ => o) = (s.heap.update d (fun _ => o)).push (dictObj (ents s.toks c) 17) := fun o => by
        rw [upd_comm _ _ _ _ (by rw [show (s.heap.update d _).objs.size = s.heap.objs.size from (Heap.SameBut.update ..).1]; exact hd), upd_upd]
      have e4 : s.toks + 51 + 51 * r.length = s.toks + 51 * (c :: r).length := by rw [List.length_cons]; omega
      have e5 : n + 17 + 17 * r.length = n + 17 * (c :: r).length := by rw [List.length_cons]; omega
      rw [hE]
      dsimp only
      rw [e1, List.append_assoc, e4, e5]
      exact h
theorem display {pos : Pos} {c₀ : List Row} {cs : List (List Row)} {l : List Row} {Q : Value → Shared → Prop} (h0 : c₀.length = 17) (h17 : ∀ c ∈ cs, c.length = 17) (hl : l.length ≤ 15) (hl0 : l ≠ [])
    (hnd : ((c₀ ++ (cs.flatten ++ l)).map (·.1)).Nodup) (hz : 17 + 17 * cs.length + 15 ≤ sizeLine) (hm : 1 < s.heap.objs.size)
    (h : Q (.ref s.heap.objs.size) { s with heap := pushAll s.heap (dictObj (ents s.toks c₀ ++ entsAll (s.toks + 51) cs ++ entsS (s.toks + 51 + 51 * cs.length) l) (17 + 17 * cs.length + l.length) :: (subsOf (s.toks + 51) cs ++ [dictObj (entsS (s.toks + 51 + 51 * cs.length) l) l.length])), toks := s.toks + 51 + 51 * cs.length + 3 * l.length }) : wpAny (model prog w) A (dictDisplay ((c₀ ++ (cs.flatten ++ l)).map (itemT pos))) Q E s := by
  rw [List.map_append, List.map_append] at hnd
  have hnd0 := (List.nodup_append.mp hnd).1
  rw [← List.append_assoc] at hnd
  have hnd1 := (List.nodup_append.mp hnd).1
  have hndl : (l.map (·.1)).Nodup := (List.nodup_append.mp hnd).2.1
  unfold dictDisplay
  dsimp only
  rw [List.map_append]
  refine wpAny_bind ?_
  have hf : ∀ (p : Sem Value × Sem Value) (m : Option Addr) (run : List (Sem Value × Sem Value)), run.length + 1 < 17 → ((run ++ [p]).length == 17) = false := fun p m run hr => by simp; omega
  have hg : ∀ (p : Sem Value × Sem Value) (m : Option Addr) (run : List (Sem Value × Sem Value)), run.length + 1 = 17 → ((run ++ [p]).length == 17) = true := fun p m run hr => by simp; omega
  rw [chunk_eq (flush := flushT) (fun p m run hr => by dsimp only; rw [hf p m run hr]; rfl) (fun p m run hr => by dsimp only; rw [hg p m run hr]; rfl) c₀ h0]
  have hE : (ents s.toks c₀).length = 17 := (ents_length ..).trans h0
  refine wpAny_bind (flush_first h0 hnd0 ?_)
  refine loop_more (fun p m run hr => by dsimp only; rw [hf p m run hr]; rfl) (fun p m run hr => by dsimp only; rw [hg p m run hr]; rfl) (by omega) (d := s.heap.objs.size) cs (ents s.toks c₀) 17 (c₀.map (·.1)) _ _ h17 (Heap.get?_push_size _ rfl) (by intro e; rw [e] at hE; cases hE) (ents_keyed _ _) hnd1 (by omega) (by show 1 < (s.heap.push _).objs.size; rw [Heap.size_push]; omega) ?_
  dsimp only
  rw [upd_push]
  have hsz : ∀ (os : List Obj) (H : Heap), (pushAll H os).objs.size = H.objs.size + os.length := by
    intro os
    induction os with
    | nil => intro H; rfl
    | cons o r ih => intro H; show (pushAll (H.push o) r).objs.size = _; rw [ih, Heap.size_push, List.length_cons]; omega
  have hget : ∀ (os : List Obj) (H : Heap) (a : Addr) (o : Obj), H.get? a = some o → (pushAll H os).get? a = some o := by
    intro os
    induction os with
    | nil => intro H a o e; exact e
    | cons x r ih => intro H a o e; exact ih _ _ _ (Heap.get?_push_of_some _ e)
  have hL : (entsS (s.toks + 51 + 51 * cs.length) l).length = l.length := entsS_length ..
  refine wpAny_bind (flush_more (s := { s with heap := pushAll (s.heap.push (dictObj (ents s.toks c₀ ++ entsAll (s.toks + 51) cs) (17 + 17 * cs.length))) (subsOf (s.toks + 51) cs), toks := s.toks + 51 + 51 * cs.length }) (e := entsS (s.toks + 51 + 51 * cs.length) l) (es := ents s.toks c₀ ++ entsAll (s.toks + 51) cs) (n := 17 + 17 * cs.length) (ks := c₀.map (·.1) ++ cs.flatten.map (·.1)) (tk := s.toks + 51 + 51 * cs.length + 3 * l.length) (d := s.heap.objs.size)
    (fun Q hQ => subDict_short hl hndl (by dsimp only; rw [hL] at hQ; exact hQ)) (entsS_all ..) hl0 (hget _ _ _ _ (Heap.get?_push_size _ rfl)) (by intro e; rw [(List.append_eq_nil_iff.mp e).1] at hE; cases hE) ((ents_keyed _ _).app (entsAll_each ..).keyed) hnd (by rw [List.length_append, hE, entsAll_length _ _ h17, hL]; omega) (by dsimp only; rw [hsz, Heap.size_push]; omega) ?_)
  refine wpAny_pure ?_
  dsimp only
  rw [pushAll_upd _ _ _ _ (by rw [Heap.size_push]; exact Nat.lt_succ_self _), upd_push, hL]
  have := h
  dsimp only [pushAll] at this
  rw [pushAll_app] at this
  exact this
end
end
end Mine
end
section
namespace Mine
section
open PySem PySem.W PyProof.Rows
set_option linter.all false
set_option maxRecDepth 100000
theorem ev_wp {w : World} {α : Type} {n : Nat} {Γ : Ctx} {t : Sem α} {p p' : Pos} {s s' : SharedT} {a : α} {Q : α → Pos → Shared → Prop} {E : Value → Pos → Shared → Prop}
    (h : ev dnQ pw w.params n α Γ t p s = some (.ok a, p', s')) (hq : Q a p' s'.abs) : Sem.wp (model pw w) Γ t Q E p s.abs := by
  rw [model_eq]
  exact ev_sound (M := MQ w) n α Γ t p s _ h Q E hq
noncomputable abbrev stO := cut treeO 11 181
noncomputable abbrev stD := cut treeD 143 2316
theorem boot_is (w : World) (os : OsState) : (stO w os).abs = ⟨boot_heap w.params, #[], boot_drawn, boot_toks, os⟩ := by
  have : absHeap (treeO w.params) 11 {} = boot_heap w.params := by kernel_rfl
  show (⟨absHeap (treeO w.params) 11 {}, _, _, _, _⟩ : Shared) = _
  rw [this]
  rfl
noncomputable def d12 : Pos × List (Option Expr) × List Expr × Pos × Pos := match (PySem.Challenge.pw_ux0031_01.main.body[12]? : Option Stmt) with
  | some (Stmt.Assign [.Name _ a] (.Dict ks vs b) c) => (a, ks, vs, b, c)
  | _ => (default, [], [], default, default)
noncomputable abbrev dictStmt : Stmt := .Assign [.Name "b3_exceptions" d12.1] (.Dict d12.2.1 d12.2.2.1 d12.2.2.2.1) d12.2.2.2.2
theorem body_eq : pw.main.body = sts1 ++ (sts2 ++ (dictStmt :: sts4)) := by kernel_rfl
theorem behind_eq : behindTheImports pw = pw.main.body := by kernel_rfl
noncomputable def intOf : Option Expr → Option Int
  | some e => match e with
    | .Constant c _ _ => match c with
      | .int i => some i
      | _ => none
    | _ => none
  | none => none
noncomputable def strOf : Expr → Option Str
  | .Constant c _ _ => match c with
    | .str v => some v
    | _ => none
  | _ => none
theorem intOf_inv {o : Option Expr} {i : Int} (h : intOf o = some i) : ∃ a b, o = some (.Constant (.int i) a b) := by
  unfold intOf at h
  split at h
  · split at h
    · split at h
      · cases h; exact ⟨_, _, rfl⟩
      · cases h
    · cases h
  · cases h
theorem strOf_inv {e : Expr} {v : Str} (h : strOf e = some v) : ∃ a b, e = .Constant (.str v) a b := by
  unfold strOf at h
  split at h
  · split at h
    · cases h; exact ⟨_, _, rfl⟩
    · cases h
  · cases h
noncomputable def rowOf (k : Option Expr) (v : Expr) : Option Row := (intOf k).bind fun i => (strOf v).map fun s => (i, s)
noncomputable def rowsOf : List (Option Expr) → List Expr → Option (List Row)
  | [], [] => some []
  | k :: ks, v :: vs => (rowOf k v).bind fun p => (rowsOf ks vs).map (p :: ·)
  | _, _ => none
theorem items_of (env : Env) (pos : Pos) : ∀ (ks : List (Option Expr)) (vs : List Expr) (rows : List Row), rowsOf ks vs = some rows →
    (evalEachOpt ks env).zip ((evalEach vs env).map fun v => do let x ← v; standAt pos; pure x) = rows.map (itemT pos)
  | [], [], rows, h => by cases h; rfl
  | k :: ks, v :: vs, rows, h => by
    unfold rowsOf at h
    obtain ⟨p, hp, h⟩ := Option.bind_eq_some_iff.mp h
    obtain ⟨r, hr, rfl⟩ := Option.map_eq_some_iff.mp h
    obtain ⟨i, hi, hp⟩ := Option.bind_eq_some_iff.mp hp
    obtain ⟨s, hs, rfl⟩ := Option.map_eq_some_iff.mp hp
    obtain ⟨a, b, rfl⟩ := intOf_inv hi
    obtain ⟨c, d, rfl⟩ := strOf_inv hs
    have ih := items_of env pos ks vs r hr
    show (evalOpt (some (.Constant (.int i) a b)) env :: evalEachOpt ks env).zip (((eval (.Constant (.str s) c d) env) :: evalEach vs env).map _) = _
    rw [List.map_cons, List.zip_cons_cons, ih, List.map_cons]
    rfl
  | [], _ :: _, _, h => by cases h
  | _ :: _, [], _, h => by cases h
theorem rows12 : rowsOf d12.2.1 d12.2.2.1 = some b3 := by kernel_rfl
noncomputable def incr : List Int → Bool
  | a :: b :: r => decide (a < b) && incr (b :: r)
  | _ => true
theorem incr_pair : ∀ (l : List Int), incr l = true → l.Pairwise (· < ·)
  | [], _ => .nil
  | [a], _ => by simp
  | a :: b :: r, h => by
    simp only [incr, Bool.and_eq_true, decide_eq_true_eq] at h
    have ih := incr_pair (b :: r) h.2
    refine List.pairwise_cons.mpr ⟨fun x hx => ?_, ih⟩
    rcases List.mem_cons.mp hx with rfl | hx
    · exact h.1
    · exact Int.lt_trans h.1 ((List.pairwise_cons.mp ih).1 x hx)
theorem incr_nodup {l : List Int} (h : incr l = true) : l.Nodup := (incr_pair l h).imp (fun h => Int.ne_of_lt h)
theorem b3_incr : incr (b3.map (·.1)) = true := by decide +kernel
noncomputable def ch0 : List Row := b3.take 17
noncomputable def chs : List (List Row) := (List.range 37).map fun j => (b3.drop (17 * (j + 1))).take 17
noncomputable def chl : List Row := b3.drop 646
theorem b3_parts : b3 = ch0 ++ (chs.flatten ++ chl) := by kernel_rfl
theorem ch0_len : ch0.length = 17 := by decide +kernel
theorem chs_len : ∀ c ∈ chs, c.length = 17 := by
  have : (chs.all fun c => c.length == 17) = true := by decide +kernel
  intro c hc
  exact beq_iff_eq.mp (List.all_eq_true.mp this c hc)
theorem chl_len : chl.length = 4 := by decide +kernel
theorem chs_n : chs.length = 37 := by decide +kernel
theorem heapD (w : World) : pushAll (absHeap (treeC w.params) 104 {}) (dictObj (ents 366 ch0 ++ entsAll 417 chs ++ entsS 2304 chl) 650 :: (subsOf 417 chs ++ [dictObj (entsS 2304 chl) 4])) = absHeap (treeD w.params) 143 {} := by kernel_rfl
noncomputable abbrev storeQ : Env → Str → Value → Sem Unit := PySem.W.Fast.tw7998390705656384164
theorem store_eq : storeName = storeQ := PySem.W.Fast.te7998390705656384164
theorem runStore (w : World) : (fun (os : OsState) (p : Pos) (Γ : Ctx) => ev dnQ pw w.params 1000 Unit Γ (storeQ topEnv "b3_exceptions" (.ref 104)) p (stD w os)) = fun os p _ => some (.ok (), p, stE w os) := by kernel_rfl
end
end Mine
end
section
namespace Mine
section
open PySem PySem.W PyProof.Rows
set_option linter.all false
set_option maxRecDepth 100000
theorem swaps12 : swapsWith (.Dict d12.2.1 d12.2.2.1 d12.2.2.2.1) (some (.Name "b3_exceptions" d12.1)) d12.2.2.2.2.line topEnv = pure false := by kernel_rfl
theorem assign12 {M : Model} {A : Around} {E : Value → Shared → Prop} {s : Shared} {Q : Flow → Shared → Prop} (x : Str) (a b c : Pos) (ks : List (Option Expr)) (vs : List Expr) (env : Env)
    (hs : swapsWith (.Dict ks vs b) (some (.Name x a)) c.line env = pure false)
    (h : wpAny M A (dictDisplay ((evalEachOpt ks env).zip ((evalEach vs env).map fun v => do let x ← v; standAt b; pure x))) (fun v s₁ => wpAny M A (storeName env x v) (fun _ => Q .next) E s₁) E s) :
    wpAny M A (exec (.Assign [.Name x a] (.Dict ks vs b) c) env) Q E s := by
  refine wpAny_Assign_Name (hs := hs) ?_
  rw [arm_eval_Dict]
  exact wpAny_bind (wpAny_standAt h)
noncomputable def A1 : Around := { handled := none, depth := frameCount Γ1.below + Γ1.code.weight, frames := none, guards := none, units := Γ1.units }
theorem in1 : Γ1.In A1 := ⟨rfl, Nat.le_refl _, fun l h => (nomatch h), fun l h => (nomatch h), Nat.le_refl _⟩
theorem dict_gen {w : World} {A : Around} {E : Value → Shared → Prop} {s : Shared} {Q : Flow → Shared → Prop} (x : Str) (a b c : Pos) (ks : List (Option Expr)) (vs : List Expr) (env : Env) {c₀ : List Row} {cs : List (List Row)} {l : List Row} {rows : List Row}
    (hrows : rowsOf ks vs = some rows) (hparts : rows = c₀ ++ (cs.flatten ++ l)) (hs : swapsWith (.Dict ks vs b) (some (.Name x a)) c.line env = pure false)
    (h0 : c₀.length = 17) (h17 : ∀ c ∈ cs, c.length = 17) (hl : l.length ≤ 15) (hl0 : l ≠ []) (hnd : (rows.map (·.1)).Nodup) (hz : 17 + 17 * cs.length + 15 ≤ sizeLine) (hm : 1 < s.heap.objs.size)
    (h : wpAny (model pw w) A (storeName env x (.ref s.heap.objs.size)) (fun _ => Q .next) E { s with heap := pushAll s.heap (dictObj (ents s.toks c₀ ++ entsAll (s.toks + 51) cs ++ entsS (s.toks + 51 + 51 * cs.length) l) (17 + 17 * cs.length + l.length) :: (subsOf (s.toks + 51) cs ++ [dictObj (entsS (s.toks + 51 + 51 * cs.length) l) l.length])), toks := s.toks + 51 + 51 * cs.length + 3 * l.length }) :
    wpAny (model pw w) A (exec (.Assign [.Name x a] (.Dict ks vs b) c) env) Q E s := by
  subst hparts
  refine assign12 x a b c ks vs env hs ?_
  rw [items_of env b _ _ _ hrows]
  exact display h0 h17 hl hl0 hnd hz hm h
theorem chl_small : chl.length ≤ 15 := by rw [chl_len]; omega
theorem chl_ne : chl ≠ [] := by intro e; have := chl_len; rw [e] at this; cases this
theorem chs_room : 17 + 17 * chs.length + 15 ≤ sizeLine := by rw [chs_n, sizeLine_eq]; omega
theorem stC_size (w : World) (os : OsState) : (stC w os).abs.heap.objs.size = 104 := absHeap_size ..
theorem stC_room (w : World) (os : OsState) : 1 < (stC w os).abs.heap.objs.size := by rw [stC_size]; omega
theorem stC_after (w : World) (os : OsState) : ({ (stC w os).abs with heap := pushAll (stC w os).abs.heap (dictObj (ents (stC w os).abs.toks ch0 ++ entsAll ((stC w os).abs.toks + 51) chs ++ entsS ((stC w os).abs.toks + 51 + 51 * chs.length) chl) (17 + 17 * chs.length + chl.length) :: (subsOf ((stC w os).abs.toks + 51) chs ++ [dictObj (entsS ((stC w os).abs.toks + 51 + 51 * chs.length) chl) chl.length])), toks := (stC w os).abs.toks + 51 + 51 * chs.length + 3 * chl.length } : Shared) = (stD w os).abs := by
  rw [chs_n, chl_len]
  show (⟨pushAll (absHeap (treeC w.params) 104 {}) _, _, _, _, _⟩ : Shared) = ⟨absHeap (treeD w.params) 143 {}, _, _, _, _⟩
  rw [← heapD w]
  rfl
noncomputable def atE (w : World) (os : OsState) (f : Flow) (s : Shared) : Prop := f = .next ∧ s = (stE w os).abs
noncomputable def noE (_ : Value) (_ : Shared) : Prop := False
theorem atE_mk (w : World) (os : OsState) : atE w os .next (stE w os).abs := And.intro rfl rfl
theorem store_wp (w : World) (os : OsState) : wpAny (model pw w) A1 (storeName topEnv (Str.ofString "b3_exceptions") (.ref (stC w os).abs.heap.objs.size)) (fun _ => atE w os .next) noE { (stC w os).abs with heap := pushAll (stC w os).abs.heap (dictObj (ents (stC w os).abs.toks ch0 ++ entsAll ((stC w os).abs.toks + 51) chs ++ entsS ((stC w os).abs.toks + 51 + 51 * chs.length) chl) (17 + 17 * chs.length + chl.length) :: (subsOf ((stC w os).abs.toks + 51) chs ++ [dictObj (entsS ((stC w os).abs.toks + 51 + 51 * chs.length) chl) chl.length])), toks := (stC w os).abs.toks + 51 + 51 * chs.length + 3 * chl.length } := by
  rw [stC_after, stC_size, store_eq]
  exact fun Γ p₁ _ => ev_wp (Q := fun _ _ s' => atE w os .next s') (E := fun e _ s' => noE e s') (congrFun (congrFun (congrFun (runStore w) os) p₁) Γ) (atE_mk w os)
theorem dict_any (w : World) (os : OsState) : wpAny (model pw w) A1 (exec dictStmt topEnv) (atE w os) noE (stC w os).abs := by
  have h := @dict_gen w A1 noE (stC w os).abs (atE w os) (Str.ofString "b3_exceptions") d12.1 d12.2.2.2.1 d12.2.2.2.2 d12.2.1 d12.2.2.1 topEnv ch0 chs chl b3 rows12 b3_parts swaps12 ch0_len chs_len chl_small chl_ne (incr_nodup b3_incr) chs_room (stC_room w os) (store_wp w os)
  with_reducible exact h
noncomputable def WP (M : Model) (Γ : Ctx) (t : Sem Flow) (s s' : Shared) : Prop := ∀ (p : Pos) (Q : Flow → Pos → Shared → Prop) (E : Value → Pos → Shared → Prop), (∀ p', Q .next p' s') → Sem.wp M Γ t Q E p s
theorem WP.any {M : Model} {A : Around} {t : Sem Flow} {s s' : Shared} {Γ : Ctx} {R : Flow → Shared → Prop} (hR : ∀ f₁ s₁, R f₁ s₁ → f₁ = .next ∧ s₁ = s') (k : wpAny M A t R noE s) (hΓ : Γ.In A) : WP M Γ t s s' :=
  fun p Q E h => Sem.wp_mono _ _ _ (fun f₁ p' s₁ e => by obtain ⟨rfl, rfl⟩ := hR f₁ s₁ e; exact h p') (fun _ _ _ e => e.elim) _ _ (k Γ p hΓ)
theorem dict_WP (w : World) (os : OsState) : WP (model pw w) Γ1 (exec dictStmt topEnv) (stC w os).abs (stE w os).abs :=
  @WP.any (model pw w) A1 (exec dictStmt topEnv) (stC w os).abs (stE w os).abs Γ1 (atE w os) (fun f₁ s₁ e => e) (@dict_any w os) in1
theorem execs_app (env : Env) : ∀ (a b : List Stmt), execs (a ++ b) env = (do match ← execs a env with | .next => execs b env | f => pure f)
  | [], b => rfl
  | s :: a, b => by
    rw [List.cons_append]
    show Sem.bind (exec s env) _ = Sem.bind (Sem.bind (exec s env) _) _
    rw [show ∀ {α β γ : Type} (x : Sem α) (g : α → Sem β) (k : β → Sem γ), Sem.bind (Sem.bind x g) k = Sem.bind x (fun a => Sem.bind (g a) k) from fun x g k => bind_assoc x g k]
    refine congrArg (Sem.bind (exec s env)) (funext fun f => ?_)
    cases f with
    | next => exact execs_app env a b
    | _ => rfl
theorem execs_cons (st : Stmt) (r : List Stmt) (env : Env) : execs (st :: r) env = (do match ← exec st env with | .next => execs r env | f => pure f) := rfl
theorem WP.seq {M : Model} {Γ : Ctx} {env : Env} {a b : List Stmt} {s s₁ s₂ : Shared} (ha : WP M Γ (execs a env) s s₁) (hb : WP M Γ (execs b env) s₁ s₂) : WP M Γ (execs (a ++ b) env) s s₂ := by
  intro p Q E h
  rw [execs_app, Sem.wp_bind']
  exact ha p _ _ fun p' => hb p' _ _ h
theorem WP.cons {M : Model} {Γ : Ctx} {env : Env} {st : Stmt} {b : List Stmt} {s s₁ s₂ : Shared} (ha : WP M Γ (exec st env) s s₁) (hb : WP M Γ (execs b env) s₁ s₂) : WP M Γ (execs (st :: b) env) s s₂ := by
  intro p Q E h
  rw [execs_cons, Sem.wp_bind']
  exact ha p _ _ fun p' => hb p' _ _ h
theorem WP.run {w : World} {Γ : Ctx} {sts : List Stmt} {env : Env} {s s' : SharedT} {p₁ : Pos} {n : Nat} (h : ∀ p, ev dnQ pw w.params n Flow Γ (exQ sts env) p s = some (.ok .next, p₁, s')) : WP (model pw w) Γ (execs sts env) s.abs s'.abs := by
  intro p Q E hq
  rw [execs_eq]; exact ev_wp (h p) (hq _)
theorem g1_WP (w : World) (os : OsState) : WP (model pw w) Γ1 (execs sts1 topEnv) (stA w os).abs (stB w os).abs := WP.run fun p => congrFun (congrFun (runG1 w) os) p
theorem g2_WP (w : World) (os : OsState) : WP (model pw w) Γ1 (execs sts2 topEnv) (stB w os).abs (stC w os).abs := WP.run fun p => congrFun (congrFun (runG2 w) os) p
theorem g4_WP (w : World) (os : OsState) : WP (model pw w) Γ1 (execs sts4 topEnv) (stE w os).abs (stF w os).abs := WP.run fun p => congrFun (congrFun (runG4 w) os) p
theorem body_WP (w : World) (os : OsState) : WP (model pw w) Γ1 (execs pw.main.body topEnv) (stA w os).abs (stF w os).abs := by
  rw [body_eq]
  have k := @WP.seq (model pw w) Γ1 topEnv sts1 (sts2 ++ dictStmt :: sts4) _ _ _ (@g1_WP w os) (@WP.seq (model pw w) Γ1 topEnv sts2 (dictStmt :: sts4) _ _ _ (@g2_WP w os) (@WP.cons (model pw w) Γ1 topEnv dictStmt sts4 _ _ _ (@dict_WP w os) (@g4_WP w os)))
  with_reducible exact @k
noncomputable abbrev modQ : Module → Str → Option Nat → Sem Value := @PySem.W.Fast.tw17154629097778926822
noncomputable abbrev frmQ : Value → Addr → Addr → Addr → Sem Addr := @PySem.W.Fast.tw12822647523644345616
noncomputable abbrev blkQ : List Stmt → Env → Sem Unit := PySem.W.Fast.tw1066825118222455980
noncomputable abbrev Γ0 : Ctx := ⟨.builtin "claim.caller" {}, none, none, [], none⟩
theorem runPre (w : World) : (fun (os : OsState) => ev dnQ pw w.params 1000 (Value × Addr) Γ0 (do let c ← modQ pw.main pw.main.file none; let f ← frmQ c mainNs mainNs builtinsNs; pure (c, f)) default (stO w os)) = fun os => some (.ok (.ref 13, 14), default, stA w os) := by kernel_rfl
theorem runBlk (w : World) : (fun (os : OsState) (p : Pos) => ev dnQ pw w.params 1000 Unit Γ1 (blkQ (behindTheImports pw) topEnv) p (stA w os)) = fun os p => some (.ok (), p, stA w os) := by kernel_rfl
theorem top_wp (w : World) (os : OsState) {R : Result → Shared → Prop} (h : R (.ok (.ret .none)) (stF w os).abs) :
    Sem.wp (model pw w) Γ0 (topStub pw).cur (Sem.finPost (model pw w) Γ0 R) (fun e _ s' => R (.error e) s') default (stO w os).abs := by
  have hm : ∀ m, moduleCode m = modQ m m.file none := fun m => congrFun (congrFun (congrFun @PySem.W.Fast.te17154629097778926822 m) m.file) none
  have hf : ∀ c a b, newBodyFrame c a b = frmQ c a b builtinsNs := fun c a b => congrFun (congrFun (congrFun (congrFun @PySem.W.Fast.te12822647523644345616 c) a) b) builtinsNs
  have hb : blockStart = blkQ := PySem.W.Fast.te1066825118222455980
  show Sem.wp _ _ (do
      let code ← moduleCode pw.main
      let frame ← newBodyFrame code mainNs mainNs
      let _ ← run (.body (behindTheImports pw) { scope := pw.main.scope, locals := mainNs, globals := mainNs, cells := [], code, frame := some frame })
      (ret .none : Sem PySem.Fin)) _ _ _ _
  have key := ev_wp (Q := fun (x : Value × Addr) p' s' => Sem.wp (model pw w) Γ0 (do
      let _ ← run (.body (behindTheImports pw) { scope := pw.main.scope, locals := mainNs, globals := mainNs, cells := [], code := x.1, frame := some x.2 })
      (ret .none : Sem PySem.Fin)) (Sem.finPost (model pw w) Γ0 R) (fun e _ s' => R (.error e) s') p' s') (E := fun e _ s' => R (.error e) s') (congrFun (runPre w) os) ?_
  · simp only [hm, hf]
    simp only [Sem.wp_bind', Sem.wp_pure'] at key ⊢
    exact key
  · rw [Sem.wp_bind']
    unfold run
    rw [Sem.wp_call]
    refine (wpCode_iff_wp _ _ _ _ _).mpr ?_
    show Sem.wp (model pw w) Γ1 (denote table (.body (behindTheImports pw) topEnv)) _ _ _ _
    show Sem.wp (model pw w) Γ1 (do
      blockStart (behindTheImports pw) topEnv
      return PySem.Fin.done (← (execs (behindTheImports pw) topEnv).onRaise (leaving topEnv))) _ _ _ _
    rw [hb, Sem.wp_bind']
    refine ev_wp (congrFun (congrFun (runBlk w) os) _) ?_
    rw [Sem.wp_bind', Sem.wp_onRaise, behind_eq]
    exact body_WP w os _ _ _ fun p' => h
end
end Mine
end
section
namespace Mine
section
open PySem PySem.W PySem.Calls PyProof.Rows
set_option linter.all false
set_option maxRecDepth 100000
theorem run_last {den : Code → Sem PySem.Fin} {p : Program} {w : World} {o : Outcome} {s' : Shared} : ∀ {n : Nat} {s : Shared} {t : Thread}, runN den p w n s t = .halted o s' → ∃ m t₁, runN den p w m s t = .running s' t₁ ∧ step den p w s' t₁ = .halt o s'
  | 0, _, _, h => by cases h
  | n + 1, s, t, h => by
    simp only [runN] at h
    cases hs : step den p w s t with
    | go s₂ t₂ =>
      rw [hs] at h
      obtain ⟨m, t₁, a, b⟩ := run_last (n := n) h
      exact ⟨m + 1, t₁, by simp only [runN, hs]; exact a, b⟩
    | halt o₂ s₂ =>
      rw [hs] at h
      cases h
      obtain rfl := step_halt_same den p w s s' t o hs
      exact ⟨0, t, rfl, hs⟩
noncomputable def isDone : Step → Bool
  | .halt (.done _) _ => true
  | _ => false
theorem through_fin {den : Code → Sem PySem.Fin} {p : Program} {w : World} {s : Shared} {t : Thread} (h : isDone (step den p w s t) = true) : through t = true := by
  obtain ⟨heap, gens, drawn, toks, os⟩ := s
  obtain ⟨cur, code, pos, stack⟩ := t
  cases cur with
  | pure fin =>
    cases fin with
    | done g =>
      cases stack with
      | nil => rfl
      | cons fr r => cases fr <;> exact Bool.noConfusion h
    | again c => exact Bool.noConfusion h
  | raise e =>
    cases stack with
    | nil => unfold step finish at h; dsimp only at h; cases e <;> cases hg : leftWithCleanup gens <;> rw [hg] at h <;> exact Bool.noConfusion h
    | cons fr r => cases fr <;> exact Bool.noConfusion h
  | load a q k => unfold step at h; dsimp only at h; revert h; generalize heap.get? a = x; intro h; cases x <;> exact Bool.noConfusion h
  | update a q f k => unfold step at h; dsimp only at h; revert h; generalize (heap.get? a).isSome = x; intro h; cases x <;> exact Bool.noConfusion h
  | finish e => unfold step finish at h; dsimp only at h; cases hg : leftWithCleanup gens <;> rw [hg] at h <;> exact Bool.noConfusion h
  | choose src n k => cases n <;> exact Bool.noConfusion h
  | genState g k => unfold step at h; dsimp only at h; revert h; generalize gens[g]? = x; intro h; cases x <;> exact Bool.noConfusion h
  | resume g r l k =>
    unfold step at h; dsimp only at h; revert h; generalize gens[g]? = x; intro h
    cases x with
    | none => exact Bool.noConfusion h
    | some y => cases y with
      | fresh c => cases r with
        | send v => cases v <;> exact Bool.noConfusion h
        | throw e => exact Bool.noConfusion h
      | _ => exact Bool.noConfusion h
  | «yield» v g l k => unfold step at h; dsimp only at h; revert h; generalize splitAtGen stack = x; intro h; rcases x with _ | ⟨_, ⟨_, _, _, _⟩, _⟩ <;> exact Bool.noConfusion h
  | _ => exact Bool.noConfusion h
theorem through_of {den : Code → Sem PySem.Fin} {p : Program} {w : World} {f : Flow} {s s' : Shared} {t : Thread} (h : step den p w s t = .halt (.done f) s') : through t = true :=
  through_fin (by rw [h]; rfl)
theorem top_runs (w : World) (os : OsState) : ∃ n t, schedN (denote table) pw w n (.single (stO w os).abs (topStub pw)) = .running (.single (stF w os).abs t) ∧ through t = true := by
  have h := (wp_iff_halts (M := model pw w) (c := .builtin "claim.caller" {}) (topStub pw).cur (fun r s' => r = .ok (.ret .none) ∧ s' = (stF w os).abs) default (stO w os).abs).mp
    (top_wp w os (R := fun r s' => (r = .ok (.ret .none) ∧ s' = (stF w os).abs) ∧ leftWithCleanup s'.gens = false) ⟨⟨rfl, rfl⟩, by simp [leftWithCleanup, cut, SharedT.abs]⟩)
  obtain ⟨n, r, s', hn, rfl, rfl⟩ := h
  obtain ⟨s'', hr, hf, hc⟩ := runNI_real (denote table) pw w hn (outcomeOf_ends _)
  obtain rfl : s'' = (stF w os).abs := Shared.eq_of_forget_eq hf rfl
  obtain ⟨m, t₁, a, b⟩ := run_last hr
  have hz : ((stO w os).abs).asleep := ⟨rfl, rfl⟩
  have hne : ∀ k s₂, runN (denote table) pw w k (stO w os).abs (topStub pw) ≠ .halted (.unsupported "lifetime:generator-with-cleanup-left-suspended") s₂ := by
    intro k s₂ hk
    have a := runN_mono (denote table) pw w n k (stO w os).abs (topStub pw) _ _ hr
    have b := runN_mono (denote table) pw w k n (stO w os).abs (topStub pw) _ s₂ hk
    rw [Nat.add_comm, b] at a
    injection a with a1 _
    cases a1
  have e := schedN_eq_runN (denote table) pw w (stO w os).abs (topStub pw) hz ⟨hc, hne⟩ m
  have a' : runN (denote table) pw w m (stO w os).abs (topStub pw) = .running (stF w os).abs t₁ := a
  rw [a'] at e
  exact ⟨m, t₁, e, through_of b⟩
end
end Mine
end
section
namespace Mine
section
open PySem PySem.W PySem.Calls PyProof.Rows
set_option linter.all false
set_option maxRecDepth 100000
abbrev rw0 : OpenLaw := PySem.Challenge.rw_ux0031_01
abbrev row0 : OpenRow := rw0.row
noncomputable def qv : Program := view pw [5, 6, 7, 8, 10, 11, 13, 15, 16, 17, 18, 19]
noncomputable def looseL : List Str := [Str.ofString "insort_right", Str.ofString "bisect_right", Str.ofString "bisect_left", Str.ofString "b1_set", Str.ofString "b3_exceptions"]
noncomputable abbrev Xt0 : Shared → Bool := fun s => xlAt qv [] s && recOk (RowW.records row0.toRowW) s
theorem look1 (w : World) : (fun (os : OsState) => staticsOk (importedModules pw.main.body) (stO w os).abs.heap (stF w os).abs.heap && namesBound pw (stF w os).abs.heap && gensDone (stF w os).abs && laidKept (stO w os).abs.heap (stF w os).abs.heap) = fun _ => true := by kernel_rfl
theorem seen_q : @openSeen = @PySem.W.Fast.tw4187177175401517315 := PySem.W.Fast.te4187177175401517315
theorem look2 (w : World) : (fun (os : OsState) => @PySem.W.Fast.tw4187177175401517315 qv looseL (importedModules pw.main.body) Xt0 true (stF w os).abs) = fun _ => openGood qv looseL := by kernel_rfl
end
end Mine
end
section
namespace Mine
section
open PySem PySem.W PySem.Calls PyProof.Rows
set_option linter.all false
set_option maxRecDepth 100000
noncomputable def KF : Params → Frag := fun P =>
  (nat_lit 2, ⟨.none, none, (.dict (List.toArray [⟨PyData.keyHash P (Str.ofString "type.__subclasses__.Exception.0"), (.str (Str.ofString "type.__subclasses__.Exception.0") 248), (.int 51 0)⟩, ⟨PyData.keyHash P (Str.ofString "type.__subclasses__.Exception.n"), (.str (Str.ofString "type.__subclasses__.Exception.n") 249), (.int 1 0)⟩]) 2), #[]⟩) ::
  (nat_lit 3, ⟨(.type "dict"), none, (.dict (List.toArray [⟨PyData.keyHash P (Str.ofString "__name__"), (.str (Str.ofString "__name__") 165), (.str (Str.ofString "law_ux0031_01") 2325)⟩, ⟨PyData.keyHash P (Str.ofString "__doc__"), (.str (Str.ofString "__doc__") 166), .none⟩, ⟨PyData.keyHash P (Str.ofString "__package__"), (.str (Str.ofString "__package__") 167), .none⟩, ⟨PyData.keyHash P (Str.ofString "__loader__"), (.str (Str.ofString "__loader__") 168), (.builtin "__main__.__loader__#opaque")⟩, ⟨PyData.keyHash P (Str.ofString "__spec__"), (.str (Str.ofString "__spec__") 169), .none⟩, ⟨PyData.keyHash P (Str.ofString "__annotations__"), (.str (Str.ofString "__annotations__") 170), (.ref 6)⟩, ⟨PyData.keyHash P (Str.ofString "__builtins__"), (.str (Str.ofString "__builtins__") 171), (.ref 4)⟩, ⟨PyData.keyHash P (Str.ofString "__file__"), (.str (Str.ofString "__file__") 173), (.str (Str.ofString "/claim/cut.py") 172)⟩, ⟨PyData.keyHash P (Str.ofString "__cached__"), (.str (Str.ofString "__cached__") 174), .none⟩, ⟨PyData.keyHash P (Str.ofString "insort_right"), (.str (Str.ofString "insort_right") 201), (.ref 23)⟩, ⟨PyData.keyHash P (Str.ofString "bisect_right"), (.str (Str.ofString "bisect_right") 215), (.ref 32)⟩, ⟨PyData.keyHash P (Str.ofString "bisect_left"), (.str (Str.ofString "bisect_left") 229), (.ref 41)⟩, ⟨PyData.keyHash P (Str.ofString "Error"), (.str (Str.ofString "Error") 251), (.ref 51)⟩, ⟨PyData.keyHash P (Str.ofString "error_reply"), (.str (Str.ofString "error_reply") 267), (.ref 64)⟩, ⟨PyData.keyHash P (Str.ofString "error_proto"), (.str (Str.ofString "error_proto") 283), (.ref 76)⟩, ⟨PyData.keyHash P (Str.ofString "parse229"), (.str (Str.ofString "parse229") 296), (.ref 85)⟩, ⟨PyData.keyHash P (Str.ofString "b1_set"), (.str (Str.ofString "b1_set") 358), (.ref 93)⟩, ⟨PyData.keyHash P (Str.ofString "in_table_b1"), (.str (Str.ofString "in_table_b1") 365), (.ref 103)⟩, ⟨PyData.keyHash P (Str.ofString "b3_exceptions"), (.str (Str.ofString "b3_exceptions") 2316), (.ref 104)⟩, ⟨PyData.keyHash P (Str.ofString "map_table_b3"), (.str (Str.ofString "map_table_b3") 2324), (.ref 149)⟩, ⟨PyData.keyHash P (Str.ofString "_law_unseen"), (.str (Str.ofString "_law_unseen") 2333), (.ref 156)⟩, ⟨PyData.keyHash P (Str.ofString "_law_reply"), (.str (Str.ofString "_law_reply") 2346), (.ref 163)⟩, ⟨PyData.keyHash P (Str.ofString "_law_prepared"), (.str (Str.ofString "_law_prepared") 2352), (.ref 168)⟩, ⟨PyData.keyHash P (Str.ofString "_law_asked"), (.str (Str.ofString "_law_asked") 2361), (.ref 175)⟩, ⟨PyData.keyHash P (Str.ofString "law"), (.str (Str.ofString "law") 2367), (.ref 180)⟩]) 25), #[]⟩) ::
  (nat_lit 6, boot_o_6 P) ::
  (nat_lit 15, ⟨(.type "tuple"), none, (.seq #[(.int 0 189), .none] 0), #[]⟩) ::
  (nat_lit 16, ⟨(.type "dict"), none, (.dict (List.toArray [⟨PyData.keyHash P (Str.ofString "key"), (.str (Str.ofString "key") 190), .none⟩]) 1), #[]⟩) ::
  (nat_lit 17, ⟨(.type "tuple"), none, (.seq #[] 0), #[]⟩) ::
  (nat_lit 19, ⟨(.type "tuple"), none, (.seq #[(.str (Str.ofString "a") 194), (.str (Str.ofString "x") 195), (.str (Str.ofString "lo") 196), (.str (Str.ofString "hi") 197), (.str (Str.ofString "key") 198)] 0), #[]⟩) ::
  (nat_lit 20, ⟨(.type "tuple"), none, (.seq #[] 0), #[]⟩) ::
  (nat_lit 22, ⟨(.type "code"), none, (.fields #[(.str (Str.ofString "insort_right") 191), (.str (Str.ofString "insort_right") 192), (.str (Str.ofString "/claim/cut.py") 193), (.int 2 0), (.int 4 0), (.int 0 0), (.int 1 0), (.int 3 0), (.ref 17), (.bool true), (.int 181 0), (.ref 18), .none, (.ref 19), (.ref 20), (.ref 21), (.int 199 0), (.int 2 0), (.str (Str.ofString "/claim/cut.py") 200)]), #[]⟩) ::
  (nat_lit 23, ⟨(.type "function"), none, (.func ⟨(Str.ofString "insort_right"), (Str.ofString "insort_right"), fd_insort_right.1.1, .stmts fd_insort_right.1.2.1, fd_insort_right.1.2.2, 3, [], (.ref 15), (.ref 16), .none, (.str (Str.ofString "cpy313.bisect") 187), none, (.ref 22), .none, 0⟩), #[]⟩) ::
  (nat_lit 24, ⟨(.type "tuple"), none, (.seq #[(.int 0 202), .none] 0), #[]⟩) ::
  (nat_lit 25, ⟨(.type "dict"), none, (.dict (List.toArray [⟨PyData.keyHash P (Str.ofString "key"), (.str (Str.ofString "key") 203), .none⟩]) 1), #[]⟩) ::
  (nat_lit 26, ⟨(.type "tuple"), none, (.seq #[] 0), #[]⟩) ::
  (nat_lit 28, ⟨(.type "tuple"), none, (.seq #[(.str (Str.ofString "a") 207), (.str (Str.ofString "x") 208), (.str (Str.ofString "lo") 209), (.str (Str.ofString "hi") 210), (.str (Str.ofString "key") 211), (.str (Str.ofString "mid") 212)] 0), #[]⟩) ::
  (nat_lit 29, ⟨(.type "tuple"), none, (.seq #[] 0), #[]⟩) ::
  (nat_lit 31, ⟨(.type "code"), none, (.fields #[(.str (Str.ofString "bisect_right") 204), (.str (Str.ofString "bisect_right") 205), (.str (Str.ofString "/claim/cut.py") 206), (.int 8 0), (.int 4 0), (.int 0 0), (.int 1 0), (.int 3 0), (.ref 26), (.bool true), (.int 181 0), (.ref 27), .none, (.ref 28), (.ref 29), (.ref 30), (.int 213 0), (.int 8 0), (.str (Str.ofString "/claim/cut.py") 214)]), #[]⟩) ::
  (nat_lit 32, ⟨(.type "function"), none, (.func ⟨(Str.ofString "bisect_right"), (Str.ofString "bisect_right"), fd_bisect_right.1.1, .stmts fd_bisect_right.1.2.1, fd_bisect_right.1.2.2, 3, [], (.ref 24), (.ref 25), .none, (.str (Str.ofString "cpy313.bisect") 187), none, (.ref 31), .none, 0⟩), #[]⟩) ::
  (nat_lit 33, ⟨(.type "tuple"), none, (.seq #[(.int 0 216), .none] 0), #[]⟩) ::
  (nat_lit 34, ⟨(.type "dict"), none, (.dict (List.toArray [⟨PyData.keyHash P (Str.ofString "key"), (.str (Str.ofString "key") 217), .none⟩]) 1), #[]⟩) ::
  (nat_lit 35, ⟨(.type "tuple"), none, (.seq #[] 0), #[]⟩) ::
  (nat_lit 37, ⟨(.type "tuple"), none, (.seq #[(.str (Str.ofString "a") 221), (.str (Str.ofString "x") 222), (.str (Str.ofString "lo") 223), (.str (Str.ofString "hi") 224), (.str (Str.ofString "key") 225), (.str (Str.ofString "mid") 226)] 0), #[]⟩) ::
  (nat_lit 38, ⟨(.type "tuple"), none, (.seq #[] 0), #[]⟩) ::
  (nat_lit 40, ⟨(.type "code"), none, (.fields #[(.str (Str.ofString "bisect_left") 218), (.str (Str.ofString "bisect_left") 219), (.str (Str.ofString "/claim/cut.py") 220), (.int 28 0), (.int 4 0), (.int 0 0), (.int 1 0), (.int 3 0), (.ref 35), (.bool true), (.int 181 0), (.ref 36), .none, (.ref 37), (.ref 38), (.ref 39), (.int 227 0), (.int 28 0), (.str (Str.ofString "/claim/cut.py") 228)]), #[]⟩) ::
  (nat_lit 41, ⟨(.type "function"), none, (.func ⟨(Str.ofString "bisect_left"), (Str.ofString "bisect_left"), fd_bisect_left.1.1, .stmts fd_bisect_left.1.2.1, fd_bisect_left.1.2.2, 3, [], (.ref 33), (.ref 34), .none, (.str (Str.ofString "cpy313.bisect") 187), none, (.ref 40), .none, 0⟩), #[]⟩) ::
  (nat_lit 42, ⟨(.type "tuple"), none, (.seq #[(.type "Exception")] 0), #[]⟩) ::
  (nat_lit 49, ⟨(.type "tuple"), none, (.seq #[] 0), #[]⟩) ::
  (nat_lit 50, ⟨(.type "dict"), none, (.dict (List.toArray [⟨PyData.keyHash P (Str.ofString "__module__"), (.str (Str.ofString "__module__") 239), (.str (Str.ofString "cpy313.ftplib") 230)⟩, ⟨PyData.keyHash P (Str.ofString "__firstlineno__"), (.str (Str.ofString "__firstlineno__") 243), (.int 49 242)⟩, ⟨PyData.keyHash P (Str.ofString "__static_attributes__"), (.str (Str.ofString "__static_attributes__") 244), (.ref 49)⟩, ⟨PyData.keyHash P (Str.ofString "__weakref__"), (.str (Str.ofString "__weakref__") 246), (.ref 52)⟩, ⟨PyData.keyHash P (Str.ofString "__doc__"), (.str (Str.ofString "__doc__") 247), .none⟩]) 3), #[]⟩) ::
  (nat_lit 51, ⟨(.type "type"), none, (.cls ⟨(Str.ofString "Error"), [(.type "Exception")], [(.ref 51), (.type "Exception"), (.type "BaseException"), (.type "object")], 50, (Str.ofString "Error"), true, [], [(.ref 64), (.ref 76)], false, none, false⟩), #[(some (.ref 42)), none, (some (.str (Str.ofString "Error") 232)), (some (.str (Str.ofString "Error") 240)), (some (.builtin "Exception.__new__")), (some (.bool true))]⟩) ::
  (nat_lit 52, ⟨(.type "getset_descriptor"), none, (.fields #[(.str (Str.ofString "__weakref__") 245), (.ref 51), (.builtin "ExceptionGroup.__weakref__"), .none]), #[]⟩) ::
  (nat_lit 55, ⟨(.type "tuple"), none, (.seq #[(.ref 51)] 0), #[]⟩) ::
  (nat_lit 62, ⟨(.type "tuple"), none, (.seq #[] 0), #[]⟩) ::
  (nat_lit 63, ⟨(.type "dict"), none, (.dict (List.toArray [⟨PyData.keyHash P (Str.ofString "__module__"), (.str (Str.ofString "__module__") 259), (.str (Str.ofString "cpy313.ftplib") 230)⟩, ⟨PyData.keyHash P (Str.ofString "__firstlineno__"), (.str (Str.ofString "__firstlineno__") 263), (.int 51 262)⟩, ⟨PyData.keyHash P (Str.ofString "__static_attributes__"), (.str (Str.ofString "__static_attributes__") 264), (.ref 62)⟩, ⟨PyData.keyHash P (Str.ofString "__doc__"), (.str (Str.ofString "__doc__") 265), .none⟩]) 2), #[]⟩) ::
  (nat_lit 64, ⟨(.type "type"), none, (.cls ⟨(Str.ofString "error_reply"), [(.ref 51)], [(.ref 64), (.ref 51), (.type "Exception"), (.type "BaseException"), (.type "object")], 63, (Str.ofString "error_reply"), true, [], [], false, none, false⟩), #[(some (.ref 55)), none, (some (.str (Str.ofString "error_reply") 252)), (some (.str (Str.ofString "error_reply") 260)), (some (.builtin "Exception.__new__")), (some (.bool true))]⟩) ::
  (nat_lit 67, ⟨(.type "tuple"), none, (.seq #[(.ref 51)] 0), #[]⟩) ::
  (nat_lit 74, ⟨(.type "tuple"), none, (.seq #[] 0), #[]⟩) ::
  (nat_lit 75, ⟨(.type "dict"), none, (.dict (List.toArray [⟨PyData.keyHash P (Str.ofString "__module__"), (.str (Str.ofString "__module__") 275), (.str (Str.ofString "cpy313.ftplib") 230)⟩, ⟨PyData.keyHash P (Str.ofString "__firstlineno__"), (.str (Str.ofString "__firstlineno__") 279), (.int 53 278)⟩, ⟨PyData.keyHash P (Str.ofString "__static_attributes__"), (.str (Str.ofString "__static_attributes__") 280), (.ref 74)⟩, ⟨PyData.keyHash P (Str.ofString "__doc__"), (.str (Str.ofString "__doc__") 281), .none⟩]) 2), #[]⟩) ::
  (nat_lit 76, ⟨(.type "type"), none, (.cls ⟨(Str.ofString "error_proto"), [(.ref 51)], [(.ref 76), (.ref 51), (.type "Exception"), (.type "BaseException"), (.type "object")], 75, (Str.ofString "error_proto"), true, [], [], false, none, false⟩), #[(some (.ref 67)), none, (some (.str (Str.ofString "error_proto") 268)), (some (.str (Str.ofString "error_proto") 276)), (some (.builtin "Exception.__new__")), (some (.bool true))]⟩) ::
  (nat_lit 79, ⟨(.type "tuple"), none, (.seq #[] 0), #[]⟩) ::
  (nat_lit 81, ⟨(.type "tuple"), none, (.seq #[(.str (Str.ofString "resp") 287), (.str (Str.ofString "peer") 288), (.str (Str.ofString "left") 289), (.str (Str.ofString "right") 290), (.str (Str.ofString "parts") 291), (.str (Str.ofString "host") 292), (.str (Str.ofString "port") 293)] 0), #[]⟩) ::
  (nat_lit 82, ⟨(.type "tuple"), none, (.seq #[] 0), #[]⟩) ::
  (nat_lit 84, ⟨(.type "code"), none, (.fields #[(.str (Str.ofString "parse229") 284), (.str (Str.ofString "parse229") 285), (.str (Str.ofString "/claim/cut.py") 286), (.int 55 0), (.int 2 0), (.int 0 0), (.int 0 0), (.int 3 0), (.ref 79), (.bool true), (.int 181 0), (.ref 80), .none, (.ref 81), (.ref 82), (.ref 83), (.int 294 0), (.int 55 0), (.str (Str.ofString "/claim/cut.py") 295)]), #[]⟩) ::
  (nat_lit 85, ⟨(.type "function"), none, (.func ⟨(Str.ofString "parse229"), (Str.ofString "parse229"), fd_parse229.1.1, .stmts fd_parse229.1.2.1, fd_parse229.1.2.2, 3, [], .none, .none, .none, (.str (Str.ofString "cpy313.ftplib") 230), none, (.ref 84), .none, 0⟩), #[]⟩) ::
  (nat_lit 93, ⟨(.type "set"), none, (.set #[(65024, (.int 65024 315)), (65025, (.int 65025 316)), (65026, (.int 65026 317)), (65027, (.int 65027 318)), (65028, (.int 65028 319)), (65029, (.int 65029 320)), (6150, (.int 6150 301)), (65030, (.int 65030 321)), (65031, (.int 65031 322)), (65032, (.int 65032 323)), (65033, (.int 65033 324)), (6155, (.int 6155 302)), (6156, (.int 6156 303)), (6157, (.int 6157 304)), (8203, (.int 8203 305)), (8204, (.int 8204 306)), (8205, (.int 8205 307)), (65034, (.int 65034 325)), (65035, (.int 65035 326)), (65036, (.int 65036 327)), (65037, (.int 65037 328)), (65038, (.int 65038 329)), (65039, (.int 65039 330)), (173, (.int 173 299)), (847, (.int 847 300)), (8288, (.int 8288 308)), (65279, (.int 65279 309))] 29 ⟨127, #[0, 1, 2, 3, 4, 5, 6, 7, 8, 9, 10, 11, 12, 13, 14, 15, 16, 17, 18, 19, 20, 21, 22, 45, 79, 96, 127], #[], 0, !P.followText "set-order", 2, true⟩), #[]⟩) ::
  (nat_lit 97, ⟨(.type "tuple"), none, (.seq #[] 0), #[]⟩) ::
  (nat_lit 99, ⟨(.type "tuple"), none, (.seq #[(.str (Str.ofString "code") 362)] 0), #[]⟩) ::
  (nat_lit 100, ⟨(.type "tuple"), none, (.seq #[] 0), #[]⟩) ::
  (nat_lit 102, ⟨(.type "code"), none, (.fields #[(.str (Str.ofString "in_table_b1") 359), (.str (Str.ofString "in_table_b1") 360), (.str (Str.ofString "/claim/cut.py") 361), (.int 74 0), (.int 1 0), (.int 0 0), (.int 0 0), (.int 3 0), (.ref 97), (.bool true), (.int 181 0), (.ref 98), .none, (.ref 99), (.ref 100), (.ref 101), (.int 363 0), (.int 74 0), (.str (Str.ofString "/claim/cut.py") 364)]), #[]⟩) ::
  (nat_lit 103, ⟨(.type "function"), none, (.func ⟨(Str.ofString "in_table_b1"), (Str.ofString "in_table_b1"), fd_in_table_b1.1.1, .stmts fd_in_table_b1.1.2.1, fd_in_table_b1.1.2.2, 3, [], .none, .none, .none, (.str (Str.ofString "cpy313.stringprep") 297), none, (.ref 102), .none, 0⟩), #[]⟩) ::
  (nat_lit 104, b3dict P) ::
  (nat_lit 143, ⟨(.type "tuple"), none, (.seq #[] 0), #[]⟩) ::
  (nat_lit 145, ⟨(.type "tuple"), none, (.seq #[(.str (Str.ofString "code") 2320), (.str (Str.ofString "r") 2321)] 0), #[]⟩) ::
  (nat_lit 146, ⟨(.type "tuple"), none, (.seq #[] 0), #[]⟩) ::
  (nat_lit 148, ⟨(.type "code"), none, (.fields #[(.str (Str.ofString "map_table_b3") 2317), (.str (Str.ofString "map_table_b3") 2318), (.str (Str.ofString "/claim/cut.py") 2319), (.int 77 0), (.int 1 0), (.int 0 0), (.int 0 0), (.int 3 0), (.ref 143), (.bool true), (.int 181 0), (.ref 144), .none, (.ref 145), (.ref 146), (.ref 147), (.int 2322 0), (.int 77 0), (.str (Str.ofString "/claim/cut.py") 2323)]), #[]⟩) ::
  (nat_lit 149, ⟨(.type "function"), none, (.func ⟨(Str.ofString "map_table_b3"), (Str.ofString "map_table_b3"), fd_map_table_b3.1.1, .stmts fd_map_table_b3.1.2.1, fd_map_table_b3.1.2.2, 3, [], .none, .none, .none, (.str (Str.ofString "cpy313.stringprep") 297), none, (.ref 148), .none, 0⟩), #[]⟩) ::
  (nat_lit 150, ⟨(.type "tuple"), none, (.seq #[] 0), #[]⟩) ::
  (nat_lit 152, ⟨(.type "tuple"), none, (.seq #[(.str (Str.ofString "k") 2330)] 0), #[]⟩) ::
  (nat_lit 153, ⟨(.type "tuple"), none, (.seq #[] 0), #[]⟩) ::
  (nat_lit 155, ⟨(.type "code"), none, (.fields #[(.str (Str.ofString "_law_unseen") 2327), (.str (Str.ofString "_law_unseen") 2328), (.str (Str.ofString "/claim/cut.py") 2329), (.int 83 0), (.int 1 0), (.int 0 0), (.int 0 0), (.int 3 0), (.ref 150), (.bool true), (.int 181 0), (.ref 151), .none, (.ref 152), (.ref 153), (.ref 154), (.int 2331 0), (.int 83 0), (.str (Str.ofString "/claim/cut.py") 2332)]), #[]⟩) ::
  (nat_lit 156, ⟨(.type "function"), none, (.func ⟨(Str.ofString "_law_unseen"), (Str.ofString "_law_unseen"), fd_law_unseen.1.1, .stmts fd_law_unseen.1.2.1, fd_law_unseen.1.2.2, 3, [], .none, .none, .none, (.str (Str.ofString "law_ux0031_01") 2325), none, (.ref 155), .none, 0⟩), #[]⟩) ::
  (nat_lit 157, ⟨(.type "tuple"), none, (.seq #[] 0), #[]⟩) ::
  (nat_lit 159, ⟨(.type "tuple"), none, (.seq #[(.str (Str.ofString "port") 2337), (.str (Str.ofString "dress") 2338), (.str (Str.ofString "sign") 2339), (.str (Str.ofString "great") 2340), (.str (Str.ofString "figures") 2341), (.str (Str.ofString "inside") 2342), (.str (Str.ofString "code") 2343)] 0), #[]⟩) ::
  (nat_lit 160, ⟨(.type "tuple"), none, (.seq #[] 0), #[]⟩) ::
  (nat_lit 162, ⟨(.type "code"), none, (.fields #[(.str (Str.ofString "_law_reply") 2334), (.str (Str.ofString "_law_reply") 2335), (.str (Str.ofString "/claim/cut.py") 2336), (.int 87 0), (.int 2 0), (.int 0 0), (.int 0 0), (.int 3 0), (.ref 157), (.bool true), (.int 181 0), (.ref 158), .none, (.ref 159), (.ref 160), (.ref 161), (.int 2344 0), (.int 87 0), (.str (Str.ofString "/claim/cut.py") 2345)]), #[]⟩) ::
  (nat_lit 163, ⟨(.type "function"), none, (.func ⟨(Str.ofString "_law_reply"), (Str.ofString "_law_reply"), fd_law_reply.1.1, .stmts fd_law_reply.1.2.1, fd_law_reply.1.2.2, 3, [], .none, .none, .none, (.str (Str.ofString "law_ux0031_01") 2325), none, (.ref 162), .none, 0⟩), #[]⟩) ::
  (nat_lit 164, ⟨(.type "tuple"), none, (.seq #[] 0), #[]⟩) ::
  (nat_lit 167, ⟨(.type "code"), none, (.fields #[(.str (Str.ofString "_law_prepared") 2347), (.str (Str.ofString "_law_prepared") 2348), (.str (Str.ofString "/claim/cut.py") 2349), (.int 94 0), (.int 1 0), (.int 0 0), (.int 0 0), (.int 3 0), (.ref 164), (.bool true), (.int 181 0), (.ref 165), .none, .none, .none, (.ref 166), (.int 2350 0), (.int 94 0), (.str (Str.ofString "/claim/cut.py") 2351)]), #[]⟩) ::
  (nat_lit 168, ⟨(.type "function"), none, (.func ⟨(Str.ofString "_law_prepared"), (Str.ofString "_law_prepared"), fd_law_prepared.1.1, .stmts fd_law_prepared.1.2.1, fd_law_prepared.1.2.2, 3, [], .none, .none, .none, (.str (Str.ofString "law_ux0031_01") 2325), none, (.ref 167), .none, 0⟩), #[]⟩) ::
  (nat_lit 169, ⟨(.type "tuple"), none, (.seq #[] 0), #[]⟩) ::
  (nat_lit 171, ⟨(.type "tuple"), none, (.seq #[(.str (Str.ofString "reply") 2356), (.str (Str.ofString "peer") 2357), (.str (Str.ofString "caught") 2358)] 0), #[]⟩) ::
  (nat_lit 172, ⟨(.type "tuple"), none, (.seq #[] 0), #[]⟩) ::
  (nat_lit 174, ⟨(.type "code"), none, (.fields #[(.str (Str.ofString "_law_asked") 2353), (.str (Str.ofString "_law_asked") 2354), (.str (Str.ofString "/claim/cut.py") 2355), (.int 96 0), (.int 2 0), (.int 0 0), (.int 0 0), (.int 3 0), (.ref 169), (.bool true), (.int 181 0), (.ref 170), .none, (.ref 171), (.ref 172), (.ref 173), (.int 2359 0), (.int 96 0), (.str (Str.ofString "/claim/cut.py") 2360)]), #[]⟩) ::
  (nat_lit 175, ⟨(.type "function"), none, (.func ⟨(Str.ofString "_law_asked"), (Str.ofString "_law_asked"), fd_law_asked.1.1, .stmts fd_law_asked.1.2.1, fd_law_asked.1.2.2, 3, [], .none, .none, .none, (.str (Str.ofString "law_ux0031_01") 2325), none, (.ref 174), .none, 0⟩), #[]⟩) ::
  (nat_lit 176, ⟨(.type "tuple"), none, (.seq #[] 0), #[]⟩) ::
  (nat_lit 179, ⟨(.type "code"), none, (.fields #[(.str (Str.ofString "law") 2362), (.str (Str.ofString "law") 2363), (.str (Str.ofString "/claim/cut.py") 2364), (.int 103 0), (.int 1 0), (.int 0 0), (.int 0 0), (.int 3 0), (.ref 176), (.bool true), (.int 181 0), (.ref 177), .none, .none, .none, (.ref 178), (.int 2365 0), (.int 103 0), (.str (Str.ofString "/claim/cut.py") 2366)]), #[]⟩) ::
  (nat_lit 180, ⟨(.type "function"), none, (.func ⟨(Str.ofString "law"), (Str.ofString "law"), fd_law.1.1, .stmts fd_law.1.2.1, fd_law.1.2.2, 3, [], .none, .none, .none, (.str (Str.ofString "law_ux0031_01") 2325), none, (.ref 179), .none, 0⟩), #[]⟩) :: []
noncomputable def KA : List Addr := [2, 3, 6, 15, 16, 17, 19, 20, 22, 23, 24, 25, 26, 28, 29, 31, 32, 33, 34, 35, 37, 38, 40, 41, 42, 49, 50, 51, 52, 55, 62, 63, 64, 67, 74, 75, 76, 79, 81, 82, 84, 85, 93, 97, 99, 100, 102, 103, 104, 143, 145, 146, 148, 149, 150, 152, 153, 155, 156, 157, 159, 160, 162, 163, 164, 167, 168, 169, 171, 172, 174, 175, 176, 179, 180]
theorem KF_addrs (w : World) : KA = (KF w.params).map (·.1) := by kernel_rfl
theorem KF_is (w : World) : (fun (os : OsState) => KA.map (stF w os).abs.heap.get?) = fun _ => (KF w.params).map (fun p => some p.2) := by kernel_rfl
theorem KF_in (w : World) (os : OsState) : (KF w.params).In (stF w os).abs.heap := Frag.in_of (KF_addrs w) (congrFun (KF_is w) os)
noncomputable def pLaw : Pos := match (PySem.Challenge.pw_ux0031_01.main.body[19]? : Option Stmt) with
  | some (Stmt.FunctionDef _ _ _ _ _ _ _ _ _ p) => p
  | _ => default
@[reducible] noncomputable def dLaw : DefRec := ⟨Str.ofString "law", fd_law.1.1, fd_law.1.2.1, fd_law.1.2.2, pLaw⟩
theorem def_law : defOf qv row0.name = some (dLaw, []) := by kernel_rfl
theorem the_law : row0.prog.theDef row0.name = some (dLaw.params, dLaw.body, dLaw.scope) := by kernel_rfl
theorem kw_law : kwWritten? dLaw.params.kwonlyargs dLaw.params.kw_defaults = some [] := by kernel_rfl
theorem ok_law : (chainsOk qv && opensWell row0.toRowW.prog && (frees row0.toRowW && row0.toRowW.within.isEmpty)) = true := by decide +kernel
theorem bare_law : row0.toRowW.prog.bare := ⟨rfl, rfl, rfl, rfl, rfl, by decide +kernel⟩
/-- what holds of the heap behind the top -/
noncomputable def YF (w : World) (h : Heap) : Prop := (KF w.params).In h
theorem YF.keeps (w : World) (h h' : Heap) (x : YF w h) (k : ∀ b o, h.get? b = some o → h'.get? b = some o) : YF w h' := Frag.In.keeps x k
theorem opened (w : World) : ∃ s, (importEnds treeTable (opening pw) w 600 (start (opening pw)).1 (start (opening pw)).2) = some s ∧ ∃ os, fenceModules? pw s = some (stO w os).abs := by
  have h := boot_open (p := pw) (N := 600) (by kernel_rfl) (by decide) (fun s => rfl) w
  obtain ⟨s₀, e, e'⟩ := Option.map_eq_some_iff.mp h
  obtain ⟨s, h4, h5⟩ := Option.bind_eq_some_iff.mp e
  refine ⟨s, h4, s₀.os, ?_⟩
  rw [h5, boot_is]
  obtain ⟨a, b, c, d, o⟩ := s₀
  simp only [Prod.mk.injEq] at e'
  obtain ⟨rfl, rfl, rfl, rfl⟩ := e'
  rfl
theorem old_is (w : World) : (fun (os : OsState) => [0, 1, 4, 5, 6, 7, 8, 9, 10].map (stF w os).abs.heap.get?) = fun os => [0, 1, 4, 5, 6, 7, 8, 9, 10].map (stO w os).abs.heap.get? := by kernel_rfl
theorem old_kept (w : World) (os : OsState) (b : Addr) (o : Obj) (hb : (stO w os).abs.heap.get? b = some o) (hn : ¬ theTopsOwn (stO w os).abs.heap b) : (stF w os).abs.heap.get? b = some o := by
  have hlt : b < 11 := by
    have := Heap.lt_size hb
    rwa [show (stO w os).abs.heap.objs.size = 11 from absHeap_size ..] at this
  have e := congrFun (old_is w) os
  have n2 : b ≠ mainNs := fun q => hn (.inl q)
  have n3 : b ≠ cStatics := fun q => hn (.inr (.inl q))
  have key : ∀ c ∈ [0, 1, 4, 5, 6, 7, 8, 9, 10], (stF w os).abs.heap.get? c = (stO w os).abs.heap.get? c := List.map_inj_left.mp e
  rw [key b ?_]
  · exact hb
  · have hb2 : b ≠ 3 := n2
    have hb3 : b ≠ 2 := n3
    revert hlt hb2 hb3
    clear hb hn e n2 n3 key
    revert b
    decide
theorem behind (w : World) : (∃ s, AfterRun (opening pw) w s) ∧ ∀ s, AfterRun (opening pw) w s → ∃ s₀, fenceModules? pw s = some s₀ ∧ s₀.gens = #[] ∧ ∃ s₁, TopRan pw w s₀ s₁ ∧ s₁.asleep ∧ s₁.gens = #[] ∧ s₁.heap.isNs mainGlobals = true ∧
    Ground qv looseL [] (XL qv []) w s₁ (s₁.heap.nsMap mainGlobals) (s₁.heap.nsMap builtinsNs) s₁.heap ∧ YF w s₁.heap := by
  obtain ⟨s, h4, os, h5⟩ := opened w
  rw [← table_eq_tree] at h4
  have A := AfterImport.of_importEnds h4
  refine ⟨⟨s, A⟩, fun s' hs' => ?_⟩
  obtain rfl : s' = s := AfterImport.unique hs' A
  have l1 := congrFun (look1 w) os
  have l2 := congrFun (look2 w) os
  rw [← seen_q] at l2
  obtain ⟨hs, hlk⟩ := Bool.and_eq_true_iff.mp l1
  obtain ⟨hs, hgd⟩ := Bool.and_eq_true_iff.mp hs
  obtain ⟨hs, hnb⟩ := Bool.and_eq_true_iff.mp hs
  have hch : chainsOk qv = true := (Bool.and_eq_true_iff.mp (Bool.and_eq_true_iff.mp ok_law).1).1
  obtain ⟨G, g0, g1, g2, g3, g4, g5⟩ := ground_of_open (w := w) (XP := XL qv []) (fun s e => xl_of s (Bool.and_eq_true_iff.mp e).1) hch l2
  refine ⟨_, h5, rfl, _, ⟨top_runs w os, rfl, rfl, ?_, g2, statics_of_ok hs, g3, g4, g5, gens_of_done hgd, names_of_bound hnb, laid_of_kept hlk⟩, ⟨rfl, rfl⟩, rfl, g1, G, KF_in w os⟩
  intro b o hb hn
  exact old_kept w os b o hb hn
end
end Mine
end
section
namespace Mine
section
open PySem PySem.W PySem.Calls PyProof.Rows PySem.Spec
set_option linter.all false
set_option maxRecDepth 100000
section
variable {prog : Program} {w : World} {A : Around} {E : Value → Shared → Prop} {s : Shared} {K : Frag} {e t C : Addr} {oe : Obj} {ws : Array Value} {r : Str} {tk : Tok}
open Builtin Builtin.Str Builtin.BaseException Builtin.Exceptions
theorem bexc_bind (self : Value) : bindSpecial (.builtin "BaseException.__str__") self = pure (.builtin "BaseException.__str__", [self]) :=
  (Slot.of (T := "BaseException") (name := "__str__") (owner := "BaseException") (n := "__str__") (by rw [typeLookup_type, builtinLookup_eq_fast]; kernel_rfl) (by decide +kernel) (by decide +kernel) (by decide +kernel)
    (.inl (by decide +kernel)) (by rw [isSubtype_type]; kernel_rfl)).bind self
theorem bexcArgs_at {M : Model} {items : List Value} {Q : Value × List Value → Shared → Prop} (ho : s.heap.get? e = some oe) (hd : oe.data = .fields ws) (h0 : ws[0]? = some (.ref t)) (ht : s.heap.TupAt t items) (hq : Q (.ref t, items) s) :
    wpAny M A (bexcArgs (.ref e)) Q E s := by
  obtain ⟨ot, k, hto, _, htd⟩ := ht
  unfold bexcArgs
  refine wpAny_bind (wpAny_field ho hd h0 (wpAny_bind (wpAny_seqItems hto htd ?_)))
  have : items.toArray.toList = items := by simp
  show wpAny M A (pure (Value.ref t, items.toArray.toList)) Q E s
  rw [this]; exact wpAny_pure hq
theorem bexcStr_at {Q : Fin → Shared → Prop} (ho : s.heap.get? e = some oe) (hd : oe.data = .fields ws) (h0 : ws[0]? = some (.ref t)) (ht : s.heap.TupAt t [.str r tk]) (hq : Q (.done (.ret (.str r tk))) s) :
    wpAny (model prog w) A (Builtin.«BaseException.__str__» ⟨[.ref e], []⟩) Q E s := by
  unfold Builtin.«BaseException.__str__»
  repeat (first | with_reducible refine bexcArgs_at ho hd h0 ht ?_ | wp_step)
  exact hq
theorem bx_plain : plainId "BaseException.__str__" = true := by decide +kernel
theorem bx_kind : builtinKind "BaseException.__str__" = some .slot := by decide +kernel
theorem bx_split : splitId "BaseException.__str__" = some ("BaseException", "__str__") := by decide +kernel
theorem call_bexc {Q : Value → Shared → Prop} (X : K.In s.heap) (ho : s.heap.get? e = some oe) (hc : oe.cls = .ref C) (hd : oe.data = .fields ws) (h0 : ws[0]? = some (.ref t)) (ht : s.heap.TupAt t [.str r tk])
    (hm : mroIn K C (.type "BaseException") = some true) (hq : Q (.str r tk) s) :
    wpAny (model prog w) A (call (.builtin "BaseException.__str__") [.ref e]) Q E s := by
  have TY : ∀ {M : Model}, Looks M s.heap (typeOf (.ref e)) (.ref C) := hc ▸ (Looks.ld ho).andThen .now
  have L4 : Looks (model prog w) s.heap (isSubtype (.ref C) (.type "BaseException")) true := looks_mroIn X hm
  have L3 : Looks (model prog w) s.heap (isInstance (.ref e) (.type "BaseException")) true := TY.andThen L4
  refine wpAny_call ?_
  refine codeAny_call_builtin bx_plain F.entry_bexc_str ?_
  refine check_slot (owner := "BaseException") (n := "__str__") (i := "BaseException.__str__") (self := .ref e) (rest := []) (kw := []) bx_kind bx_split L3 ?hargs ?_
  case hargs => exact F.args_bexc_str _
  refine bexcStr_at ho hd h0 ht ?_
  exact hq
theorem strOf_own {Q : Value → Shared → Prop} (hu : A.units < cLine) (X : K.In s.heap) (ho : s.heap.get? e = some oe) (hc : oe.cls = .ref C) (hd : oe.data = .fields ws) (h0 : ws[0]? = some (.ref t)) (ht : s.heap.TupAt t [.str r tk])
    (hs : findIn K (.ref C) "__str__" = some (some (.builtin "BaseException.__str__"))) (hm : mroIn K C (.type "BaseException") = some true) (hq : Q (.str r tk) s) :
    wpAny (model prog w) A (PySem.Builtin.Str.strOf (.ref e)) Q E s := by
  have TY : ∀ {M : Model}, Looks M s.heap (typeOf (.ref e)) (.ref C) := hc ▸ (Looks.ld ho).andThen .now
  unfold PySem.Builtin.Str.strOf
  rw [show isExactStr (.ref e) = false from rfl]
  refine wpAny_bind (m := cRoomFor _ _) (wpAny_cRoomFor hu ?_)
  refine wpAny_bind (m := callSpecial? (.ref e) (Str.ofString "__str__")) ?_
  refine wpAny_bind (wpAny_bind (TY.here ((looks_findIn X hs).here ?_)))
  refine wpAny_holding ?_
  rw [bexc_bind]
  refine wpAny_bind (wpAny_pure ?_)
  refine wpAny_bind ?_
  refine call_bexc X ho hc hd h0 ht hm ?_
  exact wpAny_pure (wpAny_pure hq)
theorem str_own {Q : Value → Shared → Prop} (hu : A.units + 2 < cLine) (X : K.In s.heap) (ho : s.heap.get? e = some oe) (hc : oe.cls = .ref C) (hd : oe.data = .fields ws) (h0 : ws[0]? = some (.ref t)) (ht : s.heap.TupAt t [.str r tk])
    (hs : findIn K (.ref C) "__str__" = some (some (.builtin "BaseException.__str__"))) (hm : mroIn K C (.type "BaseException") = some true) (hq : Q (.str r tk) s) :
    wpAny (model prog w) A (call (.type "str") [.ref e]) Q E s :=
  callType_new F.called_str (by decide) (F.typeCall_str_1 _) (F.newCall_str_1 _) (fun obj => F.args_object_init_2 obj _) F.entry_str_new
    (meets_str_new (S := fun A' R s' => A'.units + 1 < cLine ∧ s'.heap = s.heap ∧ R (.ok (.ret (.str r tk))) s')
      fun _ _ A' _ s' hq => strOf_own (A := A'.in1) hq.1 (by rw [hq.2.1]; exact X) (by rw [hq.2.1]; exact ho) hc hd h0 (by rw [hq.2.1]; exact ht) hs hm hq.2.2)
    ⟨(show A.units + 1 + 1 < cLine from hu), rfl, typeIs_str _ _ _, hq⟩
theorem str_got {g : Heap} {L : Addr} {m : Str → Option Value} {news : List (Addr × Obj)} {Q : Value → Shared → Prop} (N : News g L s.heap news) (G : Got news e t (.ref C) [.str r tk]) (F : Fr g L s.heap m) (X : K.In g) (hu : A.units + 2 < cLine)
    (hs : findIn K (.ref C) "__str__" = some (some (.builtin "BaseException.__str__"))) (hm : mroIn K C (.type "BaseException") = some true) (hq : Q (.str r tk) s) :
    wpAny (model prog w) A (call (.type "str") [.ref e]) Q E s := by
  obtain ⟨oe, ot, ws, nt, h1, h2, hc, hd, h0, htc, htd⟩ := G
  exact str_own hu (X.keeps F.keep) (N _ h1).1 hc hd h0 ⟨ot, nt, (N _ h2).1, htc, htd⟩ hs hm hq
theorem x64 (P : Params) : findIn (KF P) (.ref 64) "__str__" = some (some (.builtin "BaseException.__str__")) ∧ mroIn (KF P) 64 (.type "BaseException") = some true := ⟨by kernel_rfl, by kernel_rfl⟩
theorem x76 (P : Params) : findIn (KF P) (.ref 76) "__str__" = some (some (.builtin "BaseException.__str__")) ∧ mroIn (KF P) 76 (.type "BaseException") = some true := ⟨by kernel_rfl, by kernel_rfl⟩
end
end
end Mine
end
section
namespace Mine
section
open PySem PySem.W PySem.Calls PyProof.Rows
set_option linter.all false
set_option maxRecDepth 100000
set_option maxHeartbeats 4000000
theorem fr_mem {env : Env} {L b : Addr} (hf : env.frame = some L) (hb : b ∈ [env].filterMap (·.frame)) : b = L := by
  simpa [hf] using hb
section
variable {prog : Program} {w : World} {A₀ A : Around} {s : Shared} {base h₀ : Heap} {env : Env} {L : Addr} {m : Str → Option Value} {news : List (Addr × Obj)} {K : Frag} {p : Program} {loose : List Str} {mean : ExcName → Option Value} {mg mb : Str → Option Value}
    {R : Result → Shared → Prop} {name qual : Str} {params : Arguments} {body : List Stmt} {scope : Scope} {dV kV doc pm cdv ct oc : Value} {an od : Option Addr} {osl : Array (Option Value)} {f : Addr} {args : Args} {binds : List (Str × Value)}
/-- a def that catches, called from a frame with cells -/
theorem code_defSX (B : Below A₀ base [] h₀) (F : Fr h₀ L s.heap m) (X₀ : K.In h₀) (N : News h₀ L s.heap news) (T : Top p loose mean mg mb h₀) (hA : A.frames = some [env]) (hf : env.frame = some L) (hck : env.scope.kind = .function)
    (ho : K.lookup f = some ⟨oc, od, .func (fnOf name qual params body scope dV kV doc pm an cdv ct), osl⟩) (hcd : codeIn K cdv qual = true) (hroom : A.depth < recursionLimit)
    (hbind : BindsTo s (fnOf name qual params body scope dV kV doc pm an cdv ct) args binds) (hloc : ∀ y ∈ binds, scope.names.lookup y.1 = some .local)
    (h : ∀ g L' h₁, Fr h₀ L g m → Fr g L' h₁ (fun y => binds.reverse.lookup y) → News g L' h₁ news → Below A base [env] g → K.In g → Top p loose mean mg mb g → KtsDicts ([env].filterMap (·.frame)) g →
      wpAny (model prog w) (A.deeper (envOf qual scope L' f cdv)) (execs body (envOf qual scope L' f cdv))
        (fun fl s' => LeaveS0 ([env].filterMap (·.frame)) h₀ L m g R (match fl with | .ret v => v | _ => .none) s')
        (fun e s' => wpAny (model prog w) (A.deeper (envOf qual scope L' f cdv)) (leaving (envOf qual scope L' f cdv) e) (fun _ s'' => R (.error e) s'') (fun e' s'' => R (.error e') s'') s')
        { s with heap := h₁, toks := s.toks + binds.length })
    (hco : scope.isCoroutine = false) (hgen : scope.isGenerator = false) (hk : scope.kind = .function)
    (hcell : ∀ x ∈ scope.names, x.2 ≠ .cell) : codeAny (model prog w) A (.call (.ref f) args) R s := by
  have X := X₀.keeps F.keep
  obtain ⟨FG, BG, st, _⟩ := groundX (R := R) B F N hA hf hck
  obtain ⟨oL, es, ep, hL, hLd, hLk, hLf⟩ := F.ns
  have nL : L ∉ news.map (·.1) := fun q => by
    obtain ⟨p, hp, e⟩ := List.mem_map.mp q
    exact (N p hp).2.1 e
  have hLg := hideAll_get (news.map (·.1)) hL nL
  have hNs : ∀ (sl : Array (Option Value)) h', h'.get? L = some { oL with slots := sl } → Heap.Ns h' L m := fun sl h' e => ⟨_, es, ep, e, hLd, hLk, hLf⟩
  refine codeAny_call_def (fd := fnOf name qual params body scope dV kV doc pm an cdv ct) (body := body) (binds := binds) hroom (X _ _ ho) rfl (T.nolimit.keeps F.keep) (codeRec_of X hcd) rfl hbind hcell hloc (fun h₁ hns hk₁ => ?_) hco hgen hk
  refine wpAny_mono (h _ s.heap.objs.size h₁ FG ⟨hns, fun b o e => hk₁ b o (of_hideAll _ e), Nat.le_of_eq (hideAll_size _ _)⟩
    (fun p hp => ⟨hk₁ _ _ (N p hp).1, Nat.ne_of_lt (Heap.lt_size (N p hp).1), hideAll_none _ (List.mem_map_of_mem hp)⟩) BG (X₀.keeps st) (T.keeps st) (fun b hb => by
      obtain rfl := fr_mem hf hb
      exact ⟨oL, es, ep, hLg, hLd⟩)) (fun fl s' hl => ?_) fun _ _ y => y
  obtain ⟨g', L', m', news', T', F', N', k⟩ := hl
  have nL₀ : h₀.get? L = none := kts_self F
  obtain ⟨sl, hs⟩ := T'.up hLg
  refine k ⟨hNs sl _ (F'.keep _ _ hs), fun b o e => F'.keep b o (T'.other b o (st b o e) (fun q => by
    obtain rfl := fr_mem hf q
    rw [nL₀] at e
    cases e)), F.above⟩ fun p hp => ⟨(N' p hp).1, fun q => ?_, ?_⟩
  · have := (N' p hp).2.2; rw [q, hs] at this; cases this
  · cases q : h₀.get? p.1 with
    | none => rfl
    | some o =>
      obtain ⟨sl', hs'⟩ := T'.up (st _ _ q)
      have := (N' p hp).2.2
      rw [hs'] at this
      cases this
end
end
section
open PySem PySem.W PySem.Calls PyProof.Rows
local macro_rules | `(tactic| walk_at "call ref") => `(tactic| (k_here; (fail_if_success k_inElt); kts_any; k_dflt (refine wpAny_call ?_;(refine' code_defSX ?k1 ?k2 ?k3 ?k4 ?k5 ?kA ?kf ?kk ?k6 ?k7 ?k8 ?k9 ?kB ?_ ?c2 ?c3 ?c4 ?c5; (case kA => exact rfl); (case kf => exact rfl); (case kk => exact rfl); (case k2 => k_asm); (case k1 => k_asm); (case k3 => k_asm); (case k4 => k_asm); (case k5 => k_asm); (case k6 => k_is); (case k7 => k_is); (case k8 => k_room); (case k9 => first | exact binds_K (by k_in) rfl (by k_is) rfl rfl rfl | exact BindsTo.of_eq rfl | fail "no rule for these arguments"); (case kB => exact locs rfl); (case c2 => exact rfl); (case c3 => exact rfl); (case c4 => exact rfl); (case c5 => decide); k_whole; intro g' L' h' FG' F' N' B' X' T' D'; (try dsimp only); (try k_lift B'); (try k_fold)))))
local macro_rules | `(tactic| walk_at "call type:str") => `(tactic| (k_here; (with_reducible show wpAny _ _ (PySem.call (Value.type "str") [Value.ref _]) _ _ _); (with_reducible rename Got _ _ _ _ _ => gX); k_dflt (first | (refine' str_got (C := 64) ?kN gX ?kF ?kX ?ku (x64 _).1 (x64 _).2 ?_; (case kN => assumption); (case kF => assumption); (case kX => assumption); (case ku => k_units); k_whole) | (refine' str_got (C := 76) ?kN gX ?kF ?kX ?ku (x76 _).1 (x76 _).2 ?_; (case kN => assumption); (case kF => assumption); (case kX => assumption); (case ku => k_units); k_whole))))
section
open PySem PySem.W PySem.Calls PyProof.Rows
set_option linter.all false
set_option maxRecDepth 100000
set_option maxHeartbeats 4000000
theorem fill1 : WalkO qv looseL (XL qv []) (InK KF) row0.toRowW dLaw [] (fun f vs => PySem.call f vs) → True := by
  k_fill
  exact fun _ => trivial
theorem asked_r {w : World} {pp : Program} {ll : List Str} {mean : ExcName → Option Value} {mg mb : Str → Option Value} {d : Addr} {news : List (Addr × Obj)} (R : Str) (t : Tok) (host : Str) (th tp : Tok)
    {fa : Addr} {ccd : Value} {h₀ : Heap} {L : Addr} {m : Str → Option Value} {s : Shared} {Q E : Value → Shared → Prop} (hR : R.length ≤ 1000)
    (hne : (Txt.slice R none (some 3) != Str.ofString "229") = true)
    (B : Below callerA h₀ [] h₀) (F : Fr h₀ L s.heap m) (X : (KF w.params).In h₀) (N : News h₀ L s.heap ((d, ⟨.type "tuple", none, .seq #[.str host th, .int 21 tp] 0, #[]⟩) :: news)) (T : Top pp ll mean mg mb h₀)
    (hret : ∀ (h' : Heap) (tk' : Nat) (c : Addr) (u : Tok), Fr h₀ L h' m → News h₀ L h' ((c, listOf #[.str (Str.ofString "reply") u, .str R t] 0) :: ((d, ⟨.type "tuple", none, .seq #[.str host th, .int 21 tp] 0, #[]⟩) :: news)) → Q (.ref c) { s with heap := h', toks := tk' }) :
    wpAny (model pw w) (callerA.deeper (envOfC (Str.ofString "law") fd_law.1.2.2 L fa ccd)) (call (.ref 175) [.str R t, .ref d]) Q E s := by
  k_steps
  exact hret _ _ _ _ (by assumption) (by assumption)
theorem asked_p1 {w : World} {pp : Program} {ll : List Str} {mean : ExcName → Option Value} {mg mb : Str → Option Value} {d : Addr} {news : List (Addr × Obj)} (R : Str) (t : Tok) (host : Str) (th tp : Tok)
    {fa : Addr} {ccd : Value} {h₀ : Heap} {L : Addr} {m : Str → Option Value} {s : Shared} {Q E : Value → Shared → Prop} (hR : R.length ≤ 1000)
    (hs : (Txt.slice R none (some 3) != Str.ofString "229") = false) (h1 : Txt.find R (Str.ofString "(") = 8) (n : Nat) (h2 : Txt.find3 R (Str.ofString ")") (Txt.find R (Str.ofString "(") + 1) = 9 + n) (hn : 0 < n) (hl : (R.length : Int) = 18 + n)
    (hx : (Txt.item R (Txt.find R (Str.ofString "(") + 1) != Txt.item R (Txt.find3 R (Str.ofString ")") (Txt.find R (Str.ofString "(") + 1) - 1)) = true)
    (B : Below callerA h₀ [] h₀) (F : Fr h₀ L s.heap m) (X : (KF w.params).In h₀) (N : News h₀ L s.heap ((d, ⟨.type "tuple", none, .seq #[.str host th, .int 21 tp] 0, #[]⟩) :: news)) (T : Top pp ll mean mg mb h₀)
    (hret : ∀ (h' : Heap) (tk' : Nat) (c : Addr) (u : Tok), Fr h₀ L h' m → News h₀ L h' ((c, listOf #[.str (Str.ofString "proto") u, .str R t] 0) :: ((d, ⟨.type "tuple", none, .seq #[.str host th, .int 21 tp] 0, #[]⟩) :: news)) → Q (.ref c) { s with heap := h', toks := tk' }) :
    wpAny (model pw w) (callerA.deeper (envOfC (Str.ofString "law") fd_law.1.2.2 L fa ccd)) (call (.ref 175) [.str R t, .ref d]) Q E s := by
  k_steps
  exact hret _ _ _ _ (by assumption) (by assumption)
end
section
open PySem PySem.W PySem.Calls PyProof.Rows
set_option linter.all false
set_option maxRecDepth 100000
set_option maxHeartbeats 4000000
local macro_rules | `(tactic| walk_at "no such step 0") => `(tactic| fail)
theorem fill2 : WalkO qv looseL (XL qv []) (InK KF) row0.toRowW dLaw [] (fun f vs => PySem.call f vs) → True := by
  k_fill
  exact fun _ => trivial
theorem drop2 {g h : Heap} {L : Addr} {x y : Addr × Obj} {news : List (Addr × Obj)} (N : News g L h (x :: y :: news)) : News g L h (x :: news) := fun q hq => N q (by
  rcases List.mem_cons.mp hq with rfl | hq
  · exact List.mem_cons_self ..
  · exact List.mem_cons_of_mem _ (List.mem_cons_of_mem _ hq))
theorem asked_s {w : World} {pp : Program} {ll : List Str} {mean : ExcName → Option Value} {mg mb : Str → Option Value} {d : Addr} {news : List (Addr × Obj)} (R : Str) (t : Tok) (host : Str) (th tp : Tok)
    {fa : Addr} {ccd : Value} {h₀ : Heap} {L : Addr} {m : Str → Option Value} {s : Shared} {Q E : Value → Shared → Prop} (hR : R.length ≤ 1000)
    (hs : (Txt.slice R none (some 3) != Str.ofString "229") = false) (h1 : Txt.find R (Str.ofString "(") = 8) (n : Nat) (h2 : Txt.find3 R (Str.ofString ")") (Txt.find R (Str.ofString "(") + 1) = 9 + n) (hn : 0 < n) (hl : (R.length : Int) = 18 + n)
    (hx : (Txt.item R (Txt.find R (Str.ofString "(") + 1) != Txt.item R (Txt.find3 R (Str.ofString ")") (Txt.find R (Str.ofString "(") + 1) - 1)) = false)
    (B : Below callerA h₀ [] h₀) (F : Fr h₀ L s.heap m) (X : (KF w.params).In h₀) (N : News h₀ L s.heap ((d, ⟨.type "tuple", none, .seq #[.str host th, .int 21 tp] 0, #[]⟩) :: news)) (T : Top pp ll mean mg mb h₀)
    (P : List Str) (hP : (Txt.split (Txt.slice R (some (Txt.find R (Str.ofString "(") + 1)) (some (Txt.find3 R (Str.ofString ")") (Txt.find R (Str.ofString "(") + 1)))) (Txt.item R (Txt.find R (Str.ofString "(") + 1))) = P) (k : Int) (hk : P.length = 5 → ∀ y, P[3]? = some y → PySem.intText? y = some k ∧ y.length ≤ 640)
    (hret2 : P.length = 5 → ∀ (h' : Heap) (tk' : Nat) (c : Addr) (u : Tok), Fr h₀ L h' m → News h₀ L h' ((c, ⟨.type "tuple", none, .seq #[.str host th, .int k u] 0, #[]⟩) :: ((d, ⟨.type "tuple", none, .seq #[.str host th, .int 21 tp] 0, #[]⟩) :: news)) → Q (.ref c) { s with heap := h', toks := tk' })
    (hret : P.length ≠ 5 → ∀ (h' : Heap) (tk' : Nat) (c : Addr) (u : Tok), Fr h₀ L h' m → News h₀ L h' ((c, listOf #[.str (Str.ofString "proto") u, .str R t] 0) :: ((d, ⟨.type "tuple", none, .seq #[.str host th, .int 21 tp] 0, #[]⟩) :: news)) → Q (.ref c) { s with heap := h', toks := tk' }) :
    wpAny (model pw w) (callerA.deeper (envOfC (Str.ofString "law") fd_law.1.2.2 L fa ccd)) (call (.ref 175) [.str R t, .ref d]) Q E s := by
  k_steps
  · (with_reducible rename (List.map _ _ = Txt.split _ _) => hlook')
    rename News h₀ L _ _ => kN
    have e5 : P.length ≠ 5 := by
      rw [← hP, ← hlook', List.length_map]
      omega
    exact hret e5 _ _ _ _ (by assumption) (drop2 kN)
  · rename_i hy
    (with_reducible rename (List.map _ _ = Txt.split _ _) => hlook')
    have e5 : P.length = 5 := by
      rw [← hP, ← hlook', List.length_map]
      omega
    have hz := hk e5 _ ((congrArg (fun z : List Str => z[3]?) (hP.symm.trans hlook'.symm)).trans hy)
    refine KIN.call_text hz.1 hz.2 ?_
    k_steps
    rename News h₀ L _ _ => kN
    exact hret2 e5 _ _ _ _ (by assumption) (drop2 kN)
end
end
end Mine
end
section
namespace Mine
section
open PySem PySem.W PySem.Calls PyProof.Rows
set_option linter.all false
set_option maxRecDepth 100000
set_option maxHeartbeats 4000000
theorem fill3 : WalkO qv looseL (XL qv []) (InK KF) row0.toRowW dLaw [] (fun f vs => PySem.call f vs) → True := by
  k_fill
  exact fun _ => trivial
/-- a def of the text's own, called from any frame: it gives R back, the ledger stands -/
noncomputable def FnClaim (n : Nat) (w : World) (mean : ExcName → Option Value) (mg mb : Str → Option Value) (f : Addr) (news : List (Addr × Obj)) (vs : List Value) (R : Tok → Value) : Prop :=
  ∀ (pp : Program) (ll : List Str) (dp un : Nat) (gd : Option (List Code)) (cn : Str) (cs : Scope) (a : Addr) (ccd : Value) (cl : List (Str × Addr)) (outer : List Env) (A₀ : Around) (base h₀ : Heap) (L : Addr) (m : Str → Option Value) (s : Shared) (Q E : Value → Shared → Prop),
    Below A₀ base outer h₀ → Fr h₀ L s.heap m → (KF w.params).In h₀ → News h₀ L s.heap news → Top pp ll mean mg mb h₀ → cs.kind = .function →
    dp + 4 * n < recursionLimit → un + 30 * n < cLine →
    (∀ (t : Tok) (h' : Heap) (tk' : Nat), Fr h₀ L h' m → News h₀ L h' news → Q (R t) { s with heap := h', toks := tk' }) →
      wpAny (model pw w) (ktrTop dp un gd cn cs L a ccd cl outer) (call (.ref f) vs) Q E s
theorem FnClaim.use {n : Nat} {w : World} {mean : ExcName → Option Value} {mg mb : Str → Option Value} {f : Addr} {news : List (Addr × Obj)} {vs : List Value} {R : Tok → Value}
    {pp : Program} {ll : List Str} {dp un : Nat} {gd : Option (List Code)} {cn : Str} {cs : Scope} {a : Addr} {ccd : Value} {cl : List (Str × Addr)} {outer : List Env} {A₀ : Around} {base h₀ : Heap} {L : Addr} {m : Str → Option Value} {s : Shared} {Q E : Value → Shared → Prop}
    (C : FnClaim n w mean mg mb f news vs R) (B : Below A₀ base outer h₀) (F : Fr h₀ L s.heap m) (X : (KF w.params).In h₀) (N : News h₀ L s.heap news) (T : Top pp ll mean mg mb h₀) (hk : cs.kind = .function)
    (hd : dp + 4 * n < recursionLimit) (hu : un + 30 * n < cLine)
    (hret : ∀ (t : Tok) (h' : Heap) (tk' : Nat), Fr h₀ L h' m → News h₀ L h' news → Q (R t) { s with heap := h', toks := tk' }) :
    wpAny (model pw w) (ktrTop dp un gd cn cs L a ccd cl outer) (call (.ref f) vs) Q E s :=
  C _ _ _ _ _ _ _ _ _ _ _ _ _ _ _ _ _ _ _ B F X N T hk hd hu hret
theorem drop1 {g h : Heap} {L : Addr} {x : Addr × Obj} {news : List (Addr × Obj)} (N : News g L h (x :: news)) : News g L h news := fun q hq => N q (List.mem_cons_of_mem _ hq)
noncomputable def unseenL : List Int := [173, 847, 6150, 6155, 6156, 6157, 8203, 8204, 8205, 8288, 65279]
noncomputable def unseenI (k : Int) : Int := if k < 16 then 65024 + k else unseenL.getD (k - 16).toNat 0
theorem unseenL_b (i : Nat) : 0 ≤ unseenL.getD i 0 ∧ unseenL.getD i 0 < 1114112 ∧ (unseenL.getD i 0 < 55296 ∨ 57343 < unseenL.getD i 0) := by
  rcases Nat.lt_or_ge i 11 with h | h
  · have : ∀ i : Fin 11, 0 ≤ unseenL.getD i.1 0 ∧ unseenL.getD i.1 0 < 1114112 ∧ (unseenL.getD i.1 0 < 55296 ∨ 57343 < unseenL.getD i.1 0) := by decide
    exact this ⟨i, h⟩
  · have e : unseenL.getD i 0 = 0 := by
      rw [List.getD_eq_getElem?_getD, List.getElem?_eq_none (show unseenL.length ≤ i from h)]
      rfl
    rw [e]
    decide
theorem unseen_c {w : World} {mean : ExcName → Option Value} {mg mb : Str → Option Value} {news : List (Addr × Obj)} (k : Int) (t : Tok) (h0 : 0 ≤ k) (h1 : k < 27) :
    FnClaim 1 w mean mg mb 156 news [.int k t] (fun t => .str ⟨#[(unseenI k).toNat]⟩ t) := by
  unfold FnClaim
  intros
  rename_i hret
  refine wpAny_call ?_
  k_dflt cell_enter
  k_steps
  · have e : 65024 + k = unseenI k := (if_pos (by omega)).symm
    rw [e]
    exact hret _ _ _ (by assumption) (by assumption)
  · have e : unseenL.getD (k - 16).toNat 0 = unseenI k := (if_neg (by omega)).symm
    have b := unseenL_b (k - 16).toNat
    rw [e] at b
    show wpAny _ _ (call (Value.builtin "chr") [Value.int (unseenL.getD (k - 16).toNat 0) _]) _ _ _
    rw [e]
    refine PyProof.Rows.chr_of_range b.1 (by omega) ?_
    k_steps
    exact hret _ _ _ (by assumption) (drop1 (by assumption))
end
end Mine
end
section
namespace Mine
section
open PySem PySem.W PySem.Calls PyProof.Rows
set_option linter.all false
set_option maxRecDepth 100000
set_option maxHeartbeats 4000000
theorem join_len (c : Nat) : ∀ l : List Str, (Str.join ⟨#[c]⟩ l).length ≤ (l.map (·.length)).sum + l.length
  | [] => Nat.zero_le _
  | [x] => by simp [Str.join]
  | x :: y :: r => by
    have ih := join_len c (y :: r)
    rw [show Str.join ⟨#[c]⟩ (x :: y :: r) = x ++ ⟨#[c]⟩ ++ Str.join ⟨#[c]⟩ (y :: r) from rfl, Str.length_append, Str.length_append]
    simp only [List.map_cons, List.sum_cons, List.length_cons] at ih ⊢
    have e : (⟨#[c]⟩ : Str).length = 1 := rfl
    omega
theorem figs_len (c : Nat) (y : Str) : (Txt.join ⟨#[c]⟩ (signs y)).length ≤ 2 * y.length := by
  have h := join_len c (signs y)
  rw [signs_sumLen, signs_length] at h
  have e : Txt.join ⟨#[c]⟩ (signs y) = Str.join ⟨#[c]⟩ (signs y) := PySem.StrLaws.glued_eq_join _ _
  rw [e]
  omega
section
variable {prog : Program} {w : World} {A : Around} {E : Value → Shared → Prop} {s : Shared} {x y : Str} {t u : Tok} {h₀ : Heap} {L : Addr} {m : Str → Option Value} {Q : Value → Shared → Prop} {news : List (Addr × Obj)}
theorem join_one_c {c : Nat} (hh : A.handled = none) (Fh : Fr h₀ L s.heap m) (hN : News h₀ L s.heap news) (hy : y.length ≤ 12) (hc : x = ⟨#[c]⟩)
    (hq : ∀ h' k t' J, Fr h₀ L h' m → News h₀ L h' news → J = Txt.join x (signs y) → J.length ≤ 24 → Q (.str J t') { s with heap := h', toks := k }) :
    wpAny (model prog w) A (call (.builtin "str.join") [.str x t, .str y u]) Q E s :=
  join_strF hh Fh hN (joinOk_signsN (N := 12) (S := 1) hy (by rw [hc]; exact Nat.le_refl 1) (by decide)) fun h' k t' F N => hq h' k t' _ F N rfl (by
    have := figs_len c y
    rw [hc]
    omega)
theorem chr_b {i : Int} (h0 : 0 ≤ i) (h1 : i ≤ 1114111) (h : ∀ Z : Str, Z = ⟨#[i.toNat]⟩ → Z.length ≤ 1 → Q (.str Z s.toks) { s with toks := s.toks + 1 }) :
    wpAny (model prog w) A (call (.builtin "chr") [.int i t]) Q E s := PyProof.Rows.chr_of_range h0 h1 (h _ rfl (Nat.le_refl 1))
theorem add_b {a b : Nat} (hx : x.length ≤ a) (hy : y.length ≤ b) (hz : a + b ≤ 16777216) (h : ∀ t' k Z, Z = x ++ y → Z.length ≤ a + b → Q (.str Z t') { s with toks := k }) :
    wpAny (model prog w) A (binaryOp .Add (.str x t) (.str y u)) Q E s :=
  SB.add (fun t' k => h t' k _ rfl (by rw [Str.length_append]; omega)) (by rw [sizeLine_eq]; omega)
theorem item_b {value slice : PySem.Expr} {l : Addr} {vs : List Value} {ws : List Str} {i : Int} {N : Nat} (hl : s.heap.IsList l vs.toArray) (hw : StrsAre vs ws) (h0 : 0 ≤ i) (h1 : i < (ws.length : Int)) (hfit : i < 2 ^ 63)
    (hN : ∀ x ∈ ws, x.length ≤ N) (h : ∀ t' Z, Z = ws.getD i.toNat PySem.Str.empty → Z.length ≤ N → Q (.str Z t') s)
    (hs : subscripted slice false (.ref l) (.int i u) = operate [.ref l, .int i u] (getItem (.ref l) (.int i u)) := by with_unfolding_all rfl) :
    wpAny (model prog w) A (subscriptTail value slice (.ref l) (.int i u)) Q E s :=
  KTb.item_list hl hw h0 h1 hfit (fun t' hlt => h t' _ rfl (by
    rw [List.getD_eq_getElem?_getD, List.getElem?_eq_getElem hlt]
    exact hN _ (List.getElem_mem hlt))) hs
end
theorem unseen_b {w : World} {mean : ExcName → Option Value} {mg mb : Str → Option Value} {news : List (Addr × Obj)} {k : Int} {t : Tok} {pp : Program} {ll : List Str} {dp un : Nat} {gd : Option (List Code)} {cn : Str} {cs : Scope} {a : Addr} {ccd : Value} {cl : List (Str × Addr)} {outer : List Env} {A₀ : Around} {base h₀ : Heap} {L : Addr} {m : Str → Option Value} {s : Shared} {Q E : Value → Shared → Prop}
    (h0 : 0 ≤ k) (h1 : k < 27) (B : Below A₀ base outer h₀) (F : Fr h₀ L s.heap m) (X : (KF w.params).In h₀) (N : News h₀ L s.heap news) (T : Top pp ll mean mg mb h₀) (hk : cs.kind = .function)
    (hd : dp + 4 * 1 < recursionLimit) (hu : un + 30 * 1 < cLine)
    (hret : ∀ (t : Tok) (h' : Heap) (tk' : Nat) (Z : Str), Fr h₀ L h' m → News h₀ L h' news → Z = ⟨#[(unseenI k).toNat]⟩ → Z.length ≤ 1 → Q (.str Z t) { s with heap := h', toks := tk' }) :
    wpAny (model pw w) (ktrTop dp un gd cn cs L a ccd cl outer) (call (.ref 156) [.int k t]) Q E s :=
  (unseen_c k t h0 h1).use B F X N T hk hd hu fun t h' tk' F' N' => hret t h' tk' _ F' N' rfl (Nat.le_refl 1)
end
section
open PySem PySem.W PySem.Calls PyProof.Rows
set_option linter.all false
set_option maxRecDepth 100000
set_option maxHeartbeats 4000000
local macro_rules | `(tactic| walk_at "call builtin:str.join") => `(tactic| (k_here; (with_reducible show wpAny _ _ (PySem.call (Value.builtin "str.join") [Value.str _ _, Value.str _ _]) _ _ _); k_dflt (refine' join_one_c ?hh ?F ?N ?ok ?hc ?_; (case hh => exact rfl); (case F => k_asm); (case N => k_asm); (case hc => assumption); (case ok => omega); k_whole); intro h' tk' t' J' F' N' hJ' lJ'; (try dsimp only)))
local macro_rules | `(tactic| walk_at "call builtin:chr") => `(tactic| (k_here; (with_reducible show wpAny _ _ (PySem.call (Value.builtin "chr") [Value.int _ _]) _ _ _); k_dflt (refine' chr_b ?h0 ?h1 ?_; (case h0 => omega); (case h1 => omega); k_whole); intro Z' hZ' lZ'; (try dsimp only)))
local macro_rules | `(tactic| walk_at "binaryOp Add str str") => `(tactic| (k_here; (with_reducible show wpAny _ _ (PySem.binaryOp Operator.Add (Value.str _ _) (Value.str _ _)) _ _ _); k_dflt (refine' add_b ?hx ?hy ?hz ?_; (case hx => first | assumption | exact Nat.le_refl _); (case hy => first | assumption | exact Nat.le_refl _); (case hz => decide); k_whole); intro t' tk' Z' hZ' lZ'; (try dsimp only)))
local macro_rules | `(tactic| walk_at "subscriptTail") => `(tactic| (k_here; (with_reducible show wpAny _ _ (subscriptTail _ _ (Value.ref _) (Value.int _ _)) _ _ _); ktb_letter; k_dflt (refine' item_b (N := 64) ?ktbl ?ktbw ?ktb0 ?ktb1 ?ktbf ?hN ?_; (case ktbl => ktb_isList); (case ktbw => repeat constructor); (case ktb0 => ktb_idx); (case ktb1 => ktb_idx); (case ktbf => ktb_idx); (case hN => repeat (first | exact List.forall_mem_nil _ | (refine List.forall_mem_cons.mpr ⟨?_, ?_⟩) | exact Nat.le_trans (by assumption) (by decide) | decide))); k_whole; intro t' Z' hZ' lZ'; (try dsimp only)))
local macro_rules | `(tactic| walk_at "call ref") => `(tactic| (k_here; k_dflt (refine' unseen_b ?h0 ?h1 ?B ?F ?X ?N ?T ?hk ?hd ?hu ?_; (case B => assumption); (case F => k_asm); (case X => assumption); (case N => k_asm); (case T => assumption); (case h0 => l_fact); (case h1 => l_fact); (case hk => first | assumption | exact rfl); (case hd => ktr_room); (case hu => ktr_units); k_whole); intro t' h' tk' Z' F' N' hZ' lZ'; (try dsimp only)))
theorem fill4 : WalkO qv looseL (XL qv []) (InK KF) row0.toRowW dLaw [] (fun f vs => PySem.call f vs) → True := by
  k_fill
  exact fun _ => trivial
noncomputable def signS (d : Int) : Str := ⟨#[(unseenI ((d.fdiv 7).fmod 27)).toNat]⟩
noncomputable def greatS (d : Int) : Str := ⟨#[(119826 + 52 * ((d.fdiv 567).fmod 13)).toNat]⟩
noncomputable def figS (p d : Int) : Str := Txt.join (signS d) (signs (Txt.mul (Str.ofString "0") ((d.fdiv 189).fmod 3) ++ Str.ofString (toString p))) ++ signS d
noncomputable def chS (n : Int) : Str := ⟨#[n.toNat]⟩
noncomputable def insideS (p d : Int) : Str :=
  ([greatS d ++ Str.ofString "7" ++ chS 383 ++ greatS d ++ figS p d ++ Str.ofString "S",
    chS 223 ++ Str.ofString "9" ++ greatS d ++ figS p d ++ Str.ofString "s",
    chS 64262 ++ chS 383 ++ greatS d ++ figS p d ++ Str.ofString "s",
    greatS d ++ Str.ofString "4" ++ chS 223 ++ figS p d ++ Str.ofString "s",
    [greatS d ++ greatS d ++ greatS d ++ figS p d ++ chS 223, greatS d ++ greatS d ++ figS p d ++ Str.ofString "s"].getD ((d.fdiv 7).fmod 2).toNat Str.empty,
    greatS d ++ greatS d ++ greatS d ++ figS p d ++ chS 64262,
    greatS d ++ greatS d ++ greatS d ++ figS p d ++ Str.ofString "s"] : List Str).getD (d.fmod 7).toNat Str.empty
noncomputable def codeS (d : Int) : Str := if d.fmod 7 = 6 then [Str.ofString "228", Str.ofString "239", Str.ofString "129"].getD ((d.fdiv 7).fmod 3).toNat Str.empty else Str.ofString "229"
noncomputable def replyS (p d : Int) : Str := codeS d ++ Str.ofString " ok) (" ++ insideS p d ++ Str.ofString ") (sss9s)"
theorem replyS_6 {p d : Int} (h : d.fmod 7 = 6) : [Str.ofString "228", Str.ofString "239", Str.ofString "129"].getD ((d.fdiv 7).fmod 3).toNat Str.empty ++ Str.ofString " ok) (" ++ insideS p d ++ Str.ofString ") (sss9s)" = replyS p d := by
  unfold replyS codeS
  rw [if_pos h]
theorem replyS_5 {p d : Int} (h : ¬ d.fmod 7 = 6) : Str.ofString "229" ++ Str.ofString " ok) (" ++ insideS p d ++ Str.ofString ") (sss9s)" = replyS p d := by
  unfold replyS codeS
  rw [if_neg h]
theorem reply_c {w : World} {mean : ExcName → Option Value} {mg mb : Str → Option Value} {news : List (Addr × Obj)} (port dress : Int) (t u : Tok) (h0 : 0 ≤ port) (h1 : port < 18) :
    FnClaim 2 w mean mg mb 163 news [.int port t, .int dress u] (fun t => .str (replyS port dress) t) := by
  have hq0 : 0 ≤ (dress.fdiv 189).fmod 3 := Int.fmod_nonneg_of_pos _ (by decide)
  have hq1 : (dress.fdiv 189).fmod 3 < 3 := Int.fmod_lt_of_pos _ (by decide)
  have hq2 : 0 ≤ (dress.fdiv 567).fmod 13 := Int.fmod_nonneg_of_pos _ (by decide)
  have hq3 : (dress.fdiv 567).fmod 13 < 13 := Int.fmod_lt_of_pos _ (by decide)
  have hq4 : 0 ≤ (dress.fdiv 7).fmod 2 := Int.fmod_nonneg_of_pos _ (by decide)
  have hq5 : (dress.fdiv 7).fmod 2 < 2 := Int.fmod_lt_of_pos _ (by decide)
  have hq6 : 0 ≤ (dress.fdiv 7).fmod 3 := Int.fmod_nonneg_of_pos _ (by decide)
  have hq7 : (dress.fdiv 7).fmod 3 < 3 := Int.fmod_lt_of_pos _ (by decide)
  have hq8 : 0 ≤ dress.fmod 7 := Int.fmod_nonneg_of_pos _ (by decide)
  have hq9 : dress.fmod 7 < 7 := Int.fmod_lt_of_pos _ (by decide)
  have hp : (Str.ofString (toString port)).length ≤ 10 := KT.len_num h0 (by omega)
  have hm : (Txt.mul (Str.ofString "0") ((dress.fdiv 189).fmod 3)).length ≤ 2 := len_mul_leN (L := 1) (N := 2) (Nat.le_refl 1) (by omega)
  unfold FnClaim
  intros
  rename_i hret
  refine wpAny_call ?_
  k_dflt cell_enter
  repeat' (first | (k_unfold; (try dsimp only)) | (k_end; wrow_close) | walk1 | (dsimp only; walk1) | (leave1; try dsimp only) | fail "no step")
  all_goals subst_vars
  · refine cb_retS hret (replyS_6 (by assumption)) (by assumption) ?_
    first | assumption | exact drop1 (by assumption) | exact drop1 (drop1 (by assumption)) | exact drop1 (drop1 (drop1 (by assumption)))
  · refine cb_retS hret (replyS_5 (by assumption)) (by assumption) ?_
    first | assumption | exact drop1 (by assumption) | exact drop1 (drop1 (by assumption)) | exact drop1 (drop1 (drop1 (by assumption)))
end
end Mine
end
section
namespace Mine
section
open PySem PySem.W PySem.Calls PyProof.Rows
set_option linter.all false
set_option maxRecDepth 100000
set_option maxHeartbeats 4000000
noncomputable def b1L : List (Int × Tok) := [(65024, 315), (65025, 316), (65026, 317), (65027, 318), (65028, 319), (65029, 320), (6150, 301), (65030, 321), (65031, 322), (65032, 323), (65033, 324), (6155, 302), (6156, 303), (6157, 304), (8203, 305), (8204, 306), (8205, 307), (65034, 325), (65035, 326), (65036, 327), (65037, 328), (65038, 329), (65039, 330), (173, 299), (847, 300), (8288, 308), (65279, 309)]
noncomputable def isB1 (c : Int) : Bool := (b1L.map (·.1)).contains c
noncomputable def b1obj (P : Params) : Obj := ⟨(.type "set"), none, (.set #[(65024, (.int 65024 315)), (65025, (.int 65025 316)), (65026, (.int 65026 317)), (65027, (.int 65027 318)), (65028, (.int 65028 319)), (65029, (.int 65029 320)), (6150, (.int 6150 301)), (65030, (.int 65030 321)), (65031, (.int 65031 322)), (65032, (.int 65032 323)), (65033, (.int 65033 324)), (6155, (.int 6155 302)), (6156, (.int 6156 303)), (6157, (.int 6157 304)), (8203, (.int 8203 305)), (8204, (.int 8204 306)), (8205, (.int 8205 307)), (65034, (.int 65034 325)), (65035, (.int 65035 326)), (65036, (.int 65036 327)), (65037, (.int 65037 328)), (65038, (.int 65038 329)), (65039, (.int 65039 330)), (173, (.int 173 299)), (847, (.int 847 300)), (8288, (.int 8288 308)), (65279, (.int 65279 309))] 29 ⟨127, #[0, 1, 2, 3, 4, 5, 6, 7, 8, 9, 10, 11, 12, 13, 14, 15, 16, 17, 18, 19, 20, 21, 22, 45, 79, 96, 127], #[], 0, !P.followText "set-order", 2, true⟩), #[]⟩
theorem b1_at (P : Params) : (KF P).lookup 93 = some (b1obj P) := by kernel_rfl
theorem b1_hash : ∀ x ∈ b1L, hashInt x.1 = x.1 := by decide +kernel
theorem b1_set {prog : Program} {w : World} (P : Params) : (b1obj P).SetObjOf (intKind prog w) isB1 27 := by
  refine ⟨⟨rfl, rfl, rfl⟩, (b1L.map fun x => (x.1, Value.int x.1 x.2)).toArray, 29, _, rfl, ?_, ?_, rfl, rfl⟩
  · intro e he
    obtain ⟨x, hx, rfl⟩ := List.mem_map.mp he
    exact ⟨⟨x.1, intKind_is prog w x.1 x.2, (b1_hash x hx).symm⟩, rfl⟩
  · intro k
    unfold isB1
    rw [List.contains_iff_mem]
    constructor
    · intro h
      obtain ⟨x, hx, rfl⟩ := List.mem_map.mp h
      exact ⟨_, List.mem_map.mpr ⟨x, hx, rfl⟩, intKind_is prog w x.1 x.2⟩
    · rintro ⟨e, he, hk⟩
      obtain ⟨x, hx, rfl⟩ := List.mem_map.mp he
      have : k = x.1 := by
        have := Value.isInt_inj (.int x.1 x.2) k x.1 hk (intKind_is prog w x.1 x.2)
        exact this
      exact List.mem_map.mpr ⟨x, hx, this.symm⟩
theorem in_b1 {w : World} {A : Around} {E : Value → Shared → Prop} {s : Shared} {h₀ : Heap} {L : Addr} {m : Str → Option Value} {c : Int} {t : Tok} {Q : Value → Shared → Prop} (F : Fr h₀ L s.heap m) (X : (KF w.params).In h₀)
    (h : Q (.bool (isB1 c)) { s with toks := s.toks + 1 }) : wpAny (model pw w) A (compareOp .In (.int c t) (.ref 93)) Q E s :=
  wpAny_inSet_of (intKind_is pw w c t) rfl ((b1_set w.params).setOf ((X.keeps F.keep) _ _ (b1_at _)) (by decide)) h
noncomputable def b3look (c : Int) : Option Str := (b3.find? fun x => x.1 = c).map (·.2)
noncomputable def kvE : Nat → List (Int × Str) → List (Int × Value)
  | _, [] => []
  | t, x :: r => (x.1, .str x.2 (t + 1)) :: kvE (t + 3) r
noncomputable def kvS : Nat → List (Int × Str) → List (Int × Value)
  | _, [] => []
  | t, x :: r => (x.1, .str x.2 (t + 1)) :: kvS (t + 2) r
theorem kvE_find (c : Int) : ∀ (l : List (Int × Str)) (t : Nat), ∃ u, valueAt (kvE t l) c = ((l.find? fun x => x.1 = c).map (·.2)).map (fun z => Value.str z u)
  | [], _ => ⟨0, rfl⟩
  | x :: r, t => by
    by_cases h : x.1 = c
    · exact ⟨t + 1, by simp [valueAt, kvE, List.find?_cons, h]⟩
    · obtain ⟨u, hu⟩ := kvE_find c r (t + 3)
      refine ⟨u, ?_⟩
      simp only [valueAt, kvE, List.find?_cons, h, decide_false] at hu ⊢
      exact hu
theorem kvS_find (c : Int) : ∀ (l : List (Int × Str)) (t : Nat), ∃ u, valueAt (kvS t l) c = ((l.find? fun x => x.1 = c).map (·.2)).map (fun z => Value.str z u)
  | [], _ => ⟨0, rfl⟩
  | x :: r, t => by
    by_cases h : x.1 = c
    · exact ⟨t + 1, by simp [valueAt, kvS, List.find?_cons, h]⟩
    · obtain ⟨u, hu⟩ := kvS_find c r (t + 2)
      refine ⟨u, ?_⟩
      simp only [valueAt, kvS, List.find?_cons, h, decide_false] at hu ⊢
      exact hu
noncomputable def kvAll : List (Int × Value) := kvE 366 (b3.take 646) ++ kvS 2304 (b3.drop 646)
theorem kvAll_find (c : Int) : ∃ u, valueAt kvAll c = (b3look c).map (fun z => Value.str z u) := by
  obtain ⟨u, hu⟩ := kvE_find c (b3.take 646) 366
  obtain ⟨v, hv⟩ := kvS_find c (b3.drop 646) 2304
  have e : b3look c = (((b3.take 646).find? fun x => x.1 = c).map (·.2)).or (((b3.drop 646).find? fun x => x.1 = c).map (·.2)) := by
    unfold b3look
    conv => lhs; rw [← List.take_append_drop 646 b3]
    rw [List.find?_append]
    cases (b3.take 646).find? fun x => x.1 = c <;> rfl
  have f : valueAt kvAll c = (valueAt (kvE 366 (b3.take 646)) c).or (valueAt (kvS 2304 (b3.drop 646)) c) := by
    unfold kvAll valueAt
    rw [List.find?_append]
    cases (kvE 366 (b3.take 646)).find? fun kv => kv.1 = c <;> rfl
  rw [f, e, hu, hv]
  cases (((b3.take 646).find? fun x => x.1 = c).map (·.2)) with
  | some z => exact ⟨u, rfl⟩
  | none => exact ⟨v, rfl⟩
theorem kvE_pairs {prog : Program} {w : World} : ∀ (l : List (Int × Str)) (t : Nat), Pairs (intKind prog w) (ents t l) (kvE t l)
  | [], _ => .nil
  | x :: r, t => .cons (intKind_is prog w x.1 t) rfl (kvE_pairs r (t + 3))
theorem kvS_pairs {prog : Program} {w : World} : ∀ (l : List (Int × Str)) (t : Nat), Pairs (intKind prog w) (entsS t l) (kvS t l)
  | [], _ => .nil
  | x :: r, t => .cons (intKind_is prog w x.1 t) rfl (kvS_pairs r (t + 2))
theorem pairs_app {prog : Program} {w : World} {a b : List DictEntry} {x y : List (Int × Value)} (h : Pairs (intKind prog w) a x) (k : Pairs (intKind prog w) b y) : Pairs (intKind prog w) (a ++ b) (x ++ y) := by
  induction h with
  | nil => exact k
  | cons h1 h2 _ ih => exact .cons h1 h2 ih
theorem ents_keys {prog : Program} {w : World} : ∀ (l : List (Int × Str)) (t : Nat), ∀ e ∈ ents t l, ∃ k, (intKind prog w).is k e.key = true ∧ e.hash = (intKind prog w).hash k
  | [], _ => fun e h => nomatch h
  | x :: r, t => fun e h => by
    rcases List.mem_cons.mp h with rfl | h
    · exact ⟨x.1, intKind_is prog w x.1 t, rfl⟩
    · exact ents_keys r (t + 3) e h
theorem entsS_keys {prog : Program} {w : World} : ∀ (l : List (Int × Str)) (t : Nat), ∀ e ∈ entsS t l, ∃ k, (intKind prog w).is k e.key = true ∧ e.hash = (intKind prog w).hash k
  | [], _ => fun e h => nomatch h
  | x :: r, t => fun e h => by
    rcases List.mem_cons.mp h with rfl | h
    · exact ⟨x.1, intKind_is prog w x.1 t, rfl⟩
    · exact entsS_keys r (t + 2) e h
noncomputable def asc : List Int → Bool
  | x :: y :: r => decide (x < y) && asc (y :: r)
  | _ => true
theorem asc_pw : ∀ l : List Int, asc l = true → l.Pairwise (· < ·)
  | [], _ => .nil
  | [x], _ => List.pairwise_singleton _ _
  | x :: y :: r, h => by
    obtain ⟨h1, h2⟩ := Bool.and_eq_true_iff.mp h
    have p := asc_pw (y :: r) h2
    refine List.pairwise_cons.mpr ⟨fun z hz => ?_, p⟩
    have h1 := of_decide_eq_true h1
    rcases List.mem_cons.mp hz with rfl | hz
    · exact h1
    · exact Int.lt_trans h1 ((List.pairwise_cons.mp p).1 z hz)
theorem kv_asc : asc (kvAll.map (·.1)) = true := by decide +kernel
theorem kv_nodup : (kvAll.map (·.1)).Nodup := (asc_pw _ kv_asc).imp fun h => Int.ne_of_lt h
theorem b3_at (P : Params) : (KF P).lookup 104 = some (b3dict P) := by kernel_rfl
theorem b3_dict {prog : Program} {w : World} {h : Heap} (P : Params) (ho : h.get? 104 = some (b3dict P)) : h.DictOf (intKind prog w) 104 kvAll :=
  ⟨_, b3all.toArray, 650, ho, ⟨rfl, rfl, rfl⟩, rfl, fun e he => by
    rcases List.mem_append.mp (List.mem_toArray.mp he) with he | he
    · exact ents_keys _ _ e he
    · exact entsS_keys _ _ e he, pairs_app (kvE_pairs _ _) (kvS_pairs _ _), kv_nodup⟩
section
variable {w : World} {A : Around} {E : Value → Shared → Prop} {s : Shared} {h₀ : Heap} {L : Addr} {m : Str → Option Value}
theorem b3_method {pl : Sem Bool} {Q : Value × List Value → Shared → Prop} (F : Fr h₀ L s.heap m) (X : (KF w.params).In h₀) (h : Q (.builtin "dict.get", [.ref 104]) s) : wpAny (model pw w) A (getMethod (.ref 104) "get" pl) Q E s :=
  have hD := b3_dict (prog := pw) (w := w) w.params ((X.keeps F.keep) _ _ (b3_at _))
  getMethod_builtin hD.typeIs PySem.F.plainAttrs_dict PySem.F.slot_dict_get PySem.F.type_dict_get hD.mapOf.noDict h
theorem b3_get {c : Int} {t : Tok} {Q : Value → Shared → Prop} (F : Fr h₀ L s.heap m) (X : (KF w.params).In h₀) (h : ∀ u, Q (((b3look c).map (fun z => Value.str z u)).getD .none) { s with toks := s.toks + 1 }) :
    wpAny (model pw w) A (call (.builtin "dict.get") [.ref 104, .int c t]) Q E s := by
  have hD := b3_dict (prog := pw) (w := w) w.params ((X.keeps F.keep) _ _ (b3_at _))
  obtain ⟨u, hu⟩ := kvAll_find c
  exact call_meetsIn PySem.F.slot_dict_get hD.typeIs PySem.F.entry_dict_get (PySem.F.args_dict_get_2 _ _) (meets_dict_get _ 104 (intKind_is pw w c t) rfl) ⟨_, hD.mapOf, by rw [hu]; exact h u⟩
end
end
end Mine
end
section
namespace Mine
section
open PySem PySem.W PySem.Calls PyProof.Rows
set_option linter.all false
set_option maxRecDepth 100000
set_option maxHeartbeats 4000000
theorem fill5 : WalkO qv looseL (XL qv []) (InK KF) row0.toRowW dLaw [] (fun f vs => PySem.call f vs) → True := by
  k_fill
  exact fun _ => trivial
section
variable {w : World} {A : Around} {E : Value → Shared → Prop} {s : Shared} {h₀ : Heap} {L : Addr} {m : Str → Option Value}
theorem b3_get_some {c : Int} {t : Tok} {z : Str} {Q : Value → Shared → Prop} (hz : b3look c = some z) (F : Fr h₀ L s.heap m) (X : (KF w.params).In h₀) (h : ∀ u, Q (.str z u) { s with toks := s.toks + 1 }) :
    wpAny (model pw w) A (call (.builtin "dict.get") [.ref 104, .int c t]) Q E s := b3_get F X fun u => by rw [hz]; exact h u
theorem b3_get_none {c : Int} {t : Tok} {Q : Value → Shared → Prop} (hz : b3look c = none) (F : Fr h₀ L s.heap m) (X : (KF w.params).In h₀) (h : Q .none { s with toks := s.toks + 1 }) :
    wpAny (model pw w) A (call (.builtin "dict.get") [.ref 104, .int c t]) Q E s := b3_get F X fun u => by rw [hz]; exact h
end
end
section
open PySem PySem.W PySem.Calls PyProof.Rows
set_option linter.all false
set_option maxRecDepth 100000
set_option maxHeartbeats 4000000
local macro_rules | `(tactic| walk_at "compareOp In int ref") => `(tactic| (k_here; (with_reducible show wpAny _ _ (compareOp CmpOp.In (Value.int _ _) (Value.ref _)) _ _ _); k_dflt (refine' in_b1 ?F ?X ?_; (case F => assumption); (case X => assumption); k_whole)))
local macro_rules | `(tactic| walk_at "getMethod ref") => `(tactic| (k_here; (with_reducible show wpAny _ _ (getMethod (Value.ref _) (Str.ofString "get") _) _ _ _); k_dflt (refine' b3_method ?F ?X ?_; (case F => assumption); (case X => assumption); k_whole)))
local macro_rules | `(tactic| walk_at "call builtin:dict.get") => `(tactic| (k_here; (with_reducible show wpAny _ _ (PySem.call (Value.builtin "dict.get") [Value.ref _, Value.int _ _]) _ _ _); k_dflt (first | (refine' b3_get_some ?hz ?F ?X ?_; (case hz => assumption); (case F => assumption); (case X => assumption); k_whole; intro u') | (refine' b3_get_none ?hz ?F ?X ?_; (case hz => assumption); (case F => assumption); (case X => assumption); k_whole)); (try dsimp only)))
theorem b1_c {w : World} {mean : ExcName → Option Value} {mg mb : Str → Option Value} {news : List (Addr × Obj)} (c : Nat) (t : Tok) :
    FnClaim 1 w mean mg mb 103 news [.str ⟨#[c]⟩ t] (fun _ => .bool (isB1 c)) := by
  unfold FnClaim
  intros
  rename_i hret
  refine wpAny_call ?_
  k_dflt cell_enter
  k_steps
  exact hret 0 _ _ (by assumption) (by assumption)
noncomputable def foldC (c : Nat) : Str := (b3look c).getD (Txt.lower ⟨#[c]⟩)
theorem b3_some {w : World} {mean : ExcName → Option Value} {mg mb : Str → Option Value} {news : List (Addr × Obj)} (c : Nat) (t : Tok) (z : Str) (hz : b3look c = some z) :
    FnClaim 1 w mean mg mb 149 news [.str ⟨#[c]⟩ t] (fun t => .str z t) := by
  unfold FnClaim
  intros
  rename_i hret
  refine wpAny_call ?_
  k_dflt cell_enter
  k_steps
  exact hret _ _ _ (by assumption) (by assumption)
theorem b3_none {w : World} {mean : ExcName → Option Value} {mg mb : Str → Option Value} {news : List (Addr × Obj)} (c : Nat) (t : Tok) (hz : b3look c = none) :
    FnClaim 1 w mean mg mb 149 news [.str ⟨#[c]⟩ t] (fun t => .str (foldC c) t) := by
  unfold FnClaim
  intros
  rename_i hret
  refine wpAny_call ?_
  k_dflt cell_enter
  k_steps
  k_here
  refine SCL.lower (by show 1 ≤ _; decide) ?_
  intro _
  k_steps
  have e : foldC c = Txt.lower ⟨#[c]⟩ := by
    unfold foldC
    rw [hz]
    rfl
  rw [← e]
  exact hret _ _ _ (by assumption) (by assumption)
theorem b3_c {w : World} {mean : ExcName → Option Value} {mg mb : Str → Option Value} {news : List (Addr × Obj)} (c : Nat) (t : Tok) :
    FnClaim 1 w mean mg mb 149 news [.str ⟨#[c]⟩ t] (fun t => .str (foldC c) t) := by
  cases hz : b3look c with
  | none => exact b3_none c t hz
  | some z =>
    have e : foldC c = z := by
      unfold foldC
      rw [hz]
      rfl
    rw [e]
    exact b3_some c t z hz
end
end Mine
end
section
namespace Mine
section
open PySem PySem.W PySem.Calls PyProof.Rows PySem.Spec
set_option linter.all false
set_option maxRecDepth 100000
set_option maxHeartbeats 4000000
open LCg LCt
section
variable {prog : Program} {w : World} {A : Around} {E : Value → Shared → Prop} {s : Shared} {h₀ : Heap} {L : Addr} {m : Str → Option Value} {env : Env}
noncomputable def SrcS (prog : Program) (w : World) (A : Around) (h₀ : Heap) (L : Addr) (m : Str → Option Value) (env : Env) (ct elt : Expr) (x : Str) (scope : Scope) (cl : List (Str × Addr)) (Fin : Shared → List Value → List (Addr × Obj) → Prop) (xv : Value) (s₁ : Shared) : Prop :=
  ∃ y t news, xv = .str y t ∧ A.handled = none ∧ Fr h₀ L s₁.heap m ∧ News h₀ L s₁.heap news ∧ y.cps.size ≤ sizeLine ∧
    ∀ s₂ : Shared, (∃ h, s₂ = { s₁ with heap := h }) → CompRestT prog w A h₀ L m env ct elt x scope cl s₂ (fun _ => True) (SignAt y) (Fin s₂) y.cps.size 0 [] news
theorem strIter_st {ty : String} {y : Str} {t : Tok} {I : Addr} : ∀ i (h h' : Heap) (o : Obj) (nw : List (Addr × Obj)), h.IsStrIter I ty y t i → h.get? I = some o → h'.get? I = some o → (∀ b o, h₀.get? b = some o → h'.get? b = some o) → News h₀ L h' nw → True → h'.IsStrIter I ty y t i :=
  fun i h h' o nw st e e' _ _ _ => by
    obtain ⟨o', q, r⟩ := st
    rw [e] at q
    cases q
    exact ⟨o, e', r⟩
theorem ListComp_S {ct elt iter : Expr} {x : Str} {px : Pos} {scope : Scope} {cl : List (Str × Addr)} {pos : Pos} {Q : Value → Shared → Prop} (F₀ : Fr h₀ L s.heap m)
    (hclos : closureFor scope env = pure cl) (hcell : ∀ y ∈ scope.names, y.2 ≠ .cell) (hkind : scope.kind = .function)
    (hnames : ∀ y ∈ scope.names, y.2 = .local → scope.names.lookup y.1 = some .local) (hx : scope.names.lookup x = some .local)
    (h : wpAny (model prog w) A (eval iter env) (SrcS prog w A h₀ L m env ct elt x scope cl (fun s₂ => FinE h₀ L m s₂ Q)) E s)
    (hs : ∀ x, foldedSetIterable iter env x = pure x := by intro _; rfl) :
    wpAny (model prog w) A (eval (.ListComp elt [⟨.Name x px, iter, [ct], 0⟩] scope pos) env) Q E s := by
  rw [eval_ListComp]
  refine wpAny_comprehension_free (use := none) rfl hs hclos hkind hnames (wpAny_mono h (fun xv s₁ h₁ => ?_) fun _ _ e => e)
  obtain ⟨y, t, news, rfl, hh, F, N, hsz, R⟩ := h₁
  cases ha : y.cps.all (· < 128)
  · refine wpAny_pyIter_wide ha ?_
    refine block_T (Walks.strWide hh s₁.heap.objs.size y t) hsz (fun i h st => by obtain ⟨o, e, _⟩ := st; exact ⟨o, e⟩) strIter_st hcell hkind hx ⟨_, Heap.get?_push_size _ rfl, rfl, rfl⟩ (fun b hb => ?_)
      (F.keeps fun _ _ e => Heap.get?_push_of_some _ e) (N.grown fun _ _ e => Heap.get?_push_of_some _ e) (Nat.ne_of_lt F.ns.lt) (next_is_new F) (fun p hp => Nat.ne_of_lt (Heap.lt_size (N p hp).1)) trivial (R _ ⟨_, rfl⟩) ?_
    · rw [List.mem_singleton.mp hb]
      show s₁.heap.objs.size < (s₁.heap.push _).objs.size
      rw [Heap.size_push]; exact Nat.lt_succ_self _
    · intro D C h tk m' ys news' F' N' o1 hn hC₀ hD₀ hCL hDL hCD offC fin
      refine ⟨m', hn, fun h'' hs'' => fin D h'' tk (F'.change hs'' hCL hC₀) (fun p hp => ?_) o1⟩
      refine ⟨hs''.extBut _ _ ?_ (N' p hp).1, (N' p hp).2⟩
      rcases List.mem_cons.mp hp with rfl | hp
      · exact Ne.symm hCD
      · exact offC p hp
  · refine wpAny_pyIter_ascii ha ?_
    refine block_T (Walks.strAscii hh s₁.heap.objs.size y t) hsz (fun i h st => by obtain ⟨o, e, _⟩ := st; exact ⟨o, e⟩) strIter_st hcell hkind hx ⟨_, Heap.get?_push_size _ rfl, rfl, rfl⟩ (fun b hb => ?_)
      (F.keeps fun _ _ e => Heap.get?_push_of_some _ e) (N.grown fun _ _ e => Heap.get?_push_of_some _ e) (Nat.ne_of_lt F.ns.lt) (next_is_new F) (fun p hp => Nat.ne_of_lt (Heap.lt_size (N p hp).1)) trivial (R _ ⟨_, rfl⟩) ?_
    · rw [List.mem_singleton.mp hb]
      show s₁.heap.objs.size < (s₁.heap.push _).objs.size
      rw [Heap.size_push]; exact Nat.lt_succ_self _
    · intro D C h tk m' ys news' F' N' o1 hn hC₀ hD₀ hCL hDL hCD offC fin
      refine ⟨m', hn, fun h'' hs'' => fin D h'' tk (F'.change hs'' hCL hC₀) (fun p hp => ?_) o1⟩
      refine ⟨hs''.extBut _ _ ?_ (N' p hp).1, (N' p hp).2⟩
      rcases List.mem_cons.mp hp with rfl | hp
      · exact Ne.symm hCD
      · exact offC p hp
noncomputable def MElt (news : List (Addr × Obj)) (r : Str) (y : Value) (news' : List (Addr × Obj)) : Prop := news' = news ∧ ∃ t : Tok, y = .str r t
noncomputable def MNo (news news' : List (Addr × Obj)) : Prop := news' = news
/-- the turns of a comprehension over a text's signs: what p lets through, by f -/
theorem comp_signs {ct elt : Expr} {x : Str} {scope : Scope} {cl : List (Str × Addr)} {Fin : List Value → List (Addr × Obj) → Prop} {news : List (Addr × Obj)} (y : Str) (p : Nat → Bool) (f : Nat → Str)
    (turn : ∀ c t I oI C oC D m₂ ys h tk (E' : Value → Shared → Prop), NsObj oC m₂ → m₂ x = some (.str ⟨#[c]⟩ t) → Fr h₀ L h m → News h₀ L h ((I, oI) :: (C, oC) :: (D, lst ys) :: news) → Off3 I C D news → ((@Ne Nat I C) ∧ (@Ne Nat I D) ∧ (@Ne Nat C D)) →
      wpAny (model prog w) A (isTrue ct (compEnvC scope cl C env) (eval ct (compEnvC scope cl C env))) (fun ok s' => ok = p c ∧ if ok = true then
        wpAny (model prog w) A (eval elt (compEnvC scope cl C env)) (CompEnd h₀ L m { s with heap := h, toks := tk } I oI C oC D (lst ys) (fun _ => True) (fun v news' => MElt news (f c) v news')) E' s'
        else CompEnd h₀ L m { s with heap := h, toks := tk } I oI C oC D (lst ys) (fun _ => True) (fun _ news' => MNo news news') Value.none s') E' { s with heap := h, toks := tk })
    (fin : ∀ ys, StrsAre ys ((y.cps.toList.filter p).map f) → Fin ys news) : CompRestT prog w A h₀ L m env ct elt x scope cl s (fun _ => True) (SignAt y) Fin y.cps.size 0 [] news := by
  have key : ∀ (j i : Nat) (ys : List Value), i + j = y.cps.size → StrsAre ys (((y.cps.toList.take i).filter p).map f) → CompRestT prog w A h₀ L m env ct elt x scope cl s (fun _ => True) (SignAt y) Fin j i ys news := by
    intro j
    induction j with
    | zero =>
      intro i ys hi hy
      have e : i = y.cps.toList.length := by simpa using hi
      rw [e, List.take_length] at hy
      exact CompRestT.zero (fin ys hy)
    | succ j ih =>
      intro i ys hi hy
      refine CompRestT.succ ?_
      intro v I oI C oC D m₂ h tk E' hv hC hx F N off ne
      obtain ⟨c, t, hk, rfl⟩ := hv
      have hk' : y.cps.toList[i]? = some c := by rw [Array.getElem?_toList]; exact hk
      have hs : y.cps.toList.take (i + 1) = y.cps.toList.take i ++ [c] := by rw [List.take_add_one, hk']; rfl
      refine wpAny_mono (turn c t I oI C oC D m₂ ys h tk E' hC hx F N off ne) (fun b s₂ hq => ?_) fun _ _ e => e
      obtain ⟨hb, hq⟩ := hq
      cases b with
      | true =>
        simp only [if_true] at hq ⊢
        refine wpAny_mono hq (fun v s₃ hr => ?_) fun _ _ e => e
        obtain ⟨h', tk', nw, e, F', N', off', hS, hn, t', hy'⟩ := hr
        rw [hn] at N' off'
        refine ⟨h', tk', news, e, F', N', off', hS, ?_⟩
        rw [hy']
        refine ih (i + 1) _ (by omega) ?_
        rw [hs, List.filter_append, List.map_append, List.filter_cons, ← hb]
        exact kct_snoc hy
      | false =>
        simp only [Bool.false_eq_true, if_false] at hq ⊢
        obtain ⟨h', tk', nw, e, F', N', off', hS, hn⟩ := hq
        rw [show nw = news from hn] at N' off'
        refine ⟨h', tk', news, e, F', N', off', hS, ih (i + 1) _ (by omega) ?_⟩
        rw [hs, List.filter_append, List.map_append, List.filter_cons, ← hb]
        simpa using hy
  exact key y.cps.size 0 [] (by omega) .nil
end
end
end Mine
end
section
namespace Mine
section
open PySem PySem.W PySem.Calls PyProof.Rows
set_option linter.all false
set_option maxRecDepth 100000
set_option maxHeartbeats 4000000
open LCg LCt
theorem fill7 : WalkO qv looseL (XL qv []) (InK KF) row0.toRowW dLaw [] (fun f vs => PySem.call f vs) → True := by
  k_fill
  exact fun _ => trivial
end
section
open PySem PySem.W PySem.Calls PyProof.Rows
set_option linter.all false
set_option maxRecDepth 100000
set_option maxHeartbeats 4000000
open LCg LCt
local macro_rules | `(tactic| walk_at "call ref") => `(tactic| (k_here; k_dflt (first | (refine' FnClaim.use (b1_c _ _) ?B ?F ?X ?N ?T ?hk ?hd ?hu ?_; (case B => assumption); (case F => k_asm); (case X => assumption); (case N => k_asm); (case T => assumption); (case hk => first | assumption | exact rfl); (case hd => ktr_room); (case hu => ktr_units); k_whole) | (refine' FnClaim.use (b3_c _ _) ?B ?F ?X ?N ?T ?hk ?hd ?hu ?_; (case B => assumption); (case F => k_asm); (case X => assumption); (case N => k_asm); (case T => assumption); (case hk => first | assumption | exact rfl); (case hd => ktr_room); (case hu => ktr_units); k_whole)); intro t' h' tk' F' N'; (try dsimp only)))
theorem b3_short : ∀ x ∈ b3, x.2.length ≤ 4 := by
  have h : (b3.all fun x => decide (x.2.length ≤ 4)) = true := by decide +kernel
  intro x hx
  exact of_decide_eq_true (List.all_eq_true.mp h x hx)
theorem fold_short (c : Nat) : (foldC c).length ≤ 4 := by
  unfold foldC
  cases h : b3look c with
  | none =>
    have := PyProof.Rows.len_lower ⟨#[c]⟩
    show (Txt.lower ⟨#[c]⟩).length ≤ 4
    have e : (⟨#[c]⟩ : Str).length = 1 := rfl
    omega
  | some z =>
    unfold b3look at h
    obtain ⟨x, hx, rfl⟩ := Option.map_eq_some_iff.mp h
    exact b3_short x (List.mem_of_find?_eq_some hx)
theorem fold_sum : ∀ l : List Nat, ((l.map foldC).map (·.length)).sum ≤ 4 * l.length
  | [] => Nat.le_refl _
  | c :: r => by
    have := fold_sum r
    have := fold_short c
    simp only [List.map_cons, List.sum_cons, List.length_cons] at *
    omega
noncomputable def prepS (x : Str) : Str := Txt.join (Str.ofString "") ((x.cps.toList.filter fun (c : Nat) => !isB1 (c : Int)).map foldC)
theorem prep_c {w : World} {mean : ExcName → Option Value} {mg mb : Str → Option Value} {news : List (Addr × Obj)} (x : Str) (t : Tok) (hx : x.length ≤ 1000) :
    FnClaim 2 w mean mg mb 168 news [.str x t] (fun t => .str (prepS x) t) := by
  unfold FnClaim
  intros
  rename_i hret
  refine wpAny_call ?_
  k_dflt cell_enter
  iterate 8 walk1
  k_here
  refine' ListComp_S (cl := []) ?F₀ ?c1 ?c2 ?c3 ?c4 ?c5 ?h ?hs
  case F₀ => k_asm
  case c1 => rfl
  case c2 => decide
  case c3 => rfl
  case c4 => decide
  case c5 => rfl
  case hs => intro _; rfl
  walk1
  refine' ⟨x, _, news, rfl, rfl, ?F, ?N, ?z, ?k⟩
  case F => k_asm
  case N => k_asm
  case z =>
    have e : x.cps.size = x.length := rfl
    rw [e, sizeLine_eq]
    omega
  rintro s₂ ⟨g, rfl⟩
  refine' comp_signs x (fun (c : Nat) => !isB1 (c : Int)) foldC ?turn ?fin
  case turn =>
    intro c t' I oI C oC D m₂ ys h' tk' E' hC' hx' F' N' off' ne'
    k_steps
    · exact CompEnd.intro (by assumption) (by assumption) news (fun p hp => hp) off' trivial rfl
    · exact CompEnd.intro (by assumption) (by assumption) news (fun p hp => hp) off' trivial ⟨rfl, _, rfl⟩
  case fin =>
    intro ys hys
    unfold LCg.FinE
    intro D h' tk' F' N' off'
    k_steps
    k_here
    refine' join_listW (ys := (x.cps.toList.filter fun (c : Nat) => !isB1 (c : Int)).map foldC) ⟨_, (N' _ (List.mem_cons_self ..)).1, rfl, _, rfl⟩ (by simpa using hys) (by decide) ?jw ?jk
    case jw =>
      have h1 := fold_sum (x.cps.toList.filter fun (c : Nat) => !isB1 (c : Int))
      have h2 := List.length_filter_le (fun c : Nat => !isB1 c) x.cps.toList
      have h3 : x.cps.toList.length = x.length := Array.length_toList
      rw [List.length_map]
      omega
    intro t2 k2
    k_steps
    exact hret _ _ _ (by assumption) (drop1 (by assumption))
end
end Mine
end
section
namespace Mine
section
open PySem PySem.W PySem.Calls PyProof.Rows
set_option linter.all false
set_option maxRecDepth 100000
set_option maxHeartbeats 4000000
section
variable {prog : Program} {w : World} {A : Around} {E : Value → Shared → Prop} {Q : Flow → Shared → Prop} {s : Shared} {env : Env} {h₀ : Heap} {L : Addr} {news : List (Addr × Obj)}
noncomputable def brMap (m : Str → Option Value) (lo hi : Int) (tl th : Tok) (mv : Option Value) : Str → Option Value :=
  fun y => if y = Str.ofString "lo" then some (.int lo tl) else if y = Str.ofString "hi" then some (.int hi th) else if y = Str.ofString "mid" then mv else m y
noncomputable def BrStep (h₀ : Heap) (L : Addr) (news : List (Addr × Obj)) (m : Str → Option Value) (R hi0 lo hi : Int) (s : Shared) (f : Flow) (s₃ : Shared) : Prop :=
  f = .next ∧ ∃ h' tk lo' hi' tl' th' mv' m₂, s₃ = { s with heap := h', toks := tk } ∧ Fr h₀ L h' m₂ ∧ News h₀ L h' news ∧ (∀ y, m₂ y = brMap m lo' hi' tl' th' mv' y) ∧ 0 ≤ lo' ∧ lo' ≤ R ∧ R ≤ hi' ∧ hi' ≤ hi0 ∧ (hi' - lo').toNat < (hi - lo).toNat
noncomputable def BrR (_ : Int) : Prop := True
theorem br_while {test : Expr} {body : List Stmt} {pos : Pos} {m : Str → Option Value} (F : Fr h₀ L s.heap m) (N : News h₀ L s.heap news) {lo hi : Int} {tl th : Tok} (hlo : m (Str.ofString "lo") = some (.int lo tl)) (hhi : m (Str.ofString "hi") = some (.int hi th)) {R : Int} (mk : BrR R)
    (h0 : 0 ≤ lo) (h1 : lo ≤ R) (h2 : R ≤ hi)
    (turn : ∀ lo' hi' tl' th' mv' h₁ tk₁, 0 ≤ lo' → lo' ≤ R → R ≤ hi' → hi' ≤ hi → Fr h₀ L h₁ (brMap m lo' hi' tl' th' mv') → News h₀ L h₁ news →
      wpAny (model prog w) A (isTrue test env (eval test env)) (fun b s₂ =>
        if b = true then wpAny (model prog w) A (execs body env) (BrStep h₀ L news m R hi lo' hi' s) E s₂ else Q .next s₂) E { s with heap := h₁, toks := tk₁ })
    (hE : PassesOwn (model prog w) A env E := by passes_own) :
    wpAny (model prog w) A (exec (.While test body [] pos) env) Q E s := by
  have start : m = brMap m lo hi tl th (m (Str.ofString "mid")) := by
    funext y
    unfold brMap
    split
    · rename_i e; rw [e, hlo]
    · split
      · rename_i e; rw [e, hhi]
      · split
        · rename_i e; rw [e]
        · rfl
  refine While_inv (fun n m₁ news₁ => news₁ = news ∧ ∃ lo' hi' tl' th' mv', m₁ = brMap m lo' hi' tl' th' mv' ∧ 0 ≤ lo' ∧ lo' ≤ R ∧ R ≤ hi' ∧ hi' ≤ hi ∧ n = (hi' - lo').toNat) (n₀ := (hi - lo).toNat) F N
    ⟨rfl, lo, hi, tl, th, _, start, h0, h1, h2, Int.le_refl _, rfl⟩ ?_ hE
  rintro n m₁ news₁ h₁ tk₁ F₁ N₁ ⟨rfl, lo', hi', tl', th', mv', rfl, a0, a1, a2, a3, rfl⟩
  refine wpAny_mono (turn lo' hi' tl' th' mv' h₁ tk₁ a0 a1 a2 a3 F₁ N₁) (fun b s₂ hq => ?_) fun _ _ e => e
  cases b with
  | false => exact hq
  | true =>
    simp only [if_true] at hq ⊢
    refine wpAny_mono hq (fun f s₃ hr => ?_) fun _ _ e => e
    obtain ⟨rfl, h', tk, lo2, hi2, tl2, th2, mv2, m₂, rfl, F₂, N₂, hm₂, b0, b1, b2, b3, b4⟩ := hr
    exact ⟨rfl, h', tk, m₂, news₁, _, rfl, F₂, N₂, b4, rfl, lo2, hi2, tl2, th2, mv2, funext hm₂, b0, b1, b2, b3, rfl⟩
end
theorem br_map_hi (m : Str → Option Value) (lo hi x : Int) (tl th u : Tok) (mv v : Option Value) (y : Str) :
    (if y = Str.ofString "hi" then some (Value.int x u) else if y = Str.ofString "mid" then v else brMap m lo hi tl th mv y) = brMap m lo x tl u v y := by
  have d1 : Str.ofString "hi" ≠ Str.ofString "lo" := by decide
  have d2 : Str.ofString "mid" ≠ Str.ofString "lo" := by decide
  unfold brMap
  by_cases h1 : y = Str.ofString "hi"
  · subst h1; simp [d1]
  · by_cases h2 : y = Str.ofString "mid"
    · subst h2; simp [d2, h1]
    · simp [h1, h2]
theorem br_map_lo (m : Str → Option Value) (lo hi x : Int) (tl th u : Tok) (mv v : Option Value) (y : Str) :
    (if y = Str.ofString "lo" then some (Value.int x u) else if y = Str.ofString "mid" then v else brMap m lo hi tl th mv y) = brMap m x hi u th v y := by
  have d1 : Str.ofString "hi" ≠ Str.ofString "mid" := by decide
  unfold brMap
  by_cases h1 : y = Str.ofString "lo"
  · subst h1; simp
  · by_cases h2 : y = Str.ofString "mid"
    · subst h2; simp [h1, d1.symm]
    · simp [h1, h2]
theorem BrStep.intro {h₀ : Heap} {L : Addr} {news : List (Addr × Obj)} {m : Str → Option Value} {R hi0 lo hi : Int} {s : Shared} {h' : Heap} {tk : Nat} {lo' hi' : Int} {tl' th' : Tok} {mv' : Option Value} {m₂ : Str → Option Value}
    (F : Fr h₀ L h' m₂) (N : News h₀ L h' news) (hm : ∀ y, m₂ y = brMap m lo' hi' tl' th' mv' y) (b : 0 ≤ lo' ∧ lo' ≤ R ∧ R ≤ hi' ∧ hi' ≤ hi0 ∧ (hi' - lo').toNat < (hi - lo).toNat) : BrStep h₀ L news m R hi0 lo hi s .next { s with heap := h', toks := tk } :=
  ⟨rfl, h', tk, lo', hi', tl', th', mv', m₂, rfl, F, N, hm, b⟩
theorem br_mid {lo hi : Int} (h0 : 0 ≤ lo) (h : lo < hi) : lo ≤ (lo + hi).fdiv 2 ∧ (lo + hi).fdiv 2 < hi := by
  rw [Int.fdiv_eq_ediv_of_nonneg _ (by decide)]
  omega
noncomputable def SplitR (ns : List Int) (x : Int) (c : Nat) : Prop := ∀ (i : Nat) v, ns[i]? = some v → (x < v ↔ c ≤ i)
noncomputable def SplitL (ns : List Int) (x : Int) (c : Nat) : Prop := ∀ (i : Nat) v, ns[i]? = some v → (v < x ↔ i < c)
theorem get_d {ns : List Int} {i : Int} (h0 : 0 ≤ i) (h1 : i < (ns.length : Int)) : ns[i.toNat]? = some (ns.getD i.toNat 0) := by
  rw [List.getD_eq_getElem?_getD, List.getElem?_eq_getElem (by omega)]
  rfl
theorem splitR_hi {ns : List Int} {x : Int} {c : Nat} (hs : SplitR ns x c) {i : Int} (h0 : 0 ≤ i) (h1 : i < (ns.length : Int)) (h : x < ns.getD i.toNat 0) : (c : Int) ≤ i := by
  have := (hs _ _ (get_d h0 h1)).mp h
  omega
theorem splitR_lo {ns : List Int} {x : Int} {c : Nat} (hs : SplitR ns x c) {i : Int} (h0 : 0 ≤ i) (h1 : i < (ns.length : Int)) (h : ¬ x < ns.getD i.toNat 0) : i + 1 ≤ (c : Int) := by
  have : ¬ c ≤ i.toNat := fun q => h ((hs _ _ (get_d h0 h1)).mpr q)
  omega
theorem splitL_lo {ns : List Int} {x : Int} {c : Nat} (hs : SplitL ns x c) {i : Int} (h0 : 0 ≤ i) (h1 : i < (ns.length : Int)) (h : ns.getD i.toNat 0 < x) : i + 1 ≤ (c : Int) := by
  have := (hs _ _ (get_d h0 h1)).mp h
  omega
theorem splitL_hi {ns : List Int} {x : Int} {c : Nat} (hs : SplitL ns x c) {i : Int} (h0 : 0 ≤ i) (h1 : i < (ns.length : Int)) (h : ¬ ns.getD i.toNat 0 < x) : (c : Int) ≤ i := by
  have : ¬ i.toNat < c := fun q => h ((hs _ _ (get_d h0 h1)).mpr q)
  omega
section
variable {ns : List Int} {x : Int} {c : Nat} {lo hi : Int}
theorem brR_hi (h : x < ns.getD ((lo + hi).fdiv 2).toNat 0) (hs : SplitR ns x c) (h0 : 0 ≤ lo) (hl : lo < hi) (hh : hi ≤ (ns.length : Int)) : (c : Int) ≤ (lo + hi).fdiv 2 ∧ lo ≤ (lo + hi).fdiv 2 ∧ (lo + hi).fdiv 2 < hi := by
  have b := br_mid h0 hl
  exact ⟨splitR_hi hs (by omega) (by omega) h, b⟩
theorem brR_lo (h : ¬ x < ns.getD ((lo + hi).fdiv 2).toNat 0) (hs : SplitR ns x c) (h0 : 0 ≤ lo) (hl : lo < hi) (hh : hi ≤ (ns.length : Int)) : (lo + hi).fdiv 2 + 1 ≤ (c : Int) ∧ lo ≤ (lo + hi).fdiv 2 ∧ (lo + hi).fdiv 2 < hi := by
  have b := br_mid h0 hl
  exact ⟨splitR_lo hs (by omega) (by omega) h, b⟩
theorem brL_hi (h : ¬ ns.getD ((lo + hi).fdiv 2).toNat 0 < x) (hs : SplitL ns x c) (h0 : 0 ≤ lo) (hl : lo < hi) (hh : hi ≤ (ns.length : Int)) : (c : Int) ≤ (lo + hi).fdiv 2 ∧ lo ≤ (lo + hi).fdiv 2 ∧ (lo + hi).fdiv 2 < hi := by
  have b := br_mid h0 hl
  exact ⟨splitL_hi hs (by omega) (by omega) h, b⟩
theorem brL_lo (h : ns.getD ((lo + hi).fdiv 2).toNat 0 < x) (hs : SplitL ns x c) (h0 : 0 ≤ lo) (hl : lo < hi) (hh : hi ≤ (ns.length : Int)) : (lo + hi).fdiv 2 + 1 ≤ (c : Int) ∧ lo ≤ (lo + hi).fdiv 2 ∧ (lo + hi).fdiv 2 < hi := by
  have b := br_mid h0 hl
  exact ⟨splitL_lo hs (by omega) (by omega) h, b⟩
end
section
variable {prog : Program} {w : World} {A : Around} {E : Value → Shared → Prop} {s : Shared} {Q : Value → Shared → Prop} {h₀ : Heap} {L : Addr} {news : List (Addr × Obj)} {m : Str → Option Value}
theorem listL {h : Heap} {r : Addr} {vs : List Value} {n : Nat} (N : News h₀ L h news) (hm : (r, listOf vs.toArray n) ∈ news) : h.IsList r vs.toArray := ⟨_, (N _ hm).1, rfl, n, rfl⟩
theorem item_i {value slice : PySem.Expr} {l : Addr} {vs : List Value} {ns : List Int} {n : Nat} {i : Int} {u : Tok} (hm : (l, listOf vs.toArray n) ∈ news) (hi : IntsAre vs ns) (N : News h₀ L s.heap news) (h0 : 0 ≤ i) (h1 : i < (ns.length : Int)) (hf : ns.length ≤ 1000)
    (h : ∀ v t', ns[i.toNat]? = some v → Q (.int v t') s)
    (hs : subscripted slice false (.ref l) (.int i u) = operate [.ref l, .int i u] (getItem (.ref l) (.int i u)) := by with_unfolding_all rfl) :
    wpAny (model prog w) A (subscriptTail value slice (.ref l) (.int i u)) Q E s := by
  have hlt : i.toNat < ns.length := by omega
  obtain ⟨t', e⟩ := hi.get i.toNat ns[i.toNat] (List.getElem?_eq_getElem hlt)
  have hl := listL N hm
  exact tail_any hl.typeIs slot_list_getitem.lookup (wpAny_getItem_list hl h0 (by omega) (x := .int _ t') (by simpa using e) (h _ t' (List.getElem?_eq_getElem hlt))) hs
theorem len_l {l : Addr} {vs : List Value} {ns : List Int} {n : Nat} (hm : (l, listOf vs.toArray n) ∈ news) (hi : IntsAre vs ns) (N : News h₀ L s.heap news) (hf : ns.length ≤ 1000)
    (h : Q (.int (ns.length : Nat) (s.toks + 1)) { s with toks := s.toks + 1 + 1 }) : wpAny (model prog w) A (call (.builtin "len") [.ref l]) Q E s :=
  KM.len_K N hm (by rw [List.size_toArray, hi.length]) (by omega) h
end
theorem fill8 : WalkO qv looseL (XL qv []) (InK KF) row0.toRowW dLaw [] (fun f vs => PySem.call f vs) → True := by
  k_fill
  exact fun _ => trivial
end
section
open PySem PySem.W PySem.Calls PyProof.Rows
local macro_rules | `(tactic| cell_enter) => `(tactic| (refine' code_def ?k1 ?k2 ?k3 ?k4 ?k5 ?kA ?kF ?kK ?k6 ?k7 ?k8 ?k9 ?kB ?_ ?c2 ?c3 ?c4 ?c5; (case kA => exact rfl); (case kF => exact rfl); (case kK => assumption); (case k1 => k_asm); (case k2 => k_asm); (case k3 => k_asm); (case k4 => k_asm); (case k5 => k_asm); (case k6 => k_is); (case k7 => k_is); (case k8 => ktr_room); (case k9 => (refine' kp_binds ?kx ?ke; (case kx => k_in); (case ke => exact fun _ => rfl))); (case c5 => decide); (case kB => exact locs rfl); (case c2 => exact rfl); (case c3 => exact rfl); (case c4 => exact rfl); k_whole; intro g' L' h' FG' F' N' B' X' T'; (try dsimp only); (try k_lift B'); (try k_fold)))
section
open PySem PySem.W PySem.Calls PyProof.Rows
local macro_rules | `(tactic| walk_at "call builtin:len") => `(tactic| (k_here; (with_reducible show wpAny _ _ (PySem.call (Value.builtin "len") [Value.ref _]) _ _ _); k_dflt (refine' len_l ?hm ?hi ?N ?hf ?_; (case hm => assumption); (case hi => assumption); (case N => assumption); (case hf => assumption); k_whole)))
local macro_rules | `(tactic| walk_at "subscriptTail Name Name ref int") => `(tactic| (k_here; (with_reducible show wpAny _ _ (subscriptTail _ _ (Value.ref _) (Value.int _ _)) _ _ _); k_dflt (refine' item_i ?hm ?hi ?N ?h0 ?h1 ?hf ?_ ?hs; (case hm => assumption); (case hi => assumption); (case N => assumption); (case hf => assumption); (case h0 => omega); (case h1 => omega); (case hs => with_unfolding_all rfl); k_whole); intro v' tv' hv'))
local macro_rules | `(tactic| walk_at "exec While Compare cons nil") => `(tactic| (k_here; k_dflt (refine' br_while ?F ?N ?hlo ?hhi ?mk ?h0 ?h1 ?h2 ?turn; (case mk => assumption); (case F => k_asm); (case N => k_asm); (case hlo => exact rfl); (case hhi => exact rfl); (case h0 => omega); (case h1 => omega); (case h2 => omega)); intro lo' hi' tl' th' mv' h' tk' a0' a1' a2' a3' F' N'; (dsimp only [brMap] at F')))
section
open PySem PySem.W PySem.Calls PyProof.Rows
set_option linter.all false
set_option maxRecDepth 100000
set_option maxHeartbeats 4000000
theorem br_2 {w : World} {mean : ExcName → Option Value} {mg mb : Str → Option Value} {news : List (Addr × Obj)} (r : Addr) (vs : List Value) (ns : List Int) (n : Nat) (x : Int) (t : Tok) (hm : (r, listOf vs.toArray n) ∈ news) (hi : IntsAre vs ns) (hlen : ns.length ≤ 1000) (c : Nat) (hc : c ≤ ns.length) (hs : SplitR ns x c) :
    FnClaim 1 w mean mg mb 32 news [.ref r, .int x t] (fun t => .int c t) := by
  unfold FnClaim
  intros
  rename_i hret
  refine wpAny_call ?_
  k_dflt cell_enter
  have mk : BrR (c : Int) := trivial
  k_steps
  · rename (x < ns.getD _ _) => hx
    have bb := brR_hi hx hs (by assumption) (by assumption) (by omega)
    exact BrStep.intro (by assumption) (by assumption) (br_map_hi _ _ _ _ _ _ _ _ _) (by omega)
  · rename (¬ x < ns.getD _ _) => hx
    have bb := brR_lo hx hs (by assumption) (by assumption) (by omega)
    exact BrStep.intro (by assumption) (by assumption) (br_map_lo _ _ _ _ _ _ _ _ _) (by omega)
  · exact cb_retI hret (by omega) (by assumption) (by assumption)
end
section
open PySem PySem.W PySem.Calls PyProof.Rows
set_option linter.all false
set_option maxRecDepth 100000
set_option maxHeartbeats 4000000
local macro_rules | `(tactic| walk_at "no such step 0") => `(tactic| fail)
theorem fill9 : WalkO qv looseL (XL qv []) (InK KF) row0.toRowW dLaw [] (fun f vs => PySem.call f vs) → True := by
  k_fill
  exact fun _ => trivial
theorem br_4 {w : World} {mean : ExcName → Option Value} {mg mb : Str → Option Value} {news : List (Addr × Obj)} (r : Addr) (vs : List Value) (ns : List Int) (n : Nat) (x : Int) (t t0 th : Tok) (high : Int) (hm : (r, listOf vs.toArray n) ∈ news) (hi : IntsAre vs ns) (hlen : ns.length ≤ 1000) (c : Nat) (h0 : 0 ≤ high) (h1 : high ≤ (ns.length : Int)) (hs : SplitR ns x c) :
    FnClaim 1 w mean mg mb 32 news [.ref r, .int x t, .int 0 t0, .int high th] (fun t => .int (min (c : Int) high) t) := by
  unfold FnClaim
  intros
  rename_i hret
  refine wpAny_call ?_
  k_dflt cell_enter
  have mk : BrR (min (c : Int) high) := trivial
  k_steps
  · rename (x < ns.getD _ _) => hx
    have bb := brR_hi hx hs (by assumption) (by assumption) (by omega)
    exact BrStep.intro (by assumption) (by assumption) (br_map_hi _ _ _ _ _ _ _ _ _) (by omega)
  · rename (¬ x < ns.getD _ _) => hx
    have bb := brR_lo hx hs (by assumption) (by assumption) (by omega)
    exact BrStep.intro (by assumption) (by assumption) (br_map_lo _ _ _ _ _ _ _ _ _) (by omega)
  · exact cb_retI hret (by omega) (by assumption) (by assumption)
theorem br_n {w : World} {mean : ExcName → Option Value} {mg mb : Str → Option Value} {news : List (Addr × Obj)} (r : Addr) (vs : List Value) (ns : List Int) (n : Nat) (x : Int) (t t0 : Tok) (hm : (r, listOf vs.toArray n) ∈ news) (hi : IntsAre vs ns) (hlen : ns.length ≤ 1000) (c : Nat) (hc : c ≤ ns.length) (hs : SplitR ns x c) :
    FnClaim 1 w mean mg mb 32 news [.ref r, .int x t, .int 0 t0, .none] (fun t => .int c t) := by
  unfold FnClaim
  intros
  rename_i hret
  refine wpAny_call ?_
  k_dflt cell_enter
  have mk : BrR (c : Int) := trivial
  k_steps
  · rename (x < ns.getD _ _) => hx
    have bb := brR_hi hx hs (by assumption) (by assumption) (by omega)
    exact BrStep.intro (by assumption) (by assumption) (br_map_hi _ _ _ _ _ _ _ _ _) (by omega)
  · rename (¬ x < ns.getD _ _) => hx
    have bb := brR_lo hx hs (by assumption) (by assumption) (by omega)
    exact BrStep.intro (by assumption) (by assumption) (br_map_lo _ _ _ _ _ _ _ _ _) (by omega)
  · exact cb_retI hret (by omega) (by assumption) (by assumption)
theorem bl_4 {w : World} {mean : ExcName → Option Value} {mg mb : Str → Option Value} {news : List (Addr × Obj)} (r : Addr) (vs : List Value) (ns : List Int) (n : Nat) (x : Int) (t t0 th : Tok) (high : Int) (hm : (r, listOf vs.toArray n) ∈ news) (hi : IntsAre vs ns) (hlen : ns.length ≤ 1000) (c : Nat) (h0 : 0 ≤ high) (h1 : high ≤ (ns.length : Int)) (hs : SplitL ns x c) :
    FnClaim 1 w mean mg mb 41 news [.ref r, .int x t, .int 0 t0, .int high th] (fun t => .int (min (c : Int) high) t) := by
  unfold FnClaim
  intros
  rename_i hret
  refine wpAny_call ?_
  k_dflt cell_enter
  have mk : BrR (min (c : Int) high) := trivial
  k_steps
  · rename (ns.getD _ _ < x) => hx
    have bb := brL_lo hx hs (by assumption) (by assumption) (by omega)
    exact BrStep.intro (by assumption) (by assumption) (br_map_lo _ _ _ _ _ _ _ _ _) (by omega)
  · rename (¬ ns.getD _ _ < x) => hx
    have bb := brL_hi hx hs (by assumption) (by assumption) (by omega)
    exact BrStep.intro (by assumption) (by assumption) (br_map_hi _ _ _ _ _ _ _ _ _) (by omega)
  · exact cb_retI hret (by omega) (by assumption) (by assumption)
end
end
section
open PySem PySem.W PySem.Calls PyProof.Rows
set_option linter.all false
set_option maxRecDepth 100000
set_option maxHeartbeats 4000000
/-- a contract of a def that turns the ledger from news to news' -/
noncomputable def FnClaimU (n : Nat) (w : World) (mean : ExcName → Option Value) (mg mb : Str → Option Value) (f : Addr) (news news' : List (Addr × Obj)) (vs : List Value) (R : Tok → Value) : Prop :=
  ∀ (pp : Program) (ll : List Str) (dp un : Nat) (gd : Option (List Code)) (cn : Str) (cs : Scope) (a : Addr) (ccd : Value) (cl : List (Str × Addr)) (outer : List Env) (A₀ : Around) (base h₀ : Heap) (L : Addr) (m : Str → Option Value) (s : Shared) (Q E : Value → Shared → Prop),
    Below A₀ base outer h₀ → Fr h₀ L s.heap m → (KF w.params).In h₀ → News h₀ L s.heap news → Top pp ll mean mg mb h₀ → cs.kind = .function →
    dp + 4 * n < recursionLimit → un + 30 * n < cLine →
    (∀ (t : Tok) (h' : Heap) (tk' : Nat), Fr h₀ L h' m → News h₀ L h' news' → Q (R t) { s with heap := h', toks := tk' }) →
      wpAny (model pw w) (ktrTop dp un gd cn cs L a ccd cl outer) (call (.ref f) vs) Q E s
theorem upd_mem {r : Addr} {o o' : Obj} {news news' : List (Addr × Obj)} (U : Upd r o o' news news') : (r, o) ∈ news := by
  obtain ⟨pre, post, rfl, rfl, a, c⟩ := U.split
  exact List.mem_append.mpr (.inr (.head _))
end
section
open PySem PySem.W PySem.Calls PyProof.Rows
set_option linter.all false
set_option maxRecDepth 100000
set_option maxHeartbeats 4000000
local macro_rules | `(tactic| walk_at "call ref") => `(tactic| (k_here; k_dflt (refine' FnClaim.use (br_n _ _ _ _ _ _ _ ?hm ?hi ?hl _ ?hc ?hs) ?B ?F ?X ?N ?T ?hk ?hd ?hu ?_; (case B => assumption); (case F => k_asm); (case X => assumption); (case N => k_asm); (case T => assumption); (case hm => assumption); (case hi => assumption); (case hl => with_reducible assumption); (case hs => assumption); (case hc => with_reducible assumption); (case hk => first | exact rfl | with_reducible assumption); (case hd => ktr_room); (case hu => ktr_units); k_whole); intro t' h' tk' F' N'; (try dsimp only)))
local macro_rules | `(tactic| walk_at "getMethod ref") => `(tactic| (k_here; (with_reducible show wpAny _ _ (getMethod (Value.ref _) (PySem.Str.ofString "insert") _) _ _ _); k_dflt (refine' kl_method ?N ?m PySem.F.slot_list_insert PySem.F.type_list_insert ?_; (case N => k_asm); (case m => assumption))))
local macro_rules | `(tactic| walk_at "call builtin:list.insert") => `(tactic| (k_here; (with_reducible show wpAny _ _ (PySem.call (Value.builtin _) [Value.ref _, Value.int _ _, _]) _ _ _); k_dflt (refine' kl_insert ?F ?N ?f ?e ?U ?z ?_; (case F => k_asm); (case N => k_asm); (case U => assumption); (case f => assumption); (case e => exact rfl); (case z => (simp only [Array.length_toList, List.size_toArray, sizeLine_eq, IntsAre.length (by assumption)]; omega))); intro h' F' N'))
theorem fill10 : WalkO qv looseL (XL qv []) (InK KF) row0.toRowW dLaw [] (fun f vs => PySem.call f vs) → True := by
  k_fill
  exact fun _ => trivial
theorem ins_c {w : World} {mean : ExcName → Option Value} {mg mb : Str → Option Value} {news news' : List (Addr × Obj)} (r : Addr) (vs : List Value) (ns : List Int) (n : Nat) (x : Int) (t : Tok) (hi : IntsAre vs ns) (hlen : ns.length ≤ 1000) (c : Nat) (hc : c ≤ ns.length) (hs : SplitR ns x c)
    (U : Upd r (listOf vs.toArray n) (listOf (kl_ins vs c (.int x t)).toArray (n + 1)) news news') :
    FnClaimU 2 w mean mg mb 23 news news' [.ref r, .int x t] (fun _ => .none) := by
  unfold FnClaimU
  intros
  rename_i hret
  have hm := upd_mem U
  refine wpAny_call ?_
  k_dflt cell_enter
  have hf : Builtin.List.listFitsIndex (c : Int) = true := by
    simp [Builtin.List.listFitsIndex]
    omega
  k_steps
  exact hret 0 _ _ (by assumption) (by assumption)
end
section
open PySem PySem.W PySem.Calls PyProof.Rows
set_option linter.all false
set_option maxRecDepth 100000
set_option maxHeartbeats 4000000
noncomputable def FnClaimK (n : Nat) (w : World) (mean : ExcName → Option Value) (mg mb : Str → Option Value) (f : Addr) (news news' : List (Addr × Obj)) (vs : List Value) (kw : List (Str × Value)) (R : Tok → Value) : Prop :=
  ∀ (pp : Program) (ll : List Str) (dp un : Nat) (gd : Option (List Code)) (cn : Str) (cs : Scope) (a : Addr) (ccd : Value) (cl : List (Str × Addr)) (outer : List Env) (A₀ : Around) (base h₀ : Heap) (L : Addr) (m : Str → Option Value) (s : Shared) (Q E : Value → Shared → Prop),
    Below A₀ base outer h₀ → Fr h₀ L s.heap m → (KF w.params).In h₀ → News h₀ L s.heap news → Top pp ll mean mg mb h₀ → cs.kind = .function →
    dp + 4 * n < recursionLimit → un + 30 * n < cLine →
    (∀ (t : Tok) (h' : Heap) (tk' : Nat), Fr h₀ L h' m → News h₀ L h' news' → Q (R t) { s with heap := h', toks := tk' }) →
      wpAny (model pw w) (ktrTop dp un gd cn cs L a ccd cl outer) (call (.ref f) vs kw) Q E s
theorem FnClaimK.use {n : Nat} {w : World} {mean : ExcName → Option Value} {mg mb : Str → Option Value} {f : Addr} {news news' : List (Addr × Obj)} {vs : List Value} {kw : List (Str × Value)} {R : Tok → Value}
    {pp : Program} {ll : List Str} {dp un : Nat} {gd : Option (List Code)} {cn : Str} {cs : Scope} {a : Addr} {ccd : Value} {cl : List (Str × Addr)} {outer : List Env} {A₀ : Around} {base h₀ : Heap} {L : Addr} {m : Str → Option Value} {s : Shared} {Q E : Value → Shared → Prop}
    (C : FnClaimK n w mean mg mb f news news' vs kw R) (B : Below A₀ base outer h₀) (F : Fr h₀ L s.heap m) (X : (KF w.params).In h₀) (N : News h₀ L s.heap news) (T : Top pp ll mean mg mb h₀) (hk : cs.kind = .function)
    (hd : dp + 4 * n < recursionLimit) (hu : un + 30 * n < cLine)
    (hret : ∀ (t : Tok) (h' : Heap) (tk' : Nat), Fr h₀ L h' m → News h₀ L h' news' → Q (R t) { s with heap := h', toks := tk' }) :
    wpAny (model pw w) (ktrTop dp un gd cn cs L a ccd cl outer) (call (.ref f) vs kw) Q E s :=
  C _ _ _ _ _ _ _ _ _ _ _ _ _ _ _ _ _ _ _ B F X N T hk hd hu hret
noncomputable abbrev tup2 (x : Str) (tx : Tok) (k : Int) (tk : Tok) : Obj := ⟨.type "tuple", none, .seq #[.str x tx, .int k tk] 0, #[]⟩
noncomputable def KeyFn (w : World) (mean : ExcName → Option Value) (mg mb : Str → Option Value) (f : Addr) (news : List (Addr × Obj)) : Prop :=
  ∀ (a : Addr) (x : Str) (tx : Tok) (k : Int) (tk : Tok), (a, tup2 x tx k tk) ∈ news → FnClaim 1 w mean mg mb f news [.ref a] (fun _ => .int k tk)
noncomputable def FnIn (f : Addr) (news : List (Addr × Obj)) : Prop := ∃ oc od fd sl, (f, (⟨oc, od, .func fd, sl⟩ : Obj)) ∈ news
theorem fnAt {f : Addr} {news : List (Addr × Obj)} {h₀ h : Heap} {L : Addr} (q : FnIn f news) (N : News h₀ L h news) : FnAt f h := by
  obtain ⟨oc, od, fd, sl, hm⟩ := q
  exact FnAt.of N hm
structure PairsAre (news : List (Addr × Obj)) (vs : List Value) (ns : List Int) : Prop where
  length : vs.length = ns.length
  get : ∀ (i : Nat) k, ns[i]? = some k → ∃ a x tx tk, vs[i]? = some (.ref a) ∧ (a, tup2 x tx k tk) ∈ news
section
variable {prog : Program} {w : World} {A : Around} {E : Value → Shared → Prop} {s : Shared} {Q : Value → Shared → Prop} {h₀ : Heap} {L : Addr} {news : List (Addr × Obj)} {m : Str → Option Value}
theorem item_p {value slice : PySem.Expr} {l : Addr} {vs : List Value} {ns : List Int} {n : Nat} {i : Int} {u : Tok} (hm : (l, listOf vs.toArray n) ∈ news) (hi : PairsAre news vs ns) (N : News h₀ L s.heap news) (h0 : 0 ≤ i) (h1 : i < (ns.length : Int)) (hf : ns.length ≤ 1000)
    (h : ∀ a x tx tk, (a, tup2 x tx (ns.getD i.toNat 0) tk) ∈ news → Q (.ref a) s)
    (hs : subscripted slice false (.ref l) (.int i u) = operate [.ref l, .int i u] (getItem (.ref l) (.int i u)) := by with_unfolding_all rfl) :
    wpAny (model prog w) A (subscriptTail value slice (.ref l) (.int i u)) Q E s := by
  obtain ⟨a, x, tx, tk, e, hmem⟩ := hi.get _ _ (get_d h0 h1)
  have hl := listL N hm
  exact tail_any hl.typeIs slot_list_getitem.lookup (wpAny_getItem_list hl h0 (by omega) (x := .ref a) (by simpa using e) (h a x tx tk hmem)) hs
theorem len_p {l : Addr} {vs : List Value} {ns : List Int} {n : Nat} (hm : (l, listOf vs.toArray n) ∈ news) (hi : PairsAre news vs ns) (N : News h₀ L s.heap news) (hf : ns.length ≤ 1000)
    (h : Q (.int (ns.length : Nat) (s.toks + 1)) { s with toks := s.toks + 1 + 1 }) : wpAny (model prog w) A (call (.builtin "len") [.ref l]) Q E s :=
  KM.len_K N hm (by rw [List.size_toArray, hi.length]) (by omega) h
end
end
section
open PySem PySem.W PySem.Calls PyProof.Rows
local macro_rules | `(tactic| walk_at "call ref") => `(tactic| (k_here; (with_reducible rename KeyFn _ _ _ _ _ _ => hK); k_dflt (refine' FnClaim.use (hK _ _ _ _ _ ?hm) ?B ?F ?X ?N ?T ?hk ?hd ?hu ?_; (case hm => assumption); (case B => assumption); (case F => k_asm); (case X => assumption); (case N => k_asm); (case T => assumption); (case hk => first | exact rfl | with_reducible assumption); (case hd => ktr_room); (case hu => ktr_units); k_whole); intro t' h' tk' F' N'; (try dsimp only)))
local macro_rules | `(tactic| walk_at "callWith ref") => `(tactic| (k_here; (with_reducible rename FnIn _ _ => hFn); k_dflt (refine' callWith_F ?k1 ?_; (case k1 => exact fnAt hFn (by assumption)); k_whole)))
local macro_rules | `(tactic| walk_at "FnAt") => `(tactic| (k_dflt (exact fnAt (by with_reducible assumption) (by assumption))))
section
open PySem PySem.W PySem.Calls PyProof.Rows
set_option linter.all false
set_option maxRecDepth 100000
set_option maxHeartbeats 4000000
local macro_rules | `(tactic| walk_at "call builtin:len") => `(tactic| (k_here; (with_reducible show wpAny _ _ (PySem.call (Value.builtin "len") [Value.ref _]) _ _ _); k_dflt (refine' len_p ?hm ?hi ?N ?hf ?_; (case hm => assumption); (case hi => assumption); (case N => assumption); (case hf => with_reducible assumption); k_whole)))
local macro_rules | `(tactic| walk_at "exec While Compare cons nil") => `(tactic| (k_here; k_dflt (refine' br_while ?F ?N ?hlo ?hhi ?mk ?h0 ?h1 ?h2 ?turn; (case mk => assumption); (case F => k_asm); (case N => k_asm); (case hlo => exact rfl); (case hhi => exact rfl); (case h0 => omega); (case h1 => omega); (case h2 => omega)); intro lo' hi' tl' th' mv' h' tk' a0' a1' a2' a3' F' N'; (dsimp only [brMap] at F')))
local macro_rules | `(tactic| walk_at "subscriptTail") => `(tactic| (k_here; (with_reducible show wpAny _ _ (subscriptTail _ _ (Value.ref _) (Value.int _ _)) _ _ _); k_dflt (refine' item_p ?hm ?hi ?N ?h0 ?h1 ?hf ?_ ?hs; (case hm => assumption); (case hi => assumption); (case N => assumption); (case hf => with_reducible assumption); (case h0 => (rw [Int.fdiv_eq_ediv_of_nonneg _ (by decide)]; omega)); (case h1 => (rw [Int.fdiv_eq_ediv_of_nonneg _ (by decide)]; omega)); (case hs => with_unfolding_all rfl); k_whole); intro a' x' tx' tk' hv'))
theorem fill11 : WalkO qv looseL (XL qv []) (InK KF) row0.toRowW dLaw [] (fun f vs => PySem.call f vs) → True := by
  k_fill
  exact fun _ => trivial
theorem br_k {w : World} {mean : ExcName → Option Value} {mg mb : Str → Option Value} {news : List (Addr × Obj)} (r f : Addr) (vs : List Value) (ns : List Int) (n : Nat) (x : Int) (t t0 : Tok) (hm : (r, listOf vs.toArray n) ∈ news) (hi : PairsAre news vs ns) (hlen : ns.length ≤ 1000) (c : Nat) (hc : c ≤ ns.length) (hs : SplitR ns x c) (hK : KeyFn w mean mg mb f news) (hF : FnIn f news) :
    FnClaimK 2 w mean mg mb 32 news news [.ref r, .int x t, .int 0 t0, .none] [(Str.ofString "key", .ref f)] (fun t => .int c t) := by
  unfold FnClaimK
  intros
  rename_i hret
  refine wpAny_call ?_
  k_dflt cell_enter
  have mk : BrR (c : Int) := trivial
  k_steps
  · rename (x < ns.getD _ _) => hx
    have bb := brR_hi hx hs (by assumption) (by assumption) (by omega)
    exact BrStep.intro (by assumption) (by assumption) (br_map_hi _ _ _ _ _ _ _ _ _) (by omega)
  · rename (¬ x < ns.getD _ _) => hx
    have bb := brR_lo hx hs (by assumption) (by assumption) (by omega)
    exact BrStep.intro (by assumption) (by assumption) (br_map_lo _ _ _ _ _ _ _ _ _) (by omega)
  · exact cb_retI hret (by omega) (by assumption) (by assumption)
end
section
open PySem PySem.W PySem.Calls PyProof.Rows
set_option linter.all false
set_option maxRecDepth 100000
set_option maxHeartbeats 4000000
local macro_rules | `(tactic| walk_at "getMethod ref") => `(tactic| (k_here; (with_reducible show wpAny _ _ (getMethod (Value.ref _) (PySem.Str.ofString "insert") _) _ _ _); k_dflt (refine' kl_method ?N ?m PySem.F.slot_list_insert PySem.F.type_list_insert ?_; (case N => k_asm); (case m => assumption))))
local macro_rules | `(tactic| walk_at "call builtin:list.insert") => `(tactic| (k_here; (with_reducible show wpAny _ _ (PySem.call (Value.builtin _) [Value.ref _, Value.int _ _, _]) _ _ _); k_dflt (refine' kl_insert ?F ?N ?f ?e ?U ?z ?_; (case F => k_asm); (case N => k_asm); (case U => assumption); (case f => assumption); (case e => exact rfl); (case z => (simp only [Array.length_toList, List.size_toArray, sizeLine_eq, PairsAre.length (by assumption)]; omega))); intro h' F' N'))
local macro_rules | `(tactic| walk_at "call ref") => `(tactic| (k_here; (with_reducible rename KeyFn _ _ _ _ _ _ => hK); (with_reducible rename FnIn _ _ => hFn); k_dflt (refine' FnClaimK.use (br_k _ _ _ _ _ _ _ _ ?hm ?hi ?hl _ ?hc ?hs hK hFn) ?B ?F ?X ?N ?T ?hk ?hd ?hu ?_; (case hm => assumption); (case hi => assumption); (case hl => with_reducible assumption); (case hs => assumption); (case hc => with_reducible assumption); (case B => assumption); (case F => k_asm); (case X => assumption); (case N => k_asm); (case T => assumption); (case hk => first | exact rfl | with_reducible assumption); (case hd => ktr_room); (case hu => ktr_units); k_whole); intro t' h' tk' F' N'; (try dsimp only)))
local macro_rules | `(tactic| walk_at "no such step 0") => `(tactic| fail)
theorem fill12 : WalkO qv looseL (XL qv []) (InK KF) row0.toRowW dLaw [] (fun f vs => PySem.call f vs) → True := by
  k_fill
  exact fun _ => trivial
theorem ins_k {w : World} {mean : ExcName → Option Value} {mg mb : Str → Option Value} {news news' : List (Addr × Obj)} (r f d : Addr) (vs : List Value) (ns : List Int) (n : Nat) (y : Str) (ty : Tok) (x : Int) (t : Tok) (hi : PairsAre news vs ns) (hlen : ns.length ≤ 1000) (c : Nat) (hc : c ≤ ns.length) (hs : SplitR ns x c) (hK : KeyFn w mean mg mb f news) (hF : FnIn f news) (hd : (d, tup2 y ty x t) ∈ news)
    (U : Upd r (listOf vs.toArray n) (listOf (kl_ins vs c (.ref d)).toArray (n + 1)) news news') :
    FnClaimK 3 w mean mg mb 23 news news' [.ref r, .ref d] [(Str.ofString "key", .ref f)] (fun _ => .none) := by
  unfold FnClaimK
  intros
  rename_i hret
  have hm := upd_mem U
  refine wpAny_call ?_
  k_dflt cell_enter
  have hf : Builtin.List.listFitsIndex (c : Int) = true := by
    simp [Builtin.List.listFitsIndex]
    omega
  k_steps
  exact hret 0 _ _ (by assumption) (by assumption)
end
end
end
end Mine
end
section
namespace Mine
section
open PySem PySem.W PyProof.Rows PySem.Builtin PySem.Builtin.Str PySem.StrLaws
set_option linter.all false
theorem occ_fold (x : Str) (c limit : Nat) : ∀ (l : List Nat) (st : Array Nat × Nat), l.Pairwise (· < ·) → (∀ i ∈ l, st.2 ≤ i) →
    (forIn l st (occBody x ⟨#[c]⟩ x.length limit)).run.fst.toList = st.1.toList ++ (l.filter fun i => x.cps.toList[i]? == some c).take (limit - st.1.size)
  | [], st, _, _ => by simp
  | a :: l, st, hp, hf => by
    rw [List.forIn_cons]
    unfold occBody
    have ha : st.2 ≤ a := hf a (List.mem_cons_self ..)
    obtain ⟨hp1, hp2⟩ := List.pairwise_cons.mp hp
    have one := subAt_one x c a
    by_cases hc : x.cps.toList[a]? = some c
    · have h2 := one.mpr hc
      have hb : (x.cps.toList[a]? == some c) = true := by rw [hc]; exact beq_self_eq_true _
      rw [List.filter_cons_of_pos (p := fun i => x.cps.toList[i]? == some c) hb]
      by_cases hs : st.1.size < limit
      · rw [if_pos ⟨⟨⟨hs, ha⟩, h2.1⟩, h2.2⟩]
        have ih := occ_fold x c limit l (st.1.push a, a + (⟨#[c]⟩ : Str).length) hp2 (fun i hi => hp1 i hi)
        have e : limit - st.1.size = (limit - (st.1.push a).size) + 1 := by
          rw [Array.size_push]
          omega
        rw [e, List.take_succ_cons]
        refine ih.trans ?_
        simp
      · rw [if_neg fun h => hs h.1.1.1]
        have ih := occ_fold x c limit l st hp2 (fun i hi => hf i (List.mem_cons_of_mem _ hi))
        have e : limit - st.1.size = 0 := by omega
        rw [e] at ih ⊢
        exact ih.trans (by simp)
    · have hb : ¬ (x.cps.toList[a]? == some c) = true := fun h => hc (by simpa using h)
      rw [List.filter_cons_of_neg (p := fun i => x.cps.toList[i]? == some c) hb, if_neg fun h => hc (one.mp ⟨h.1.2, h.2⟩)]
      exact occ_fold x c limit l st hp2 (fun i hi => hf i (List.mem_cons_of_mem _ hi))
theorem occ_one (x : Str) (c lo limit : Nat) : occurrences x ⟨#[c]⟩ lo x.length limit = ((List.range' lo (x.length + 1 - lo)).filter fun i => x.cps.toList[i]? == some c).take limit := by
  rw [occ_eq, occ_fold x c limit _ _ (List.pairwise_lt_range' ..) (fun i hi => by have := List.mem_range'_1.mp hi; exact this.1)]
  simp
theorem occ_first {x : Str} {c lo j : Nat} (h : x.cps.toList[j]? = some c) (hlo : lo ≤ j) (hn : ∀ i, lo ≤ i → i < j → x.cps.toList[i]? ≠ some c) : occurrences x ⟨#[c]⟩ lo x.length 1 = [j] := by
  have hj : j < x.length := by
    have := (List.getElem?_eq_some_iff.mp h).1
    simpa [Str.length] using this
  rw [occ_one]
  have e : List.range' lo (x.length + 1 - lo) = List.range' lo (j - lo) ++ j :: List.range' (j + 1) (x.length - j) := by
    have e1 : x.length + 1 - lo = (j - lo) + ((x.length - j) + 1) := by omega
    rw [e1, ← List.range'_append_1, List.range'_succ]
    have e2 : lo + (j - lo) = j := by omega
    rw [e2]
  have f : (List.range' lo (j - lo)).filter (fun i => x.cps.toList[i]? == some c) = [] := by
    rw [List.filter_eq_nil_iff]
    intro i hi
    have := List.mem_range'_1.mp hi
    have := hn i (by omega) (by omega)
    simpa using this
  rw [e, List.filter_append, f, List.nil_append, List.filter_cons_of_pos (by rw [h]; exact beq_self_eq_true _)]
  rfl
theorem find_first {x : Str} {c j : Nat} (h : x.cps.toList[j]? = some c) (hn : ∀ i, i < j → x.cps.toList[i]? ≠ some c) : Txt.find x ⟨#[c]⟩ = j := by
  unfold Txt.find
  rw [occ_first h (Nat.zero_le _) (fun i _ hi => hn i hi)]
theorem find3_first {x : Str} {c lo j : Nat} (h : x.cps.toList[j]? = some c) (hlo : lo ≤ j) (hn : ∀ i, lo ≤ i → i < j → x.cps.toList[i]? ≠ some c) : Txt.find3 x ⟨#[c]⟩ (lo : Int) = j := by
  have hj : j < x.length := by
    have := (List.getElem?_eq_some_iff.mp h).1
    simpa [Str.length] using this
  have e : fromIndex x.length (lo : Int) = lo := by
    unfold fromIndex
    split
    · omega
    · omega
  unfold Txt.find3
  rw [e, occ_first h hlo hn]
end
end Mine
end
section
namespace Mine
section
open PySem PySem.W PyProof.Rows PySem.Builtin PySem.Builtin.Str PySem.StrLaws
set_option linter.all false
noncomputable def preL : List Nat := [50, 50, 57, 32, 111, 107, 41, 32, 40]
noncomputable def postL : List Nat := [41, 32, 40, 115, 115, 115, 57, 115, 41]
/-- a reply of code 229 with I between its brackets -/
noncomputable def repL (I : List Nat) : Str := ⟨(preL ++ I ++ postL).toArray⟩
theorem of40 : Str.ofString "(" = ⟨#[40]⟩ := by decide
theorem of41 : Str.ofString ")" = ⟨#[41]⟩ := by decide
theorem rep_find (I : List Nat) : Txt.find (repL I) (Str.ofString "(") = 8 := by
  rw [of40]
  have h : (repL I).cps.toList[8]? = some 40 := rfl
  refine (find_first (j := 8) h fun i hi => ?_ : _ = ((8 : Nat) : Int))
  have hi : i < 8 := hi
  have e : (repL I).cps.toList[i]? = preL[i]? := by
    show (preL ++ I ++ postL)[i]? = _
    rw [List.append_assoc, List.getElem?_append_left (by show i < 9; omega)]
  rw [e]
  have : ∀ i : Fin 8, preL[i.1]? ≠ some 40 := by decide
  exact this ⟨i, hi⟩
theorem rep_find3 (I : List Nat) (h41 : 41 ∉ I) : Txt.find3 (repL I) (Str.ofString ")") (Txt.find (repL I) (Str.ofString "(") + 1) = 9 + (I.length : Nat) := by
  rw [rep_find, of41]
  have h : (repL I).cps.toList[9 + I.length]? = some 41 := by
    show (preL ++ I ++ postL)[9 + I.length]? = _
    rw [List.getElem?_append_right (by rw [List.length_append]; show 9 + I.length ≤ _; omega), List.length_append]
    show postL[9 + I.length - (9 + I.length)]? = _
    rw [Nat.sub_self]
    rfl
  have q := find3_first (lo := 9) h (by omega) fun i hi hj => ?_
  · have e : (8 : Int) + 1 = ((9 : Nat) : Int) := rfl
    rw [e, q]
    simp
  · have e : (repL I).cps.toList[i]? = I[i - 9]? := by
      show (preL ++ I ++ postL)[i]? = _
      rw [List.getElem?_append_left (by rw [List.length_append]; show i < 9 + I.length; omega), List.getElem?_append_right (by show 9 ≤ i; omega)]
      rfl
    rw [e]
    intro q
    exact h41 (List.mem_of_getElem? q)
theorem rep_len (I : List Nat) : (repL I).length = 18 + I.length := by
  show (preL ++ I ++ postL).toArray.size = _
  rw [List.size_toArray, List.length_append, List.length_append]
  show 9 + I.length + 9 = _
  omega
theorem slice_nat (x : Str) {a b : Nat} (hab : a ≤ b) (hb : b ≤ x.length) : Txt.slice x (some (a : Int)) (some (b : Int)) = ⟨((x.cps.toList.drop a).take (b - a)).toArray⟩ := sliceText_nat x hab hb
theorem slice_none (x : Str) (u : Option Int) : Txt.slice x none u = Txt.slice x (some 0) u := by
  unfold Txt.slice
  rw [sliceIdx_none_lo]
theorem rep_229 (I : List Nat) : (Txt.slice (repL I) none (some 3) != Str.ofString "229") = false := by
  have e : Txt.slice (repL I) none (some 3) = Str.ofString "229" := by
    rw [slice_none]
    have q := slice_nat (repL I) (a := 0) (b := 3) (by decide) (by rw [rep_len]; omega)
    refine q.trans ?_
    show (⟨(((preL ++ I ++ postL).drop 0).take 3).toArray⟩ : Str) = _
    have o : Str.ofString "229" = ⟨#[50, 50, 57]⟩ := by decide
    rw [o]
    rfl
  rw [e]
  exact bne_self_eq_false _
theorem rep_in (I : List Nat) (h41 : 41 ∉ I) : Txt.slice (repL I) (some (Txt.find (repL I) (Str.ofString "(") + 1)) (some (Txt.find3 (repL I) (Str.ofString ")") (Txt.find (repL I) (Str.ofString "(") + 1))) = ⟨I.toArray⟩ := by
  rw [rep_find3 I h41, rep_find]
  have q := slice_nat (repL I) (a := 9) (b := 9 + I.length) (by omega) (by rw [rep_len]; omega)
  have e1 : (8 : Int) + 1 = ((9 : Nat) : Int) := rfl
  have e2 : (9 : Int) + (I.length : Nat) = ((9 + I.length : Nat) : Int) := by omega
  rw [e1, e2, q]
  have e3 : 9 + I.length - 9 = I.length := by omega
  rw [e3]
  show (⟨(((preL ++ I ++ postL).drop 9).take I.length).toArray⟩ : Str) = _
  have e4 : (preL ++ I ++ postL).drop 9 = I ++ postL := by
    rw [List.append_assoc]
    rfl
  rw [e4, List.take_append_of_le_length (Nat.le_refl _), List.take_length]
theorem item_nat {x : Str} {i c : Nat} (h : x.cps.toList[i]? = some c) : Txt.item x (i : Int) = ⟨#[c]⟩ := by
  have hi : i < x.length := by
    have := (List.getElem?_eq_some_iff.mp h).1
    simpa [Str.length] using this
  unfold Txt.item
  have e : Txt.charAt x (i : Int) = some c := by
    unfold Txt.charAt
    rw [seqIndex_of (Int.natCast_nonneg i) (by omega)]
    simpa using h
  rw [e]
  rfl
theorem rep_at (I : List Nat) {j c : Nat} (h : I[j]? = some c) : (repL I).cps.toList[9 + j]? = some c := by
  have hj := (List.getElem?_eq_some_iff.mp h).1
  show (preL ++ I ++ postL)[9 + j]? = _
  rw [List.getElem?_append_left (by rw [List.length_append]; show 9 + j < 9 + I.length; omega), List.getElem?_append_right (by show 9 ≤ 9 + j; omega)]
  show I[9 + j - 9]? = _
  rw [Nat.add_sub_cancel_left]
  exact h
theorem rep_first (I : List Nat) {c : Nat} (h : I[0]? = some c) : Txt.item (repL I) (Txt.find (repL I) (Str.ofString "(") + 1) = ⟨#[c]⟩ := by
  rw [rep_find]
  exact item_nat (i := 9) (rep_at I h)
theorem rep_last (I : List Nat) (h41 : 41 ∉ I) {c : Nat} (h : I[I.length - 1]? = some c) : Txt.item (repL I) (Txt.find3 (repL I) (Str.ofString ")") (Txt.find (repL I) (Str.ofString "(") + 1) - 1) = ⟨#[c]⟩ := by
  have hj := (List.getElem?_eq_some_iff.mp h).1
  rw [rep_find3 I h41]
  have e : (9 : Int) + (I.length : Nat) - 1 = ((9 + (I.length - 1) : Nat) : Int) := by omega
  rw [e]
  exact item_nat (rep_at I h)
end
end Mine
end
section
namespace Mine
section
open PySem PySem.W PyProof.Rows PySem.Builtin PySem.Builtin.Str PySem.StrLaws
set_option linter.all false
noncomputable def joinL (c : Nat) : List (List Nat) → List Nat
  | [] => []
  | [x] => x
  | x :: y :: r => x ++ c :: joinL c (y :: r)
theorem cut_unique {c : Nat} : ∀ {x y u v : List Nat}, c ∉ x → c ∉ y → x ++ c :: u = y ++ c :: v → x = y ∧ u = v
  | [], [], u, v, _, _, h => ⟨rfl, by simpa using h⟩
  | [], b :: y, u, v, _, hy, h => by
    have : c = b := by simpa using (List.cons.inj h).1
    exact absurd (this ▸ List.mem_cons_self ..) hy
  | a :: x, [], u, v, hx, _, h => by
    have : a = c := by simpa using (List.cons.inj h).1
    exact absurd (this ▸ List.mem_cons_self ..) hx
  | a :: x, b :: y, u, v, hx, hy, h => by
    obtain ⟨h1, h2⟩ := List.cons.inj h
    have := cut_unique (fun q => hx (List.mem_cons_of_mem _ q)) (fun q => hy (List.mem_cons_of_mem _ q)) h2
    exact ⟨by rw [h1, this.1], this.2⟩
theorem join_free {c : Nat} : ∀ {x : List Nat} {y z : List Nat} {r : List (List Nat)}, c ∉ x → x ≠ y ++ c :: z
  | x, y, z, r, hx, h => hx (h ▸ List.mem_append.mpr (.inr (List.mem_cons_self ..)))
theorem sep_unique {c : Nat} : ∀ (P Q : List (List Nat)), P ≠ [] → Q ≠ [] → (∀ p ∈ P, c ∉ p) → (∀ q ∈ Q, c ∉ q) → joinL c P = joinL c Q → P = Q
  | [], _, h, _, _, _, _ => absurd rfl h
  | _, [], _, h, _, _, _ => absurd rfl h
  | [x], [y], _, _, _, _, h => by
    have : x = y := h
    rw [this]
  | [x], y :: z :: r, _, _, hP, _, h => absurd h (fun q => hP x (List.mem_cons_self ..) ((show x = y ++ c :: joinL c (z :: r) from q) ▸ List.mem_append.mpr (.inr (List.mem_cons_self ..))))
  | x :: y :: r, [z], _, _, _, hQ, h => absurd h (fun q => hQ z (List.mem_cons_self ..) ((show z = x ++ c :: joinL c (y :: r) from q.symm) ▸ List.mem_append.mpr (.inr (List.mem_cons_self ..))))
  | x :: y :: r, u :: v :: t, _, _, hP, hQ, h => by
    have k := cut_unique (hP x (List.mem_cons_self ..)) (hQ u (List.mem_cons_self ..)) (show x ++ c :: joinL c (y :: r) = u ++ c :: joinL c (v :: t) from h)
    have ih := sep_unique (y :: r) (v :: t) (by simp) (by simp) (fun p hp => hP p (List.mem_cons_of_mem _ hp)) (fun p hp => hQ p (List.mem_cons_of_mem _ hp)) k.2
    rw [k.1, ih]
theorem join_list_of (c : Nat) : ∀ zs : List Str, (Str.join ⟨#[c]⟩ zs).cps.toList = joinL c (zs.map (·.cps.toList))
  | [] => rfl
  | [x] => rfl
  | x :: y :: r => by
    have ih := join_list_of c (y :: r)
    show (x ++ ⟨#[c]⟩ ++ Str.join ⟨#[c]⟩ (y :: r)).cps.toList = x.cps.toList ++ c :: joinL c ((y :: r).map (·.cps.toList))
    rw [Str.cps_append, Str.cps_append, Array.toList_append, Array.toList_append, ih]
    simp
theorem split_parts {c : Nat} {P : List (List Nat)} (hP : P ≠ []) (hf : ∀ p ∈ P, c ∉ p) : Txt.split ⟨(joinL c P).toArray⟩ ⟨#[c]⟩ = P.map fun l => (⟨l.toArray⟩ : Str) := by
  have hj := join_split ⟨(joinL c P).toArray⟩ ⟨#[c]⟩
  have hq := join_list_of c (Txt.split ⟨(joinL c P).toArray⟩ ⟨#[c]⟩)
  rw [hj] at hq
  have hne : Txt.split ⟨(joinL c P).toArray⟩ ⟨#[c]⟩ ≠ [] := fun e => by
    have := split_pos ⟨(joinL c P).toArray⟩ ⟨#[c]⟩
    rw [e] at this
    exact absurd this (by decide)
  have hs := split_free ⟨(joinL c P).toArray⟩ c
  have u := sep_unique ((Txt.split ⟨(joinL c P).toArray⟩ ⟨#[c]⟩).map (·.cps.toList)) P (by simpa using hne) hP (fun p hp => by
    obtain ⟨z, hz, rfl⟩ := List.mem_map.mp hp
    exact hs z hz) hf hq.symm
  refine Eq.trans ?_ (congrArg (List.map fun l => (⟨l.toArray⟩ : Str)) u)
  rw [List.map_map]
  generalize Txt.split ⟨(joinL c P).toArray⟩ ⟨#[c]⟩ = Z
  have e : ((fun l : List Nat => (⟨l.toArray⟩ : Str)) ∘ fun x : Str => x.cps.toList) = _root_.id := by
    funext z
    show (⟨z.cps.toList.toArray⟩ : Str) = z
    rw [Array.toArray_toList]
  rw [e, List.map_id]
end
end Mine
end
section
namespace Mine
section
open PySem PySem.W PyProof.Rows PySem.Builtin PySem.Builtin.Str PySem.StrLaws
set_option linter.all false
set_option maxRecDepth 100000
noncomputable def prepL (l : List Nat) : List Nat := (l.filter fun (c : Nat) => !isB1 (c : Int)).flatMap fun c => (foldC c).cps.toList
theorem prepL_append (a b : List Nat) : prepL (a ++ b) = prepL a ++ prepL b := by
  unfold prepL
  rw [List.filter_append, List.flatMap_append]
theorem join_empty : ∀ zs : List Str, (Str.join (Str.ofString "") zs).cps.toList = zs.flatMap (·.cps.toList)
  | [] => rfl
  | [x] => by simp [Str.join]
  | x :: y :: r => by
    have ih := join_empty (y :: r)
    have e0 : (Str.ofString "").cps.toList = [] := by decide
    show (x ++ Str.ofString "" ++ Str.join (Str.ofString "") (y :: r)).cps.toList = _
    rw [Str.cps_append, Str.cps_append, Array.toList_append, Array.toList_append, ih, e0, List.append_nil, List.flatMap_cons, List.flatMap_cons, List.flatMap_cons]
theorem prepS_list (x : Str) : (prepS x).cps.toList = prepL x.cps.toList := by
  unfold prepS prepL
  have e : ∀ zs, Txt.join (Str.ofString "") zs = Str.join (Str.ofString "") zs := fun zs => PySem.StrLaws.glued_eq_join _ _
  rw [e, join_empty, List.flatMap_map]
theorem prep_pre : prepL preL = preL := by decide +kernel
theorem prep_post : prepL postL = postL := by decide +kernel
theorem prep_rep (I : List Nat) : prepS (repL I) = repL (prepL I) := by
  have h := prepS_list (repL I)
  have e : (repL I).cps.toList = preL ++ I ++ postL := rfl
  rw [e, prepL_append, prepL_append, prep_pre, prep_post] at h
  apply Str.ext'
  apply Array.toList_inj.mp
  exact h
theorem prep_great : ∀ d : Fin 13, prepL [(119826 + 52 * d.1)] = [115] := by decide +kernel
theorem prep_sign : ∀ k : Fin 27, prepL [(unseenI (k.1 : Int)).toNat] = [] := by decide +kernel
theorem prep_digit : ∀ i : Fin 10, prepL [48 + i.1] = [48 + i.1] := by decide +kernel
theorem prep_marks : prepL [223] = [115, 115] ∧ prepL [383] = [115] ∧ prepL [64262] = [115, 116] ∧ prepL [83] = [115] ∧ prepL [115] = [115] := by decide +kernel
end
end Mine
end
section
namespace Mine
section
open PySem PySem.W PyProof.Rows PySem.Builtin PySem.Builtin.Str PySem.StrLaws
set_option linter.all false
set_option maxRecDepth 100000
theorem joinL_each (g : Nat) : ∀ l : List Nat, l ≠ [] → joinL g (l.map fun c => [c]) ++ [g] = l.flatMap fun c => [c, g]
  | [], h => absurd rfl h
  | [x], _ => rfl
  | x :: y :: r, _ => by
    have ih := joinL_each g (y :: r) (by simp)
    show [x] ++ g :: joinL g ((y :: r).map fun c => [c]) ++ [g] = [x, g] ++ (y :: r).flatMap fun c => [c, g]
    rw [← ih]
    simp
theorem signs_list (T : Str) : (signs T).map (·.cps.toList) = T.cps.toList.map fun c => [c] := by
  unfold signs
  simp
theorem fig_list (g : Nat) (T : Str) (hT : T.cps.toList ≠ []) : (Txt.join ⟨#[g]⟩ (signs T) ++ (⟨#[g]⟩ : Str)).cps.toList = T.cps.toList.flatMap fun c => [c, g] := by
  have e : Txt.join ⟨#[g]⟩ (signs T) = Str.join ⟨#[g]⟩ (signs T) := PySem.StrLaws.glued_eq_join _ _
  rw [Str.cps_append, Array.toList_append, e, join_list_of, signs_list]
  exact joinL_each g _ hT
theorem prep_fig {g : Nat} (hg : prepL [g] = []) : ∀ l : List Nat, (∀ c ∈ l, prepL [c] = [c]) → prepL (l.flatMap fun c => [c, g]) = l
  | [], _ => rfl
  | x :: r, h => by
    rw [List.flatMap_cons, prepL_append, prep_fig hg r fun c hc => h c (List.mem_cons_of_mem _ hc)]
    have e : prepL [x, g] = prepL [x] ++ prepL [g] := prepL_append [x] [g]
    rw [e, hg, h x (List.mem_cons_self ..)]
    rfl
noncomputable def figT (z p : Int) : Str := Txt.mul (Str.ofString "0") z ++ Str.ofString (toString p)
noncomputable def figOk (z p : Int) : Bool := (PySem.intText? (figT z p) == some p) && decide ((figT z p).length ≤ 640) && !(figT z p).cps.toList.isEmpty && (figT z p).cps.toList.all fun c => decide (48 ≤ c) && decide (c ≤ 57)
theorem fig_all : ∀ (z : Fin 3) (p : Fin 18), figOk (z.1 : Int) (p.1 : Int) = true := by decide +kernel
theorem reply_rep {p d : Int} (h : ¬ d.fmod 7 = 6) : replyS p d = repL (insideS p d).cps.toList := by
  rw [← replyS_5 h]
  apply Str.ext'
  apply Array.toList_inj.mp
  have e1 : (Str.ofString "229").cps.toList = [50, 50, 57] := by decide
  have e2 : (Str.ofString " ok) (").cps.toList = [32, 111, 107, 41, 32, 40] := by decide
  have e3 : (Str.ofString ") (sss9s)").cps.toList = postL := by decide
  show _ = preL ++ (insideS p d).cps.toList ++ postL
  rw [Str.cps_append, Str.cps_append, Str.cps_append, Array.toList_append, Array.toList_append, Array.toList_append, e1, e2, e3]
  rfl
end
end Mine
end
section
namespace Mine
section
open PySem PySem.W PyProof.Rows PySem.Builtin PySem.Builtin.Str PySem.StrLaws
set_option linter.all false
set_option maxRecDepth 100000
noncomputable def gC (d : Int) : Nat := (119826 + 52 * ((d.fdiv 567).fmod 13)).toNat
noncomputable def sC (d : Int) : Nat := (unseenI ((d.fdiv 7).fmod 27)).toNat
noncomputable def fL (p d : Int) : List Nat := (figS p d).cps.toList
theorem inside0 {p d : Int} (h : d.fmod 7 = 0) : (insideS p d).cps.toList = [gC d, 55, 383, gC d] ++ fL p d ++ [83] := by
  unfold insideS
  rw [h]
  show (greatS d ++ Str.ofString "7" ++ chS 383 ++ greatS d ++ figS p d ++ Str.ofString "S").cps.toList = _
  have e1 : (Str.ofString "7").cps.toList = [55] := by decide
  have e2 : (Str.ofString "S").cps.toList = [83] := by decide
  simp only [Str.cps_append, Array.toList_append, e1, e2]
  rfl
theorem inside1 {p d : Int} (h : d.fmod 7 = 1) : (insideS p d).cps.toList = [223, 57, gC d] ++ fL p d ++ [115] := by
  unfold insideS
  rw [h]
  show (chS 223 ++ Str.ofString "9" ++ greatS d ++ figS p d ++ Str.ofString "s").cps.toList = _
  have e0 : (Str.ofString "9").cps.toList = [57] := by decide
  have e1 : (Str.ofString "s").cps.toList = [115] := by decide
  simp only [Str.cps_append, Array.toList_append, e0, e1]
  rfl
theorem inside2 {p d : Int} (h : d.fmod 7 = 2) : (insideS p d).cps.toList = [64262, 383, gC d] ++ fL p d ++ [115] := by
  unfold insideS
  rw [h]
  show (chS 64262 ++ chS 383 ++ greatS d ++ figS p d ++ Str.ofString "s").cps.toList = _
  have e0 : (Str.ofString "s").cps.toList = [115] := by decide
  simp only [Str.cps_append, Array.toList_append, e0]
  rfl
theorem inside3 {p d : Int} (h : d.fmod 7 = 3) : (insideS p d).cps.toList = [gC d, 52, 223] ++ fL p d ++ [115] := by
  unfold insideS
  rw [h]
  show (greatS d ++ Str.ofString "4" ++ chS 223 ++ figS p d ++ Str.ofString "s").cps.toList = _
  have e0 : (Str.ofString "4").cps.toList = [52] := by decide
  have e1 : (Str.ofString "s").cps.toList = [115] := by decide
  simp only [Str.cps_append, Array.toList_append, e0, e1]
  rfl
theorem inside4e {p d : Int} (h : d.fmod 7 = 4) (g : (d.fdiv 7).fmod 2 = 0) : (insideS p d).cps.toList = [gC d, gC d, gC d] ++ fL p d ++ [223] := by
  unfold insideS
  rw [h]
  rw [g]
  show (greatS d ++ greatS d ++ greatS d ++ figS p d ++ chS 223).cps.toList = _
  simp only [Str.cps_append, Array.toList_append]
  rfl
theorem inside4o {p d : Int} (h : d.fmod 7 = 4) (g : (d.fdiv 7).fmod 2 = 1) : (insideS p d).cps.toList = [gC d, gC d] ++ fL p d ++ [115] := by
  unfold insideS
  rw [h]
  rw [g]
  show (greatS d ++ greatS d ++ figS p d ++ Str.ofString "s").cps.toList = _
  have e0 : (Str.ofString "s").cps.toList = [115] := by decide
  simp only [Str.cps_append, Array.toList_append, e0]
  rfl
theorem inside5 {p d : Int} (h : d.fmod 7 = 5) : (insideS p d).cps.toList = [gC d, gC d, gC d] ++ fL p d ++ [64262] := by
  unfold insideS
  rw [h]
  show (greatS d ++ greatS d ++ greatS d ++ figS p d ++ chS 64262).cps.toList = _
  simp only [Str.cps_append, Array.toList_append]
  rfl
theorem inside6 {p d : Int} (h : d.fmod 7 = 6) : (insideS p d).cps.toList = [gC d, gC d, gC d] ++ fL p d ++ [115] := by
  unfold insideS
  rw [h]
  show (greatS d ++ greatS d ++ greatS d ++ figS p d ++ Str.ofString "s").cps.toList = _
  have e0 : (Str.ofString "s").cps.toList = [115] := by decide
  simp only [Str.cps_append, Array.toList_append, e0]
  rfl
end
end Mine
end
section
namespace Mine
section
open PySem PySem.W PyProof.Rows PySem.Builtin PySem.Builtin.Str PySem.StrLaws
set_option linter.all false
set_option maxRecDepth 100000
theorem prep_g (d : Int) : prepL [gC d] = [115] := by
  have h0 : 0 ≤ (d.fdiv 567).fmod 13 := Int.fmod_nonneg_of_pos _ (by decide)
  have h1 : (d.fdiv 567).fmod 13 < 13 := Int.fmod_lt_of_pos _ (by decide)
  have e : gC d = 119826 + 52 * ((d.fdiv 567).fmod 13).toNat := by
    unfold gC
    omega
  rw [e]
  exact prep_great ⟨((d.fdiv 567).fmod 13).toNat, by omega⟩
theorem prep_s (d : Int) : prepL [sC d] = [] := by
  have h0 : 0 ≤ (d.fdiv 7).fmod 27 := Int.fmod_nonneg_of_pos _ (by decide)
  have h1 : (d.fdiv 7).fmod 27 < 27 := Int.fmod_lt_of_pos _ (by decide)
  have q := prep_sign ⟨((d.fdiv 7).fmod 27).toNat, by omega⟩
  have e : ((((d.fdiv 7).fmod 27).toNat : Nat) : Int) = (d.fdiv 7).fmod 27 := by omega
  unfold sC
  rw [← e]
  exact q
noncomputable def figD (p d : Int) : List Nat := (figT ((d.fdiv 189).fmod 3) p).cps.toList
theorem fig_ok (p d : Int) (h0 : 0 ≤ p) (h1 : p < 18) : figOk ((d.fdiv 189).fmod 3) p = true := by
  have z0 : 0 ≤ (d.fdiv 189).fmod 3 := Int.fmod_nonneg_of_pos _ (by decide)
  have z1 : (d.fdiv 189).fmod 3 < 3 := Int.fmod_lt_of_pos _ (by decide)
  have q := fig_all ⟨((d.fdiv 189).fmod 3).toNat, by omega⟩ ⟨p.toNat, by omega⟩
  have e1 : ((((d.fdiv 189).fmod 3).toNat : Nat) : Int) = (d.fdiv 189).fmod 3 := by omega
  have e2 : ((p.toNat : Nat) : Int) = p := by omega
  rw [← e1, ← e2]
  exact q
theorem fig_facts (p d : Int) (h0 : 0 ≤ p) (h1 : p < 18) : PySem.intText? (figT ((d.fdiv 189).fmod 3) p) = some p ∧ (figT ((d.fdiv 189).fmod 3) p).length ≤ 640 ∧ figD p d ≠ [] ∧ ∀ c ∈ figD p d, 48 ≤ c ∧ c ≤ 57 := by
  have q := fig_ok p d h0 h1
  unfold figOk at q
  simp only [Bool.and_eq_true, beq_iff_eq, decide_eq_true_eq, List.all_eq_true, Bool.not_eq_true', List.isEmpty_eq_false_iff] at q
  exact ⟨q.1.1.1, q.1.1.2, q.1.2, q.2⟩
theorem fL_eq (p d : Int) (h0 : 0 ≤ p) (h1 : p < 18) : fL p d = (figD p d).flatMap fun c => [c, sC d] :=
  fig_list (sC d) _ (fig_facts p d h0 h1).2.2.1
theorem prep_fL (p d : Int) (h0 : 0 ≤ p) (h1 : p < 18) : prepL (fL p d) = figD p d := by
  rw [fL_eq p d h0 h1]
  refine prep_fig (prep_s d) _ fun c hc => ?_
  have q := (fig_facts p d h0 h1).2.2.2 c hc
  have r := prep_digit ⟨c - 48, by omega⟩
  have e : 48 + (c - 48) = c := by omega
  simp only [e] at r
  exact r
theorem prep_cons (c : Nat) (l : List Nat) : prepL (c :: l) = prepL [c] ++ prepL l := prepL_append [c] l
theorem prep_lit : prepL [55] = [55] ∧ prepL [57] = [57] ∧ prepL [52] = [52] := by decide +kernel
theorem prep_nil : prepL [] = [] := rfl
section
variable {p d : Int} (h0 : 0 ≤ p) (h1 : p < 18)
include h0 h1
theorem prep_in0 (h : d.fmod 7 = 0) : prepL (insideS p d).cps.toList = joinL 115 [[], [55], [], figD p d, []] := by
  rw [inside0 h, prepL_append, prepL_append, prep_fL p d h0 h1, prep_cons, prep_cons 55, prep_cons 383, prep_g, prep_marks.2.1, prep_lit.1, prep_marks.2.2.2.1]
  simp [joinL]
theorem prep_in1 (h : d.fmod 7 = 1) : prepL (insideS p d).cps.toList = joinL 115 [[], [], [57], figD p d, []] := by
  rw [inside1 h, prepL_append, prepL_append, prep_fL p d h0 h1, prep_cons, prep_cons 57, prep_g, prep_marks.1, prep_lit.2.1, prep_marks.2.2.2.2]
  simp [joinL]
theorem prep_in3 (h : d.fmod 7 = 3) : prepL (insideS p d).cps.toList = joinL 115 [[], [52], [], figD p d, []] := by
  rw [inside3 h, prepL_append, prepL_append, prep_fL p d h0 h1, prep_cons, prep_cons 52, prep_g, prep_marks.1, prep_lit.2.2, prep_marks.2.2.2.2]
  simp [joinL]
theorem prep_in2 (h : d.fmod 7 = 2) : prepL (insideS p d).cps.toList = joinL 115 [[], [116], [], figD p d, []] := by
  rw [inside2 h, prepL_append, prepL_append, prep_fL p d h0 h1, prep_cons, prep_cons 383, prep_g, prep_marks.2.1, prep_marks.2.2.1, prep_marks.2.2.2.2]
  simp [joinL]
theorem prep_in4e (h : d.fmod 7 = 4) (g : (d.fdiv 7).fmod 2 = 0) : prepL (insideS p d).cps.toList = joinL 115 [[], [], [], figD p d, [], []] := by
  rw [inside4e h g, prepL_append, prepL_append, prep_fL p d h0 h1, prep_cons, prep_cons (gC d) [gC d], prep_g, prep_marks.1]
  simp [joinL]
theorem prep_in4o (h : d.fmod 7 = 4) (g : (d.fdiv 7).fmod 2 = 1) : prepL (insideS p d).cps.toList = joinL 115 [[], [], figD p d, []] := by
  rw [inside4o h g, prepL_append, prepL_append, prep_fL p d h0 h1, prep_cons, prep_g, prep_marks.2.2.2.2]
  simp [joinL]
theorem prep_in5 (h : d.fmod 7 = 5) : prepL (insideS p d).cps.toList = [115, 115, 115] ++ figD p d ++ [115, 116] := by
  rw [inside5 h, prepL_append, prepL_append, prep_fL p d h0 h1, prep_cons, prep_cons (gC d) [gC d], prep_g, prep_marks.2.2.1]
  rfl
end
end
end Mine
end
section
namespace Mine
section
open PySem PySem.W PyProof.Rows PySem.Builtin PySem.Builtin.Str PySem.StrLaws
set_option linter.all false
set_option maxRecDepth 100000
theorem fig_short : ∀ (z : Fin 3) (p : Fin 18), (figT (z.1 : Int) (p.1 : Int)).cps.toList.length ≤ 4 := by decide +kernel
theorem figD_len (p d : Int) (h0 : 0 ≤ p) (h1 : p < 18) : (figD p d).length ≤ 4 := by
  have z0 : 0 ≤ (d.fdiv 189).fmod 3 := Int.fmod_nonneg_of_pos _ (by decide)
  have z1 : (d.fdiv 189).fmod 3 < 3 := Int.fmod_lt_of_pos _ (by decide)
  have q := fig_short ⟨((d.fdiv 189).fmod 3).toNat, by omega⟩ ⟨p.toNat, by omega⟩
  have e1 : ((((d.fdiv 189).fmod 3).toNat : Nat) : Int) = (d.fdiv 189).fmod 3 := by omega
  have e2 : ((p.toNat : Nat) : Int) = p := by omega
  unfold figD
  rw [← e1, ← e2]
  exact q
theorem sign_41 : ∀ k : Fin 27, (unseenI (k.1 : Int)).toNat ≠ 41 := by decide +kernel
theorem sC_41 (d : Int) : sC d ≠ 41 := by
  have h0 : 0 ≤ (d.fdiv 7).fmod 27 := Int.fmod_nonneg_of_pos _ (by decide)
  have h1 : (d.fdiv 7).fmod 27 < 27 := Int.fmod_lt_of_pos _ (by decide)
  have q := sign_41 ⟨((d.fdiv 7).fmod 27).toNat, by omega⟩
  have e : ((((d.fdiv 7).fmod 27).toNat : Nat) : Int) = (d.fdiv 7).fmod 27 := by omega
  unfold sC
  rw [← e]
  exact q
theorem gC_big (d : Int) : 119826 ≤ gC d := by
  have h0 : 0 ≤ (d.fdiv 567).fmod 13 := Int.fmod_nonneg_of_pos _ (by decide)
  unfold gC
  omega
theorem at_last (x : List Nat) (b : Nat) : (x ++ [b])[(x ++ [b]).length - 1]? = some b := by simp
section
variable {p d : Int} (h0 : 0 ≤ p) (h1 : p < 18)
include h0 h1
theorem fL_41 : 41 ∉ fL p d := by
  rw [fL_eq p d h0 h1]
  intro h
  obtain ⟨c, hc, h⟩ := List.mem_flatMap.mp h
  have q := (fig_facts p d h0 h1).2.2.2 c hc
  have := sC_41 d
  rcases List.mem_cons.mp h with h | h
  · omega
  · have := List.mem_singleton.mp h
    omega
theorem fL_len : (fL p d).length ≤ 8 := by
  rw [fL_eq p d h0 h1, List.length_flatMap]
  have := figD_len p d h0 h1
  have e : ((figD p d).map fun c => [c, sC d].length) = (figD p d).map fun _ => 2 := rfl
  rw [e, List.map_const', List.sum_replicate_nat]
  omega
/-- the inside as typed: first and last sign differ (but of kind 6), no closing bracket -/
theorem inside_shape : ∃ a pre b, (insideS p d).cps.toList = a :: pre ++ fL p d ++ [b] ∧ (d.fmod 7 ≠ 6 → a ≠ b) ∧ 41 ≠ a ∧ 41 ∉ pre ∧ 41 ≠ b ∧ pre.length ≤ 3 := by
  have g := gC_big d
  have m0 : 0 ≤ d.fmod 7 := Int.fmod_nonneg_of_pos _ (by decide)
  have m1 : d.fmod 7 < 7 := Int.fmod_lt_of_pos _ (by decide)
  have hm : d.fmod 7 = 0 ∨ d.fmod 7 = 1 ∨ d.fmod 7 = 2 ∨ d.fmod 7 = 3 ∨ d.fmod 7 = 4 ∨ d.fmod 7 = 5 ∨ d.fmod 7 = 6 := by omega
  have q0 : 0 ≤ (d.fdiv 7).fmod 2 := Int.fmod_nonneg_of_pos _ (by decide)
  have q1 : (d.fdiv 7).fmod 2 < 2 := Int.fmod_lt_of_pos _ (by decide)
  have hq : (d.fdiv 7).fmod 2 = 0 ∨ (d.fdiv 7).fmod 2 = 1 := by omega
  have n41 : (41 : Nat) ≠ gC d := by omega
  rcases hm with h | h | h | h | h | h | h
  · exact ⟨gC d, [55, 383, gC d], 83, inside0 h, fun _ => by omega, n41, by simp [n41], by decide, by simp⟩
  · exact ⟨223, [57, gC d], 115, inside1 h, fun _ => by decide, by decide, by simp [n41], by decide, by simp⟩
  · exact ⟨64262, [383, gC d], 115, inside2 h, fun _ => by decide, by decide, by simp [n41], by decide, by simp⟩
  · exact ⟨gC d, [52, 223], 115, inside3 h, fun _ => by omega, n41, by simp, by decide, by simp⟩
  · rcases hq with e | e
    · exact ⟨gC d, [gC d, gC d], 223, inside4e h e, fun _ => by omega, n41, by simp [n41], by decide, by simp⟩
    · exact ⟨gC d, [gC d], 115, inside4o h e, fun _ => by omega, n41, by simp [n41], by decide, by simp⟩
  · exact ⟨gC d, [gC d, gC d], 64262, inside5 h, fun _ => by omega, n41, by simp [n41], by decide, by simp⟩
  · exact ⟨gC d, [gC d, gC d], 115, inside6 h, fun q => absurd h q, n41, by simp [n41], by decide, by simp⟩
theorem inside_facts : 41 ∉ (insideS p d).cps.toList ∧ 0 < (insideS p d).cps.toList.length ∧ (insideS p d).cps.toList.length ≤ 13 ∧
    ∃ a b, (insideS p d).cps.toList[0]? = some a ∧ (insideS p d).cps.toList[(insideS p d).cps.toList.length - 1]? = some b ∧ (d.fmod 7 ≠ 6 → a ≠ b) := by
  obtain ⟨a, pre, b, e, h, k1, k2, k3, k4⟩ := inside_shape (d := d) h0 h1
  have l := fL_len (d := d) h0 h1
  have n := fL_41 (d := d) h0 h1
  rw [e]
  refine ⟨?_, by simp, by simp; omega, a, b, by simp, at_last _ _, h⟩
  simp [k1, k2, k3, n]
end
end
end Mine
end
section
namespace Mine
section
open PySem PySem.W PyProof.Rows PySem.Builtin PySem.Builtin.Str PySem.StrLaws
set_option linter.all false
set_option maxRecDepth 100000
theorem str_ne {a b : Nat} (h : a ≠ b) : ((⟨#[a]⟩ : Str) != ⟨#[b]⟩) = true := by
  rw [bne_iff_ne]
  intro q
  have q2 : (#[a] : Array Nat) = #[b] := congrArg Str.cps q
  simp at q2
  exact h q2
theorem str_toArray (x : Str) : (⟨x.cps.toList.toArray⟩ : Str) = x := by rw [Array.toArray_toList]
/-- what _law_asked looks at in a reply of code 229 -/
structure Marks (R : Str) (n : Nat) (a b : Nat) : Prop where
  short : R.length ≤ 1000
  code : (Txt.slice R none (some 3) != Str.ofString "229") = false
  left : Txt.find R (Str.ofString "(") = 8
  right : Txt.find3 R (Str.ofString ")") (Txt.find R (Str.ofString "(") + 1) = 9 + n
  pos : 0 < n
  len : (R.length : Int) = 18 + n
  first : Txt.item R (Txt.find R (Str.ofString "(") + 1) = ⟨#[a]⟩
  last : Txt.item R (Txt.find3 R (Str.ofString ")") (Txt.find R (Str.ofString "(") + 1) - 1) = ⟨#[b]⟩
theorem marks_of (I : List Nat) {a b : Nat} (h41 : 41 ∉ I) (hl : I.length ≤ 900) (ha : I[0]? = some a) (hb : I[I.length - 1]? = some b) : Marks (repL I) I.length a b := by
  have hp := (List.getElem?_eq_some_iff.mp ha).1
  exact ⟨by rw [rep_len]; omega, rep_229 I, rep_find I, rep_find3 I h41, hp, by rw [rep_len]; omega, rep_first I ha, rep_last I h41 hb⟩
section
variable {p d : Int} (h0 : 0 ≤ p) (h1 : p < 18)
include h0 h1
theorem raw_marks (h : ¬ d.fmod 7 = 6) : ∃ n a b, Marks (replyS p d) n a b ∧ a ≠ b := by
  obtain ⟨n41, _, hl, a, b, ha, hb, hab⟩ := inside_facts (d := d) h0 h1
  rw [reply_rep h]
  exact ⟨_, a, b, marks_of _ n41 (by omega) ha hb, hab h⟩
theorem figD_41 : 41 ∉ figD p d := fun h => by
  have := (fig_facts p d h0 h1).2.2.2 _ h
  omega
theorem figD_115 : 115 ∉ figD p d := fun h => by
  have := (fig_facts p d h0 h1).2.2.2 _ h
  omega
theorem prep5_marks (h : d.fmod 7 = 5) : ∃ n, Marks (prepS (replyS p d)) n 115 116 := by
  have e := prep_in5 h0 h1 h
  have f := figD_len p d h0 h1
  have g := figD_41 (d := d) h0 h1
  rw [reply_rep (by omega), prep_rep, e]
  refine ⟨_, marks_of _ ?_ ?_ ?_ ?_⟩
  · simp [g]
  · simp; omega
  · rfl
  · have q := at_last ([115, 115, 115] ++ figD p d ++ [115]) 116
    have r : [115, 115, 115] ++ figD p d ++ [115] ++ [116] = [115, 115, 115] ++ figD p d ++ [115, 116] := by simp
    rw [r] at q
    exact q
/-- the parts of a prepared reply -/
theorem prep_parts (h : d.fmod 7 < 5) : ∃ (Pt : List (List Nat)) (n : Nat), Marks (prepS (replyS p d)) n 115 115 ∧ Txt.split (Txt.slice (prepS (replyS p d)) (some (Txt.find (prepS (replyS p d)) (Str.ofString "(") + 1)) (some (Txt.find3 (prepS (replyS p d)) (Str.ofString ")") (Txt.find (prepS (replyS p d)) (Str.ofString "(") + 1)))) ⟨#[115]⟩ = Pt.map (fun l => (⟨l.toArray⟩ : Str)) ∧
    (d.fmod 7 < 4 → Pt.length = 5 ∧ Pt[3]? = some (figD p d)) ∧ (d.fmod 7 = 4 → Pt.length ≠ 5) := by
  have m0 : 0 ≤ d.fmod 7 := Int.fmod_nonneg_of_pos _ (by decide)
  have f := figD_len p d h0 h1
  have g := figD_41 (d := d) h0 h1
  have g5 := figD_115 (d := d) h0 h1
  have q0 : 0 ≤ (d.fdiv 7).fmod 2 := Int.fmod_nonneg_of_pos _ (by decide)
  have q1 : (d.fdiv 7).fmod 2 < 2 := Int.fmod_lt_of_pos _ (by decide)
  have hq : (d.fdiv 7).fmod 2 = 0 ∨ (d.fdiv 7).fmod 2 = 1 := by omega
  have key : ∀ (Pt : List (List Nat)) (x : List Nat), prepL (insideS p d).cps.toList = joinL 115 Pt → Pt ≠ [] → (∀ z ∈ Pt, 115 ∉ z) → joinL 115 Pt = 115 :: x ++ [115] → 41 ∉ x → x.length ≤ 800 →
      Marks (prepS (replyS p d)) (joinL 115 Pt).length 115 115 ∧ Txt.split (Txt.slice (prepS (replyS p d)) (some (Txt.find (prepS (replyS p d)) (Str.ofString "(") + 1)) (some (Txt.find3 (prepS (replyS p d)) (Str.ofString ")") (Txt.find (prepS (replyS p d)) (Str.ofString "(") + 1)))) ⟨#[115]⟩ = Pt.map (fun l => (⟨l.toArray⟩ : Str)) := by
    intro Pt x e hne hf hj hx hxl
    have n41 : 41 ∉ joinL 115 Pt := by
      rw [hj]
      simp [hx]
    rw [reply_rep (by omega), prep_rep, e]
    refine ⟨marks_of _ n41 (by rw [hj]; simp; omega) (by rw [hj]; rfl) (by rw [hj]; exact at_last _ _), ?_⟩
    rw [rep_in _ n41]
    exact split_parts hne hf
  have hm : d.fmod 7 = 0 ∨ d.fmod 7 = 1 ∨ d.fmod 7 = 2 ∨ d.fmod 7 = 3 ∨ d.fmod 7 = 4 := by omega
  rcases hm with h | h | h | h | h
  · obtain ⟨k1, k2⟩ := key _ (55 :: 115 :: 115 :: figD p d) (prep_in0 h0 h1 h) (by simp) (by simp [g5]) (by simp [joinL]) (by simp [g]) (by simp; omega)
    exact ⟨_, _, k1, k2, fun _ => ⟨rfl, rfl⟩, fun q => by omega⟩
  · obtain ⟨k1, k2⟩ := key _ (115 :: 57 :: 115 :: figD p d) (prep_in1 h0 h1 h) (by simp) (by simp [g5]) (by simp [joinL]) (by simp [g]) (by simp; omega)
    exact ⟨_, _, k1, k2, fun _ => ⟨rfl, rfl⟩, fun q => by omega⟩
  · obtain ⟨k1, k2⟩ := key _ (116 :: 115 :: 115 :: figD p d) (prep_in2 h0 h1 h) (by simp) (by simp [g5]) (by simp [joinL]) (by simp [g]) (by simp; omega)
    exact ⟨_, _, k1, k2, fun _ => ⟨rfl, rfl⟩, fun q => by omega⟩
  · obtain ⟨k1, k2⟩ := key _ (52 :: 115 :: 115 :: figD p d) (prep_in3 h0 h1 h) (by simp) (by simp [g5]) (by simp [joinL]) (by simp [g]) (by simp; omega)
    exact ⟨_, _, k1, k2, fun _ => ⟨rfl, rfl⟩, fun q => by omega⟩
  · rcases hq with e | e
    · obtain ⟨k1, k2⟩ := key _ (115 :: 115 :: (figD p d ++ [115])) (prep_in4e h0 h1 h e) (by simp) (by simp [g5]) (by simp [joinL]) (by simp [g]) (by simp; omega)
      exact ⟨_, _, k1, k2, fun q => by omega, fun _ => by simp⟩
    · obtain ⟨k1, k2⟩ := key _ (115 :: figD p d) (prep_in4o h0 h1 h e) (by simp) (by simp [g5]) (by simp [joinL]) (by simp [g]) (by simp; omega)
      exact ⟨_, _, k1, k2, fun q => by omega, fun _ => by simp⟩
theorem reply6_list (h : d.fmod 7 = 6) : ∃ a b c r, (replyS p d).cps.toList = a :: b :: c :: r ∧ [a, b, c] ≠ [50, 50, 57] ∧ prepL [a] = [a] ∧ prepL [b] = [b] ∧ prepL [c] = [c] ∧ r.length ≤ 40 := by
  have q0 : 0 ≤ (d.fdiv 7).fmod 3 := Int.fmod_nonneg_of_pos _ (by decide)
  have q1 : (d.fdiv 7).fmod 3 < 3 := Int.fmod_lt_of_pos _ (by decide)
  have hq : (d.fdiv 7).fmod 3 = 0 ∨ (d.fdiv 7).fmod 3 = 1 ∨ (d.fdiv 7).fmod 3 = 2 := by omega
  obtain ⟨_, _, hl, _⟩ := inside_facts (d := d) h0 h1
  have e2 : (Str.ofString " ok) (").cps.toList = [32, 111, 107, 41, 32, 40] := by decide
  have e3 : (Str.ofString ") (sss9s)").cps.toList = postL := by decide
  have c1 : (Str.ofString "228").cps.toList = [50, 50, 56] := by decide
  have c2 : (Str.ofString "239").cps.toList = [50, 51, 57] := by decide
  have c3 : (Str.ofString "129").cps.toList = [49, 50, 57] := by decide
  have dg : ∀ i : Fin 10, prepL [48 + i.1] = [48 + i.1] := prep_digit
  have lp : postL.length = 9 := rfl
  have hz : (insideS p d).cps.size ≤ 13 := by
    rw [← Array.length_toList]
    exact hl
  rw [← replyS_6 h]
  rcases hq with e | e | e
  · refine ⟨50, 50, 56, [32, 111, 107, 41, 32, 40] ++ (insideS p d).cps.toList ++ postL, ?_, by decide, dg 2, dg 2, dg 8, by simp [lp]; omega⟩
    rw [e]
    show (Str.ofString "228" ++ Str.ofString " ok) (" ++ insideS p d ++ Str.ofString ") (sss9s)").cps.toList = _
    rw [Str.cps_append, Str.cps_append, Str.cps_append, Array.toList_append, Array.toList_append, Array.toList_append, c1, e2, e3]
    rfl
  · refine ⟨50, 51, 57, [32, 111, 107, 41, 32, 40] ++ (insideS p d).cps.toList ++ postL, ?_, by decide, dg 2, dg 3, dg 9, by simp [lp]; omega⟩
    rw [e]
    show (Str.ofString "239" ++ Str.ofString " ok) (" ++ insideS p d ++ Str.ofString ") (sss9s)").cps.toList = _
    rw [Str.cps_append, Str.cps_append, Str.cps_append, Array.toList_append, Array.toList_append, Array.toList_append, c2, e2, e3]
    rfl
  · refine ⟨49, 50, 57, [32, 111, 107, 41, 32, 40] ++ (insideS p d).cps.toList ++ postL, ?_, by decide, dg 1, dg 2, dg 9, by simp [lp]; omega⟩
    rw [e]
    show (Str.ofString "129" ++ Str.ofString " ok) (" ++ insideS p d ++ Str.ofString ") (sss9s)").cps.toList = _
    rw [Str.cps_append, Str.cps_append, Str.cps_append, Array.toList_append, Array.toList_append, Array.toList_append, c3, e2, e3]
    rfl
end
theorem not229 {R : Str} {a b c : Nat} {r : List Nat} (e : R.cps.toList = a :: b :: c :: r) (h : [a, b, c] ≠ [50, 50, 57]) : (Txt.slice R none (some 3) != Str.ofString "229") = true := by
  have hl : 3 ≤ R.length := by
    have : R.cps.toList.length = R.length := Array.length_toList
    rw [e] at this
    simp at this
    omega
  have q : Txt.slice R none (some 3) = ⟨#[a, b, c]⟩ := by
    rw [slice_none]
    have q := slice_nat R (a := 0) (b := 3) (by decide) hl
    rw [e] at q
    exact q
  have o : Str.ofString "229" = ⟨#[50, 50, 57]⟩ := by decide
  rw [q, o, bne_iff_ne]
  intro x
  have x2 : (#[a, b, c] : Array Nat) = #[50, 50, 57] := congrArg Str.cps x
  exact h (by simpa using x2)
section
variable {p d : Int} (h0 : 0 ≤ p) (h1 : p < 18)
include h0 h1
theorem raw6 (h : d.fmod 7 = 6) : (Txt.slice (replyS p d) none (some 3) != Str.ofString "229") = true ∧ (replyS p d).length ≤ 1000 := by
  obtain ⟨a, b, c, r, e, hn, _, _, _, hr⟩ := reply6_list h0 h1 h
  refine ⟨not229 e hn, ?_⟩
  have : (replyS p d).cps.toList.length = (replyS p d).length := Array.length_toList
  rw [e] at this
  simp at this
  omega
theorem prep6 (h : d.fmod 7 = 6) : (Txt.slice (prepS (replyS p d)) none (some 3) != Str.ofString "229") = true := by
  obtain ⟨a, b, c, r, e, hn, pa, pb, pc, hr⟩ := reply6_list h0 h1 h
  have q : (prepS (replyS p d)).cps.toList = a :: b :: c :: prepL r := by
    rw [prepS_list, e, prep_cons, prep_cons b, prep_cons c, pa, pb, pc]
    rfl
  exact not229 q hn
theorem reply_short : (replyS p d).length ≤ 250 := by
  by_cases h : d.fmod 7 = 6
  · obtain ⟨a, b, c, r, e, _, _, _, _, hr⟩ := reply6_list h0 h1 h
    have : (replyS p d).cps.toList.length = (replyS p d).length := Array.length_toList
    rw [e] at this
    simp at this
    omega
  · obtain ⟨_, _, hl, _⟩ := inside_facts (d := d) h0 h1
    rw [reply_rep h, rep_len]
    omega
end
theorem fold_len : ∀ l : List Nat, (prepL l).length ≤ 4 * l.length
  | [] => Nat.zero_le _
  | c :: r => by
    have ih := fold_len r
    have hc : (prepL [c]).length ≤ 4 := by
      unfold prepL
      rw [List.filter_cons]
      split
      · have : (foldC c).cps.toList.length = (foldC c).length := Array.length_toList
        have := fold_short c
        have : (foldC c).cps.size = (foldC c).length := rfl
        simp
        omega
      · simp
    rw [prep_cons, List.length_append, List.length_cons]
    omega
theorem prep_short {x : Str} (h : x.length ≤ 250) : (prepS x).length ≤ 1000 := by
  have a : (prepS x).cps.toList.length = (prepS x).length := Array.length_toList
  have b : x.cps.toList.length = x.length := Array.length_toList
  have := fold_len x.cps.toList
  rw [prepS_list] at a
  omega
end
end Mine
end
section
namespace Mine
section
set_option linter.all false
/-- how many items are x or less -/
noncomputable def cR (l : List Int) (x : Int) : Nat := l.countP (fun v => decide (v ≤ x))
noncomputable def sm (l : List Int) (n : Nat) : Int := (l.take n).sum
noncomputable def Asc (l : List Int) : Prop := l.Pairwise (· ≤ ·)
noncomputable def NonNeg (l : List Int) : Prop := ∀ v ∈ l, 0 ≤ v
theorem cR_le (l : List Int) (x : Int) : cR l x ≤ l.length := List.countP_le_length
theorem cR_cons (a : Int) (r : List Int) (x : Int) : cR (a :: r) x = cR r x + if a ≤ x then 1 else 0 := by
  unfold cR
  rw [List.countP_cons]
  simp
theorem cR_split {x : Int} : ∀ {l : List Int}, Asc l → ∀ (i : Nat) v, l[i]? = some v → (x < v ↔ cR l x ≤ i)
  | [], _, i, v, h => by simp at h
  | a :: r, hs, i, v, h => by
    obtain ⟨h1, h2⟩ := List.pairwise_cons.mp hs
    rw [cR_cons]
    by_cases ha : a ≤ x
    · rw [if_pos ha]
      cases i with
      | zero =>
        have : a = v := by simpa using h
        omega
      | succ i =>
        have := cR_split (x := x) h2 i v (by simpa using h)
        omega
    · rw [if_neg ha]
      have z : cR r x = 0 := by
        unfold cR
        rw [List.countP_eq_zero]
        intro b hb
        have := h1 b hb
        simp
        omega
      have hv : a ≤ v := by
        cases i with
        | zero =>
          have : a = v := by simpa using h
          omega
        | succ i => exact h1 v (List.mem_of_getElem? (by simpa using h))
      omega
theorem cR_splitL {x : Int} {l : List Int} (hs : Asc l) (i : Nat) (v : Int) (h : l[i]? = some v) : v < x + 1 ↔ i < cR l x := by
  have := cR_split (x := x) hs i v h
  omega
theorem cR_mono (l : List Int) {x y : Int} (h : x ≤ y) : cR l x ≤ cR l y := by
  unfold cR
  exact List.countP_mono_left fun v _ hv => by
    have := of_decide_eq_true hv
    simp
    omega
theorem getD_some {l : List Int} {i : Nat} (h : i < l.length) : l[i]? = some (l.getD i 0) := by
  rw [List.getD_eq_getElem?_getD, List.getElem?_eq_getElem h]
  rfl
theorem sm_succ {l : List Int} {n : Nat} (h : n < l.length) : sm l (n + 1) = sm l n + l.getD n 0 := by
  unfold sm
  rw [List.take_add_one, getD_some h, Option.toList_some, List.sum_append]
  simp
theorem getD_nonneg {l : List Int} (h : NonNeg l) (i : Nat) : 0 ≤ l.getD i 0 := by
  rcases Nat.lt_or_ge i l.length with q | q
  · exact h _ (List.mem_of_getElem? (getD_some q))
  · rw [List.getD_eq_getElem?_getD, List.getElem?_eq_none q]
    exact Int.le_refl 0
theorem sm_mono {l : List Int} (h : NonNeg l) {a : Nat} : ∀ {b : Nat}, a ≤ b → sm l a ≤ sm l b := by
  intro b hb
  induction hb with
  | refl => exact Int.le_refl _
  | step hb ih =>
    rename_i b
    rcases Nat.lt_or_ge b l.length with q | q
    · have := getD_nonneg h b
      have := sm_succ q
      show sm l a ≤ sm l (b + 1)
      omega
    · have e : sm l (b + 1) = sm l b := by
        unfold sm
        rw [List.take_of_length_le q, List.take_of_length_le (by omega)]
      show sm l a ≤ sm l (b + 1)
      omega
theorem sm_zero (l : List Int) : sm l 0 = 0 := rfl
theorem sm_nonneg {l : List Int} (h : NonNeg l) (n : Nat) : 0 ≤ sm l n := by
  have := sm_mono h (Nat.zero_le n)
  rwa [sm_zero] at this
/-- the reaches, so far -/
structure RInv (row L : List Int) : Prop where
  pos : 0 < L.length
  small : (L.length : Int) ≤ L.getD (L.length - 1) 0 + 1
  top : L.getD (L.length - 1) 0 ≤ sm row row.length
  grow : ∀ k, 2 ≤ k → k < L.length → L.getD (k - 1) 0 + L.getD (k - 2) 0 + 1 < L.getD k 0
  nonneg : 0 ≤ L.getD (L.length - 1) 0
  gap : ∀ i, i < row.length → sm row i + 1 < row.getD i 0 → L.getD (L.length - 1) 0 ≤ sm row i
  under : L.getD (L.length - 1) 0 ≤ sm row (cR row (L.getD (L.length - 1) 0 + 1))
  prev : 2 ≤ L.length → L.getD (L.length - 1) 0 = sm row (cR row (L.getD (L.length - 2) 0 + 1)) ∧ L.getD (L.length - 2) 0 < L.getD (L.length - 1) 0
theorem RInv.start {row : List Int} (hn : NonNeg row) : RInv row [0] := by
  refine ⟨Nat.one_pos, Int.le_refl _, sm_nonneg hn _, fun k h1 h2 => ?_, Int.le_refl 0, fun i hi h => sm_nonneg hn i, sm_nonneg hn _, fun h => ?_⟩
  · simp at h2; omega
  · simp at h
theorem getD_app_lt {L : List Int} {v : Int} {k : Nat} (h : k < L.length) : (L ++ [v]).getD k 0 = L.getD k 0 := by
  rw [List.getD_eq_getElem?_getD, List.getD_eq_getElem?_getD, List.getElem?_append_left h]
theorem getD_app_last {L : List Int} {v : Int} : (L ++ [v]).getD L.length 0 = v := by
  rw [List.getD_eq_getElem?_getD, List.getElem?_append_right (Nat.le_refl _), Nat.sub_self]
  rfl
theorem RInv.step {row L : List Int} (hs : Asc row) (hn : NonNeg row) (R : RInv row L) (h : L.getD (L.length - 1) 0 < sm row (cR row (L.getD (L.length - 1) 0 + 1))) : RInv row (L ++ [sm row (cR row (L.getD (L.length - 1) 0 + 1))]) := by
  have hp := R.pos
  have hlen : (L ++ [sm row (cR row (L.getD (L.length - 1) 0 + 1))]).length = L.length + 1 := by simp
  have e1 : L.length + 1 - 1 = L.length := by omega
  have e2 : L.length + 1 - 2 = L.length - 1 := by omega
  have hl1 : L.length - 1 < L.length := by omega
  have hsmall := R.small
  refine ⟨by omega, ?_, ?_, fun k h1 h2 => ?_, ?_, fun i hi hg => ?_, ?_, fun _ => ?_⟩
  · rw [hlen, e1, getD_app_last]
    omega
  · rw [hlen, e1, getD_app_last]
    exact sm_mono hn (cR_le _ _)
  · rw [hlen] at h2
    rcases Nat.lt_or_ge k L.length with q | q
    · rw [getD_app_lt q, getD_app_lt (by omega), getD_app_lt (by omega)]
      exact R.grow k h1 q
    · have e : k = L.length := by omega
      subst e
      rw [getD_app_last, getD_app_lt hl1, getD_app_lt (by omega)]
      obtain ⟨p1, p2⟩ := R.prev h1
      have hlt : cR row (L.getD (L.length - 2) 0 + 1) < cR row (L.getD (L.length - 1) 0 + 1) := by
        rcases Nat.lt_or_ge (cR row (L.getD (L.length - 2) 0 + 1)) (cR row (L.getD (L.length - 1) 0 + 1)) with q | q
        · exact q
        · have := sm_mono hn q
          omega
      have hc := cR_le row (L.getD (L.length - 1) 0 + 1)
      have hlr : cR row (L.getD (L.length - 2) 0 + 1) < row.length := by omega
      have hv := (cR_split (x := L.getD (L.length - 2) 0 + 1) hs _ _ (getD_some hlr)).mpr (Nat.le_refl _)
      have hm := sm_mono hn (show cR row (L.getD (L.length - 2) 0 + 1) + 1 ≤ cR row (L.getD (L.length - 1) 0 + 1) from hlt)
      have hsu := sm_succ hlr
      omega
  · rw [hlen, e1, getD_app_last]
    exact sm_nonneg hn _
  · rw [hlen, e1, getD_app_last]
    have hq := R.gap i hi hg
    have := (cR_split (x := L.getD (L.length - 1) 0 + 1) hs _ _ (getD_some hi)).mp (by omega)
    exact sm_mono hn this
  · rw [hlen, e1, getD_app_last]
    exact sm_mono hn (cR_mono row (by omega))
  · rw [hlen, e1, e2, getD_app_last, getD_app_lt hl1]
    exact ⟨rfl, h⟩
/-- the reach is whole -/
structure Whole (row : List Int) (c : Nat) (r : Int) : Prop where
  asc : Asc row
  nonneg : NonNeg row
  le : c ≤ row.length
  sum : sm row c = r
  tight : ∀ i, i < c → row.getD i 0 ≤ sm row i + 1
  high : ∀ i, c ≤ i → i < row.length → r + 1 < row.getD i 0
theorem RInv.whole {row L : List Int} (hs : Asc row) (hn : NonNeg row) (R : RInv row L) (h : ¬ L.getD (L.length - 1) 0 < sm row (cR row (L.getD (L.length - 1) 0 + 1))) :
    Whole row (cR row (L.getD (L.length - 1) 0 + 1)) (L.getD (L.length - 1) 0) := by
  have hu := R.under
  refine ⟨hs, hn, cR_le _ _, by omega, fun i hi => ?_, fun i hi hl => ?_⟩
  · have hl : i < row.length := Nat.lt_of_lt_of_le hi (cR_le _ _)
    by_cases hg : sm row i + 1 < row.getD i 0
    · have hq := R.gap i hl hg
      have := (cR_split (x := L.getD (L.length - 1) 0 + 1) hs _ _ (getD_some hl)).mp (by omega)
      omega
    · omega
  · exact (cR_split hs _ _ (getD_some hl)).mpr hi
noncomputable def Pay : List Int → Int → Prop
  | [], x => x = 0
  | p :: r, x => Pay r x ∨ Pay r (x - p)
theorem Pay.perm {a b : List Int} (h : a.Perm b) : ∀ x, Pay a x ↔ Pay b x := by
  induction h with
  | nil => intro x; exact Iff.rfl
  | cons p _ ih => intro x; show (Pay _ x ∨ Pay _ (x - p)) ↔ (Pay _ x ∨ Pay _ (x - p)); rw [ih, ih]
  | swap p q l =>
    intro x
    show ((Pay l x ∨ Pay l (x - p)) ∨ (Pay l (x - q) ∨ Pay l (x - q - p))) ↔ ((Pay l x ∨ Pay l (x - q)) ∨ (Pay l (x - p) ∨ Pay l (x - p - q)))
    have e : x - q - p = x - p - q := by omega
    rw [e, or_assoc, or_assoc, or_left_comm (a := Pay l (x - p))]
  | trans _ _ ih1 ih2 => intro x; rw [ih1, ih2]
theorem Pay.zero : ∀ l : List Int, Pay l 0
  | [] => rfl
  | _ :: r => .inl (Pay.zero r)
theorem Pay.append : ∀ {a b : List Int} {x : Int}, Pay (a ++ b) x ↔ ∃ y, Pay a y ∧ Pay b (x - y)
  | [], b, x => by
    constructor
    · intro h; exact ⟨0, rfl, by simpa using h⟩
    · rintro ⟨y, h1, h2⟩
      have : y = 0 := h1
      subst this
      simpa using h2
  | p :: a, b, x => by
    constructor
    · rintro (h | h)
      · obtain ⟨y, h1, h2⟩ := Pay.append.mp h
        exact ⟨y, .inl h1, h2⟩
      · obtain ⟨y, h1, h2⟩ := Pay.append.mp h
        refine ⟨y + p, .inr ?_, ?_⟩
        · have e : y + p - p = y := by omega
          rw [e]; exact h1
        · have e : x - (y + p) = x - p - y := by omega
          rw [e]; exact h2
    · rintro ⟨y, h1 | h1, h2⟩
      · exact .inl (Pay.append.mpr ⟨y, h1, h2⟩)
      · refine .inr (Pay.append.mpr ⟨y - p, h1, ?_⟩)
        have e : x - p - (y - p) = x - y := by omega
        rw [e]; exact h2
theorem Pay.bound : ∀ {a : List Int} {x : Int}, NonNeg a → Pay a x → 0 ≤ x ∧ x ≤ a.sum
  | [], x, _, h => by
    have : x = 0 := h
    subst this
    exact ⟨Int.le_refl 0, Int.le_refl 0⟩
  | p :: r, x, hn, h => by
    have hp := hn p (List.mem_cons_self ..)
    have hr : NonNeg r := fun v hv => hn v (List.mem_cons_of_mem _ hv)
    rw [List.sum_cons]
    rcases h with h | h
    · have := Pay.bound hr h; omega
    · have := Pay.bound hr h; omega
theorem Pay.great {r : Int} : ∀ {a : List Int} {x : Int}, 0 ≤ r → (∀ v ∈ a, r < v) → Pay a x → x = 0 ∨ r < x
  | [], x, _, _, h => .inl h
  | p :: q, x, h0, hv, h => by
    have hp := hv p (List.mem_cons_self ..)
    have hq : ∀ v ∈ q, r < v := fun v hm => hv v (List.mem_cons_of_mem _ hm)
    rcases h with h | h
    · exact Pay.great h0 hq h
    · have := Pay.great h0 hq h
      omega
theorem Whole.pays {row : List Int} {c : Nat} {r : Int} (W : Whole row c r) {x : Int} (h0 : 0 ≤ x) (h1 : x ≤ r) : Pay row x := by
  have key : ∀ n, n ≤ c → ∀ y, 0 ≤ y → y ≤ sm row n → Pay (row.take n) y := by
    intro n
    induction n with
    | zero =>
      intro _ y a b
      rw [sm_zero] at b
      have : y = 0 := by omega
      subst this
      exact Pay.zero _
    | succ n ih =>
      intro hn y a b
      have hl : n < row.length := Nat.lt_of_lt_of_le hn W.le
      have ht := W.tight n hn
      rw [sm_succ hl] at b
      rw [List.take_add_one, getD_some hl, Option.toList_some]
      by_cases q : y ≤ sm row n
      · exact Pay.append.mpr ⟨y, ih (by omega) y a q, by rw [Int.sub_self]; exact Pay.zero _⟩
      · refine Pay.append.mpr ⟨y - row.getD n 0, ih (by omega) _ (by omega) (by omega), .inr ?_⟩
        show y - (y - row.getD n 0) - row.getD n 0 = 0
        omega
  have h := key c (Nat.le_refl _) x h0 (by rw [W.sum]; exact h1)
  have e : row.take c ++ row.drop c = row := List.take_append_drop c row
  rw [← e]
  exact Pay.append.mpr ⟨x, h, by rw [Int.sub_self]; exact Pay.zero _⟩
theorem Whole.not {row : List Int} {c : Nat} {r : Int} (W : Whole row c r) : ¬ Pay row (r + 1) := by
  intro h
  have hr : 0 ≤ r := by
    rw [← W.sum]
    exact sm_nonneg W.nonneg c
  have e : row.take c ++ row.drop c = row := List.take_append_drop c row
  rw [← e] at h
  obtain ⟨y, h1, h2⟩ := Pay.append.mp h
  have b := Pay.bound (fun v hv => W.nonneg v (List.mem_of_mem_take hv)) h1
  have bs : (row.take c).sum = r := W.sum
  have g := Pay.great (r := r + 1) (by omega) (fun v hv => by
    obtain ⟨i, hi⟩ := List.mem_iff_getElem?.mp hv
    rw [List.getElem?_drop] at hi
    have hl : c + i < row.length := (List.getElem?_eq_some_iff.mp hi).1
    have := W.high (c + i) (by omega) hl
    rw [getD_some hl] at hi
    cases hi
    exact this) h2
  omega
/-- the sums of all choices -/
noncomputable def sumsL : List Int → List Int → List Int
  | s, [] => s
  | s, p :: r => sumsL (s ++ s.map fun y => p + y) r
theorem mem_sumsL : ∀ {ps s : List Int} {x : Int}, x ∈ sumsL s ps ↔ ∃ y ∈ s, Pay ps (x - y)
  | [], s, x => by
    show x ∈ s ↔ _
    constructor
    · intro h; exact ⟨x, h, by show x - x = 0; omega⟩
    · rintro ⟨y, h1, h2⟩
      have : x - y = 0 := h2
      have : x = y := by omega
      rw [this]; exact h1
  | p :: r, s, x => by
    show x ∈ sumsL (s ++ s.map fun y => p + y) r ↔ _
    rw [mem_sumsL]
    constructor
    · rintro ⟨y, h1, h2⟩
      rcases List.mem_append.mp h1 with h1 | h1
      · exact ⟨y, h1, .inl h2⟩
      · obtain ⟨z, hz, rfl⟩ := List.mem_map.mp h1
        refine ⟨z, hz, .inr ?_⟩
        have e : x - z - p = x - (p + z) := by omega
        rw [e]; exact h2
    · rintro ⟨y, h1, h2 | h2⟩
      · exact ⟨y, List.mem_append_left _ h1, h2⟩
      · refine ⟨p + y, List.mem_append_right _ (List.mem_map.mpr ⟨y, h1, rfl⟩), ?_⟩
        have e : x - (p + y) = x - y - p := by omega
        rw [e]; exact h2
theorem mem_sums0 {ps : List Int} {x : Int} : x ∈ sumsL [0] ps ↔ Pay ps x := by
  rw [mem_sumsL]
  constructor
  · rintro ⟨y, h1, h2⟩
    rw [List.mem_singleton.mp h1] at h2
    simpa using h2
  · intro h
    exact ⟨0, List.mem_singleton.mpr rfl, by simpa using h⟩
theorem sumsL_length : ∀ (ps s : List Int), (sumsL s ps).length = s.length * 2 ^ ps.length
  | [], s => by simp [sumsL]
  | p :: r, s => by
    show (sumsL (s ++ s.map fun y => p + y) r).length = _
    rw [sumsL_length, List.length_append, List.length_map, List.length_cons, Nat.pow_succ]
    rw [← Nat.mul_two, Nat.mul_assoc, Nat.mul_comm 2]
theorem sumsL_snoc : ∀ (ps s : List Int) (p : Int), sumsL s (ps ++ [p]) = sumsL s ps ++ (sumsL s ps).map fun y => p + y
  | [], s, p => rfl
  | q :: r, s, p => sumsL_snoc r _ p
/-- a turn of the halving -/
theorem Whole.half {row : List Int} {c : Nat} {r : Int} (W : Whole row c r) {rest : Int} {high : Nat} (h0 : 0 < rest) (h1 : rest ≤ sm row high) (hc : high ≤ c) :
    1 ≤ min (cR row rest) high ∧ min (cR row rest) high ≤ high ∧ 0 ≤ rest - row.getD (min (cR row rest) high - 1) 0 ∧ rest - row.getD (min (cR row rest) high - 1) 0 ≤ sm row (min (cR row rest) high - 1) := by
  have hpos : 0 < high := by
    rcases Nat.eq_zero_or_pos high with q | q
    · rw [q, sm_zero] at h1; omega
    · exact q
  have hl : high ≤ row.length := Nat.le_trans hc W.le
  have t0 := W.tight 0 (by omega)
  rw [sm_zero] at t0
  have c0 : 1 ≤ cR row rest := by
    rcases Nat.eq_zero_or_pos (cR row rest) with q | q
    · have := (cR_split (x := rest) W.asc _ _ (getD_some (show 0 < row.length by omega))).mpr (by omega)
      omega
    · exact q
  have hp : min (cR row rest) high - 1 < row.length := by omega
  have hle : ¬ rest < row.getD (min (cR row rest) high - 1) 0 := fun q => by
    have := (cR_split (x := rest) W.asc _ _ (getD_some hp)).mp q
    omega
  refine ⟨by omega, by omega, by omega, ?_⟩
  have hsu := sm_succ hp
  have e : min (cR row rest) high - 1 + 1 = min (cR row rest) high := by omega
  rw [e] at hsu
  have : rest ≤ sm row (min (cR row rest) high) := by
    by_cases q : cR row rest < high
    · rw [show min (cR row rest) high = cR row rest by omega]
      have a := (cR_split (x := rest) W.asc _ _ (getD_some (show cR row rest < row.length by omega))).mpr (Nat.le_refl _)
      have b := W.tight (cR row rest) (by omega)
      omega
    · rw [show min (cR row rest) high = high by omega]
      exact h1
  omega
end
end Mine
end
section
namespace Mine
section
set_option linter.all false
noncomputable def insI (l : List Int) (x : Int) : List Int := l.take (cR l x) ++ x :: l.drop (cR l x)
noncomputable def insD (l : List (Nat × Int)) (d : Nat × Int) : List (Nat × Int) := l.take (cR (l.map (·.2)) d.2) ++ d :: l.drop (cR (l.map (·.2)) d.2)
noncomputable def Lex (a b : Nat × Int) : Prop := a.2 < b.2 ∨ (a.2 = b.2 ∧ a.1 < b.1)
theorem insI_perm (l : List Int) (x : Int) : (insI l x).Perm (x :: l) := by
  unfold insI
  refine List.perm_middle.trans ?_
  rw [List.take_append_drop]
theorem insD_perm (l : List (Nat × Int)) (d : Nat × Int) : (insD l d).Perm (d :: l) := by
  unfold insD
  refine List.perm_middle.trans ?_
  rw [List.take_append_drop]
theorem insI_asc {l : List Int} (h : Asc l) (x : Int) : Asc (insI l x) := by
  have hs : Asc (l.take (cR l x) ++ l.drop (cR l x)) := by rw [List.take_append_drop]; exact h
  obtain ⟨h1, h2, h3⟩ := List.pairwise_append.mp hs
  have lo : ∀ a ∈ l.take (cR l x), a ≤ x := fun a ha => by
    obtain ⟨i, hi⟩ := List.mem_iff_getElem?.mp ha
    rw [List.getElem?_take] at hi
    split at hi
    · have := (cR_split (x := x) h i a hi)
      omega
    · cases hi
  have up : ∀ b ∈ l.drop (cR l x), x ≤ b := fun b hb => by
    obtain ⟨i, hi⟩ := List.mem_iff_getElem?.mp hb
    rw [List.getElem?_drop] at hi
    have := (cR_split (x := x) h _ b hi).mpr (by omega)
    omega
  refine List.pairwise_append.mpr ⟨h1, List.pairwise_cons.mpr ⟨up, h2⟩, fun a ha b hb => ?_⟩
  rcases List.mem_cons.mp hb with rfl | hb
  · exact lo a ha
  · exact h3 a ha b hb
theorem lex_asc {l : List (Nat × Int)} (h : l.Pairwise Lex) : Asc (l.map (·.2)) := by
  unfold Asc
  rw [List.pairwise_map]
  exact h.imp fun {a b} q => by
    rcases q with q | q
    · exact Int.le_of_lt q
    · exact Int.le_of_eq q.1
theorem insD_lex {l : List (Nat × Int)} (h : l.Pairwise Lex) (d : Nat × Int) (hd : ∀ a ∈ l, a.1 < d.1) : (insD l d).Pairwise Lex := by
  have ha' := lex_asc h
  have hs : (l.take (cR (l.map (·.2)) d.2) ++ l.drop (cR (l.map (·.2)) d.2)).Pairwise Lex := by rw [List.take_append_drop]; exact h
  obtain ⟨h1, h2, h3⟩ := List.pairwise_append.mp hs
  have lo : ∀ a ∈ l.take (cR (l.map (·.2)) d.2), Lex a d := fun a ha => by
    have hm := hd a (List.mem_of_mem_take ha)
    obtain ⟨i, hi⟩ := List.mem_iff_getElem?.mp ha
    rw [List.getElem?_take] at hi
    split at hi
    · have := (cR_split (x := d.2) ha' i a.2 (by rw [List.getElem?_map, hi]; rfl))
      unfold Lex
      omega
    · cases hi
  have up : ∀ b ∈ l.drop (cR (l.map (·.2)) d.2), Lex d b := fun b hb => by
    obtain ⟨i, hi⟩ := List.mem_iff_getElem?.mp hb
    rw [List.getElem?_drop] at hi
    exact .inl ((cR_split (x := d.2) ha' _ b.2 (by rw [List.getElem?_map, hi]; rfl)).mpr (by omega))
  refine List.pairwise_append.mpr ⟨h1, List.pairwise_cons.mpr ⟨up, h2⟩, fun a ha b hb => ?_⟩
  rcases List.mem_cons.mp hb with rfl | hb
  · exact lo a ha
  · exact h3 a ha b hb
theorem lex_unique {a b : List (Nat × Int)} (h : a.Perm b) (ha : a.Pairwise Lex) (hb : b.Pairwise Lex) : a = b := by
  refine List.Perm.eq_of_pairwise (fun x y _ _ h1 h2 => ?_) ha hb h
  unfold Lex at h1 h2
  omega
theorem asc_unique {a b : List Int} (h : a.Perm b) (ha : Asc a) (hb : Asc b) : a = b :=
  List.Perm.eq_of_pairwise (fun x y _ _ h1 h2 => Int.le_antisymm h1 h2) ha hb h
/-- what stands between the turns of the first loop -/
structure Told (i : Nat) (ri : List Int) (pd ds : List (Nat × Int)) : Prop where
  asc : Asc ri
  rows : ri.Perm (ds.map (·.2))
  pairs : pd.Perm ds
  lex : pd.Pairwise Lex
  before : ∀ d ∈ ds, d.1 < i
  rise : ds.Pairwise (fun a b => a.1 < b.1)
  port : ∀ d ∈ ds, 0 ≤ d.2 ∧ d.2 < 18
  len : ds.length ≤ i
theorem Told.start : Told 0 [] [] [] := ⟨.nil, .nil, .nil, .nil, by simp, .nil, by simp, Nat.le_refl _⟩
theorem Told.skip {i : Nat} {ri : List Int} {pd ds : List (Nat × Int)} (h : Told i ri pd ds) : Told (i + 1) ri pd ds :=
  ⟨h.asc, h.rows, h.pairs, h.lex, fun d hd => Nat.lt_succ_of_lt (h.before d hd), h.rise, h.port, Nat.le_succ_of_le h.len⟩
theorem Told.step {i : Nat} {ri : List Int} {pd ds : List (Nat × Int)} (h : Told i ri pd ds) {P : Int} (h0 : 0 ≤ P) (h1 : P < 18) : Told (i + 1) (insI ri P) (insD pd (i, P)) (ds ++ [(i, P)]) := by
  have bp : ∀ a ∈ pd, a.1 < i := fun a ha => h.before a (h.pairs.mem_iff.mp ha)
  refine ⟨insI_asc h.asc P, ?_, ?_, insD_lex h.lex (i, P) bp, fun d hd => ?_, ?_, fun d hd => ?_, ?_⟩
  · rw [List.map_append]
    refine (insI_perm ri P).trans ((h.rows.cons P).trans ?_)
    exact (List.perm_append_singleton P _).symm
  · exact (insD_perm pd (i, P)).trans ((h.pairs.cons _).trans (List.perm_append_singleton _ _).symm)
  · rcases List.mem_append.mp hd with hd | hd
    · exact Nat.lt_succ_of_lt (h.before d hd)
    · rw [List.mem_singleton.mp hd]
      exact Nat.lt_succ_self i
  · refine List.pairwise_append.mpr ⟨h.rise, List.pairwise_singleton _ _, fun a ha b hb => ?_⟩
    rw [List.mem_singleton.mp hb]
    exact h.before a ha
  · rcases List.mem_append.mp hd with hd | hd
    · exact h.port d hd
    · rw [List.mem_singleton.mp hd]
      exact ⟨h0, h1⟩
  · rw [List.length_append, List.length_singleton]
    exact Nat.succ_le_succ h.len
/-- a stable sort of what was told is the pairs' row -/
theorem Told.sorted {i : Nat} {ri : List Int} {pd ds : List (Nat × Int)} (h : Told i ri pd ds) {is : List Nat} (hp : is.Perm (List.range ds.length))
    (ho : is.Pairwise (fun i j => (ds.map (·.2)).getD i 0 < (ds.map (·.2)).getD j 0 ∨ ((ds.map (·.2)).getD i 0 = (ds.map (·.2)).getD j 0 ∧ i < j))) : is.map (fun i => ds.getD i (0, 0)) = pd := by
  have hr : (List.range ds.length).map (fun i => ds.getD i (0, 0)) = ds := by
    apply List.ext_getElem
    · simp
    · intro k h1 h2
      rw [List.getElem_map, List.getElem_range, List.getD_eq_getElem?_getD, List.getElem?_eq_getElem h2]
      rfl
  have hq : (is.map (fun i => ds.getD i (0, 0))).Perm ds := by
    have := hp.map (fun i => ds.getD i (0, 0))
    rwa [hr] at this
  refine lex_unique (hq.trans h.pairs.symm) ?_ h.lex
  rw [List.pairwise_map]
  refine ho.imp_of_mem fun {a b} ha hb q => ?_
  have la := List.mem_range.mp (hp.mem_iff.mp ha)
  have lb := List.mem_range.mp (hp.mem_iff.mp hb)
  have ea : (ds.map (·.2)).getD a 0 = (ds.getD a (0, 0)).2 := by
    rw [List.getD_eq_getElem?_getD, List.getElem?_map, List.getElem?_eq_getElem la, List.getD_eq_getElem?_getD, List.getElem?_eq_getElem la]
    rfl
  have eb : (ds.map (·.2)).getD b 0 = (ds.getD b (0, 0)).2 := by
    rw [List.getD_eq_getElem?_getD, List.getElem?_map, List.getElem?_eq_getElem lb, List.getD_eq_getElem?_getD, List.getElem?_eq_getElem lb]
    rfl
  rw [ea, eb] at q
  rcases q with q | ⟨q1, q2⟩
  · exact .inl q
  · refine .inr ⟨q1, ?_⟩
    have := List.pairwise_iff_getElem.mp h.rise a b la lb q2
    rw [List.getD_eq_getElem?_getD, List.getElem?_eq_getElem la, List.getD_eq_getElem?_getD, List.getElem?_eq_getElem lb]
    exact this
theorem sum_le : ∀ l : List Int, (∀ v ∈ l, v ≤ 18) → l.sum ≤ 18 * l.length
  | [], _ => Int.le_refl 0
  | a :: r, h => by
    have := sum_le r fun v hv => h v (List.mem_cons_of_mem _ hv)
    have := h a (List.mem_cons_self ..)
    rw [List.sum_cons, List.length_cons]
    omega
theorem Told.nonneg {i : Nat} {ri : List Int} {pd ds : List (Nat × Int)} (h : Told i ri pd ds) : NonNeg ri := fun v hv => by
  obtain ⟨d, hd, rfl⟩ := List.mem_map.mp (h.rows.mem_iff.mp hv)
  exact (h.port d hd).1
theorem Told.sum {i : Nat} {ri : List Int} {pd ds : List (Nat × Int)} (h : Told i ri pd ds) (hi : i ≤ 5) : sm ri ri.length ≤ 900 := by
  have hl : ri.length = ds.length := by rw [h.rows.length_eq, List.length_map]
  have := sum_le ri fun v hv => by
    obtain ⟨d, hd, rfl⟩ := List.mem_map.mp (h.rows.mem_iff.mp hv)
    have := h.port d hd
    omega
  have := h.len
  unfold sm
  rw [List.take_length]
  omega
end
end Mine
end
section
namespace Mine
section
open PySem PySem.W PyProof.Rows
set_option linter.all false
/-- place k of xs bears the item σ k of a₀ -/
noncomputable def Rep (a₀ xs : Array Keyed) (σ : Nat → Nat) : Prop := ∀ k, k < a₀.size → σ k < a₀.size ∧ xs[k]? = a₀[σ k]?
noncomputable def Lx (a₀ : Array Keyed) (p q : Nat) : Prop := K a₀ p < K a₀ q ∨ (K a₀ p = K a₀ q ∧ p < q)
theorem Rep.K {a₀ xs : Array Keyed} {σ : Nat → Nat} (r : Rep a₀ xs σ) {k : Nat} (h : k < a₀.size) : K xs k = K a₀ (σ k) := K_congr (r k h).2
/-- the first k items stand in order, those of one key as they came; the others stand as they stood -/
noncomputable def Stb (a₀ xs : Array Keyed) (k : Nat) : Prop :=
  ∃ σ, Rep a₀ xs σ ∧ (∀ i j, i < j → j < k → Lx a₀ (σ i) (σ j)) ∧ (∀ i, i < k → σ i < k) ∧ (∀ i, k ≤ i → σ i = i)
theorem Stb.one (a₀ : Array Keyed) : Stb a₀ a₀ 1 :=
  ⟨fun i => i, fun k h => ⟨h, rfl⟩, fun i j h1 h2 => by omega, fun i h => h, fun _ _ => rfl⟩
theorem Stb.sorted {a₀ xs : Array Keyed} {k : Nat} (s : Stb a₀ xs k) (hk : k ≤ a₀.size) : SortedTo xs k := by
  obtain ⟨σ, r, o, _, _⟩ := s
  intro i j hij hj
  rw [r.K (by omega), r.K (by omega)]
  rcases Nat.lt_or_ge i j with q | q
  · rcases o i j q hj with h | h
    · exact Int.le_of_lt h
    · exact Int.le_of_eq h.1
  · have : i = j := by omega
    rw [this]; exact Int.le_refl _
theorem Stb.ext {a₀ xs : Array Keyed} {a n : Nat} (s : Stb a₀ xs a) (hs : SortedTo xs n) (han : a ≤ n) (hn : n ≤ a₀.size) : Stb a₀ xs n := by
  obtain ⟨σ, r, o, b, t⟩ := s
  refine ⟨σ, r, fun i j hij hj => ?_, fun i hi => ?_, fun i hi => t i (by omega)⟩
  · rcases Nat.lt_or_ge j a with q | q
    · exact o i j hij q
    · have hk := hs i j (by omega) hj
      rw [r.K (by omega), r.K (by omega)] at hk
      have ej := t j q
      have hi : σ i < σ j := by
        rcases Nat.lt_or_ge i a with p | p
        · have := b i p; omega
        · have := t i p; omega
      unfold Lx
      omega
  · rcases Nat.lt_or_ge i a with p | p
    · have := b i p; omega
    · have := t i p; omega
section
variable {prog : Program} {w : World} {A : Around} {E : Value → Shared → Prop} {s : Shared} {a₀ : Array Keyed}
theorem st_insert {xs : Array Keyed} {k l : Nat} (s : Stb a₀ xs k) (hsz : xs.size = a₀.size) (hk : k < a₀.size) (hlk : l ≤ k) (hlo : ∀ i, i < l → K xs i ≤ K xs k) (hhi : ∀ i, l ≤ i → i < k → K xs k < K xs i) :
    Stb a₀ (bubble xs k (k - l)) (k + 1) := by
  obtain ⟨σ, r, o, b, t⟩ := s
  have ek := t k (Nat.le_refl _)
  have Kk : K xs k = K a₀ k := by rw [r.K hk, ek]
  refine ⟨fun i => if i = l then σ k else if l < i ∧ i ≤ k then σ (i - 1) else σ i, fun i hi => ?_, fun i j hij hj => ?_, fun i hi => ?_, fun i hi => ?_⟩
  · have e := getElem?_bubble (xs := xs) (src := k) (by omega) (k - l) (by omega) i
    rw [show k - (k - l) = l by omega] at e
    try dsimp only
    rw [e]
    repeat' split
    · exact r k hk
    · exact r (i - 1) (by omega)
    · exact r i hi
  · have lo : ∀ i, i < l → Lx a₀ (σ i) (σ k) := fun i hi => by
      have h := hlo i hi
      have := b i (by omega)
      rw [Kk, r.K (by omega)] at h
      unfold Lx
      rw [ek]
      omega
    have hi' : ∀ i, l ≤ i → i < k → Lx a₀ (σ k) (σ i) := fun i h1 h2 => by
      have h := hhi i h1 h2
      rw [Kk, r.K (by omega)] at h
      unfold Lx
      rw [ek]
      exact .inl h
    try dsimp only
    repeat' split
    all_goals first
      | (exfalso; omega)
      | exact lo _ (by omega)
      | exact hi' _ (by omega) (by omega)
      | exact o _ _ (by omega) (by omega)
  · try dsimp only
    repeat' split
    · omega
    · have := b (i - 1) (by omega); omega
    · have := b i (by omega); omega
  · try dsimp only
    repeat' split
    · omega
    · omega
    · exact t i (by omega)
theorem st_binarySort {st : SortSt} {n ok : Nat} {Q : Bool → SortSt → Prop} (h0 : IntKeys a₀) (hn : n ≤ a₀.size) (h1 : 1 ≤ ok) (hok : ok ≤ n) (hB : SBase a₀ st) (hs : Stb a₀ (arrOf st) ok)
    (h : ∀ st', SBase a₀ st' → Stb a₀ (arrOf st') n → Q true st') : wpS (model prog w) A E s (binarySort' 0 n ok) Q st := by
  rw [binarySort'_eq]
  simp only [Nat.zero_add]
  refine wpS_bind (wpS_mono (wpS_forRange (I := fun k c st' => c = (none, ()) ∧ SBase a₀ st' ∧ Stb a₀ (arrOf st') (min k n))
    (Q := fun c st' => c = (none, ()) ∧ SBase a₀ st' ∧ Stb a₀ (arrOf st') n) ?step ?fin ?init) ?post)
  case post =>
    rintro c st' ⟨rfl, hB', hs'⟩
    exact wpS_pure (h st' hB' hs')
  case init =>
    refine ⟨rfl, hB, ?_⟩
    rw [show min (max ok 1) n = ok by omega]
    exact hs
  case fin =>
    rintro c st' ⟨hc, hB', hs'⟩
    refine ⟨hc, hB', ?_⟩
    rwa [show min (max (max ok 1) n) n = n by omega] at hs'
  case step =>
    rintro k c st' hak hkn ⟨rfl, hB', hst⟩
    rw [show min k n = k by omega] at hst
    have hk : k < a₀.size := by omega
    have hs' := hst.sorted (by omega)
    refine wpS_bind (wpS_mono (wpS_forRange (I := fun x c st'' => st'' = st' ∧ ∃ l r, c = (none, l, r) ∧ l ≤ r ∧ r ≤ k ∧ r - l ≤ k - x ∧
        (∀ i, i < l → K (arrOf st') i ≤ K (arrOf st') k) ∧ (∀ i, r ≤ i → i < k → K (arrOf st') k < K (arrOf st') i))
      (Q := fun c st'' => st'' = st' ∧ ∃ l r, c = (none, l, r) ∧ l ≤ k ∧
        (∀ i, i < l → K (arrOf st') i ≤ K (arrOf st') k) ∧ (∀ i, l ≤ i → i < k → K (arrOf st') k < K (arrOf st') i)) ?istep ?ifin ?iinit) ?ipost)
    case iinit => exact ⟨rfl, 0, k, rfl, by omega, by omega, by omega, fun i hi => by omega, fun i h1 h2 => by omega⟩
    case ifin =>
      rintro c st'' ⟨rfl, l, r, rfl, hlr, hrk, hm, hlo, hhi⟩
      have : l = r := by omega
      subst this
      exact ⟨rfl, l, l, rfl, hrk, hlo, hhi⟩
    case istep =>
      rintro x c st'' _ hxk ⟨rfl, l, r, rfl, hlr, hrk, hm, hlo, hhi⟩
      try dsimp only
      by_cases hge : l ≥ r
      · rw [if_pos hge]
        have : l = r := by omega
        subst this
        exact wpS_pure ⟨rfl, l, l, rfl, hrk, hlo, hhi⟩
      · rw [if_neg hge]
        refine wpS_bind (wpS_ltK hB' h0 hk (by omega) ?_)
        by_cases hless : K (arrOf st'') k < K (arrOf st'') ((l + r) / 2)
        · simp only [hless, decide_true, if_true]
          refine wpS_pure ⟨rfl, l, (l + r) / 2, rfl, by omega, by omega, by omega, hlo, fun i h1 h2 => ?_⟩
          exact Int.lt_of_lt_of_le hless (hs' _ _ h1 h2)
        · simp only [hless, decide_false, Bool.false_eq_true, if_false]
          refine wpS_pure ⟨rfl, (l + r) / 2 + 1, r, rfl, by omega, by omega, by omega, fun i h1 => ?_, hhi⟩
          exact Int.le_trans (hs' i ((l + r) / 2) (by omega) (by omega)) (Int.not_lt.mp hless)
    case ipost =>
      rintro c st'' ⟨rfl, l, r, rfl, hlk, hlo, hhi⟩
      show wpS _ _ _ _ (do moveDown' k l; pure (ForInStep.yield (none, ()))) _ _
      rw [moveDown'_eq]
      refine wpS_bind (wpS_modify (wpS_pure ⟨rfl, hB'.setArr (bubble_perm _ _ _), ?_⟩))
      rw [show min (k + 1) n = k + 1 by omega]
      exact st_insert hst hB'.size hk hlk hlo hhi
/-- a falling run: groups of one key, the last of neq + 1 items not turned yet -/
noncomputable def Dsc (a₀ xs : Array Keyed) (x neq : Nat) : Prop :=
  neq + 1 ≤ x ∧ ∃ σ, Rep a₀ xs σ ∧ (∀ i, x ≤ i → σ i = i) ∧ (∀ i, i < x → σ i < x) ∧ (∀ i j, i < j → j < x - (neq + 1) → Lx a₀ (σ j) (σ i)) ∧
    (∀ i j, i < x - (neq + 1) → x - (neq + 1) ≤ j → j < x → K a₀ (σ j) < K a₀ (σ i)) ∧ (∀ i, x - (neq + 1) ≤ i → i < x → σ i = i ∧ K a₀ i = K a₀ (x - 1))
/-- a falling run, all groups turned -/
noncomputable def Fal (a₀ xs : Array Keyed) (x : Nat) : Prop :=
  ∃ σ, Rep a₀ xs σ ∧ (∀ i, x ≤ i → σ i = i) ∧ (∀ i, i < x → σ i < x) ∧ (∀ i j, i < j → j < x → Lx a₀ (σ j) (σ i))
theorem rep_mirror {xs : Array Keyed} {σ : Nat → Nat} (r : Rep a₀ xs σ) (hsz : xs.size = a₀.size) {i j : Nat} (hj : j ≤ a₀.size) :
    Rep a₀ (mirror xs i j ((j - i) / 2)) (fun k => if i ≤ k ∧ k < j then σ (i + j - 1 - k) else σ k) := by
  intro k hk
  have e := getElem?_mirror_all (xs := xs) (i := i) (j := j) (by omega) k
  try dsimp only
  rw [e]
  split
  · exact r _ (by omega)
  · exact r k hk
theorem Dsc.turn {xs ys : Array Keyed} {x neq : Nat} (d : Dsc a₀ xs x neq) (hsz : xs.size = a₀.size) (hx : x ≤ a₀.size) (hy : (neq = 0 ∧ ys = xs) ∨ ys = mirror xs (x - (neq + 1)) x ((x - (x - (neq + 1))) / 2)) :
    ∃ σ, Rep a₀ ys σ ∧ (∀ i, x ≤ i → σ i = i) ∧ (∀ i, i < x → σ i < x) ∧ (∀ i j, i < j → j < x → Lx a₀ (σ j) (σ i)) ∧ (∀ i, i < x → K a₀ (x - 1) ≤ K a₀ (σ i)) := by
  obtain ⟨hq, σ, r, t, b, o, g, c⟩ := d
  have last : ∀ i, i < x → K a₀ (x - 1) ≤ K a₀ (σ i) := fun i hi => by
    rcases Nat.lt_or_ge i (x - (neq + 1)) with p | p
    · have h := g i (x - 1) p (by omega) (by omega)
      rw [(c (x - 1) (by omega) (by omega)).1] at h
      exact Int.le_of_lt h
    · rw [(c i p hi).1, (c i p hi).2]
      exact Int.le_refl _
  rcases hy with ⟨rfl, rfl⟩ | rfl
  · refine ⟨σ, r, t, b, fun i j hij hj => ?_, last⟩
    rcases Nat.lt_or_ge j (x - (0 + 1)) with p | p
    · exact o i j hij p
    · exact .inl (g i j (by omega) p hj)
  · refine ⟨_, rep_mirror r hsz hx, fun i hi => ?_, fun i hi => ?_, fun i j hij hj => ?_, fun i hi => ?_⟩
    · try dsimp only
      rw [if_neg (by omega)]
      exact t i hi
    · try dsimp only
      split
      · exact b _ (by omega)
      · exact b _ hi
    · try dsimp only
      rcases Nat.lt_or_ge j (x - (neq + 1)) with p | p
      · rw [if_neg (by omega), if_neg (by omega)]
        exact o i j hij p
      · rw [if_pos ⟨p, hj⟩]
        rcases Nat.lt_or_ge i (x - (neq + 1)) with q | q
        · rw [if_neg (by omega)]
          exact .inl (g i _ q (by omega) (by omega))
        · rw [if_pos ⟨q, by omega⟩]
          have c1 := c (x - (neq + 1) + x - 1 - j) (by omega) (by omega)
          have c2 := c (x - (neq + 1) + x - 1 - i) (by omega) (by omega)
          rw [c1.1, c2.1]
          exact .inr ⟨c1.2.trans c2.2.symm, by omega⟩
    · try dsimp only
      split
      · exact last _ (by omega)
      · exact last _ hi
theorem Dsc.down {xs ys : Array Keyed} {x neq : Nat} (d : Dsc a₀ xs x neq) (hsz : xs.size = a₀.size) (hx : x < a₀.size) (hy : (neq = 0 ∧ ys = xs) ∨ ys = mirror xs (x - (neq + 1)) x ((x - (x - (neq + 1))) / 2)) (hl : K xs x < K xs (x - 1)) :
    Dsc a₀ ys (x + 1) 0 := by
  have hl' : K a₀ x < K a₀ (x - 1) := by
    obtain ⟨hq, σ, r, t, b, o, g, c⟩ := d
    rw [r.K hx, r.K (by omega), t x (Nat.le_refl _), (c (x - 1) (by omega) (by omega)).1] at hl
    exact hl
  obtain ⟨σ, r, t, b, o, l⟩ := d.turn hsz (by omega) hy
  refine ⟨by omega, σ, r, fun i hi => t i (by omega), fun i hi => ?_, fun i j hij hj => o i j hij (by omega), fun i j hi hj hjx => ?_, fun i hi hix => ?_⟩
  · rcases Nat.lt_or_ge i x with p | p
    · have := b i p; omega
    · have := t i p; omega
  · have : j = x := by omega
    subst this
    rw [t j (Nat.le_refl _)]
    have := l i (by omega)
    omega
  · have : i = x := by omega
    subst this
    exact ⟨t i (Nat.le_refl _), by rw [Nat.add_sub_cancel]⟩
theorem Dsc.same {xs : Array Keyed} {x neq : Nat} (d : Dsc a₀ xs x neq) (hx : x < a₀.size) (he : K xs x = K xs (x - 1)) : Dsc a₀ xs (x + 1) (neq + 1) := by
  obtain ⟨hq, σ, r, t, b, o, g, c⟩ := d
  have c1 := c (x - 1) (by omega) (by omega)
  rw [r.K hx, r.K (by omega), t x (Nat.le_refl _), c1.1] at he
  have e : x + 1 - (neq + 1 + 1) = x - (neq + 1) := by omega
  rw [Dsc, e]
  refine ⟨by omega, σ, r, fun i hi => t i (by omega), fun i hi => ?_, o, fun i j hi hj hjx => ?_, fun i hi hix => ?_⟩
  · rcases Nat.lt_or_ge i x with p | p
    · have := b i p; omega
    · have := t i p; omega
  · rcases Nat.lt_or_ge j x with p | p
    · exact g i j hi hj p
    · have : j = x := by omega
      subst this
      rw [t j (Nat.le_refl _), he]
      have := g i (j - 1) hi (by omega) (by omega)
      rwa [c1.1] at this
  · rw [Nat.add_sub_cancel]
    rcases Nat.lt_or_ge i x with p | p
    · exact ⟨(c i hi p).1, (c i hi p).2.trans he.symm⟩
    · have : i = x := by omega
      subst this
      exact ⟨t i (Nat.le_refl _), rfl⟩
theorem st_descLoop {st : SortSt} {n nrem : Nat} {Q : DescSt → SortSt → Prop} (h0 : IntKeys a₀) (hn : nrem ≤ a₀.size) (h1 : 1 ≤ n) (hnn : n ≤ nrem) (hB : SBase a₀ st) (hs : Dsc a₀ (arrOf st) n 0)
    (h : ∀ m neq st', SBase a₀ st' → n ≤ m → m ≤ nrem → Dsc a₀ (arrOf st') m neq → Q (none, m, neq) st') : wpS (model prog w) A E s (descLoop n nrem) Q st := by
  unfold descLoop
  refine wpS_forRange (I := fun x c st' => ∃ neq, c = (none, x, neq) ∧ SBase a₀ st' ∧ Dsc a₀ (arrOf st') x neq) ?step ?fin ⟨0, rfl, hB, hs⟩
  case fin =>
    rintro c st' ⟨neq, rfl, hB', hs'⟩
    rw [show max n nrem = nrem by omega] at hs' ⊢
    exact h nrem neq st' hB' hnn (Nat.le_refl _) hs'
  case step =>
    rintro x c st' hax hxn ⟨neq, rfl, hB', hs'⟩
    try dsimp only
    refine wpS_bind (wpS_ltK hB' h0 (by omega) (by omega) ?_)
    by_cases hless : K (arrOf st') x < K (arrOf st') (x - 1)
    · simp only [hless, decide_true, if_true]
      by_cases hneq : neq > 0
      · rw [if_pos hneq]
        exact wpS_bind (wpS_reverse (wpS_pure ⟨0, rfl, hB'.setArr (mirror_perm _ _ _ _), hs'.down hB'.size (by omega) (.inr rfl) hless⟩))
      · rw [if_neg hneq]
        exact wpS_pure ⟨0, rfl, hB', hs'.down hB'.size (by omega) (.inl ⟨by omega, rfl⟩) hless⟩
    · simp only [hless, decide_false, Bool.false_eq_true, if_false]
      refine wpS_bind (wpS_ltK hB' h0 (by omega) (by omega) ?_)
      by_cases hlarger : K (arrOf st') (x - 1) < K (arrOf st') x
      · simp only [hlarger, decide_true, if_true]
        exact wpS_pure (h x neq st' hB' hax (by omega) hs')
      · simp only [hlarger, decide_false, Bool.false_eq_true, if_false]
        exact wpS_pure ⟨neq + 1, rfl, hB', hs'.same (by omega) (by omega)⟩
theorem st_tail3 {st : SortSt} {n nrem : Nat} {Q : Option Nat → SortSt → Prop} (h0 : IntKeys a₀) (hn : nrem ≤ a₀.size) (h1 : 1 ≤ n) (hnn : n ≤ nrem) (hB : SBase a₀ st)
    (hs : Fal a₀ (arrOf st) n) (h : ∀ m st', SBase a₀ st' → 1 ≤ m → m ≤ nrem → Stb a₀ (arrOf st') m → Q (some m) st') :
    wpS (model prog w) A E s (tail3 n nrem) Q st := by
  unfold tail3
  have hsz : (arrOf st).size = a₀.size := hB.size
  refine wpS_bind (wpS_reverse ?_)
  have hB' : SBase a₀ (setArr st (mirror (arrOf st) 0 n ((n - 0) / 2))) := hB.setArr (mirror_perm _ _ _ _)
  have hS : Stb a₀ (mirror (arrOf st) 0 n ((n - 0) / 2)) n := by
    obtain ⟨σ, r, t, b, o⟩ := hs
    refine ⟨_, rep_mirror r hsz (by omega), fun i j hij hj => ?_, fun i hi => ?_, fun i hi => ?_⟩
    · try dsimp only
      rw [if_pos (by omega), if_pos (by omega)]
      exact o _ _ (by omega) (by omega)
    · try dsimp only
      rw [if_pos (by omega)]
      exact b _ (by omega)
    · try dsimp only
      rw [if_neg (by omega)]
      exact t i hi
  exact wpS_bind (wpS_ascLoop h0 hn h1 hnn hB' (hS.sorted (by omega)) fun m hm1 hm2 hsm _ => wpS_pure (h m _ hB' (by omega) hm2 (hS.ext hsm hm1 (by omega))))
theorem st_descPart {st : SortSt} {n nrem : Nat} {Q : Option Nat → SortSt → Prop} (h0 : IntKeys a₀) (hn : nrem ≤ a₀.size) (hnn : n + 1 ≤ nrem) (hB : SBase a₀ st)
    (hs : Dsc a₀ (arrOf st) (n + 1) 0) (h : ∀ m st', SBase a₀ st' → 1 ≤ m → m ≤ nrem → Stb a₀ (arrOf st') m → Q (some m) st') :
    wpS (model prog w) A E s (descPart n nrem) Q st := by
  unfold descPart
  refine wpS_bind (wpS_lift (wpAny_rule ⟨rfl, ?_⟩))
  refine wpS_bind (st_descLoop h0 hn (by omega) hnn hB hs fun m neq st' hB' hm1 hm2 hd => ?_)
  try dsimp only
  have hsz : (arrOf st').size = a₀.size := hB'.size
  by_cases hneq : neq > 0
  · rw [if_pos hneq]
    refine wpS_bind (wpS_reverse (st_tail3 h0 hn (by omega) hm2 (hB'.setArr (mirror_perm _ _ _ _)) ?_ h))
    obtain ⟨σ, r, t, b, o, _⟩ := hd.turn hsz (by omega) (.inr rfl)
    exact ⟨σ, r, t, b, o⟩
  · rw [if_neg hneq]
    refine st_tail3 h0 hn (by omega) hm2 hB' ?_ h
    obtain ⟨σ, r, t, b, o, _⟩ := hd.turn hsz (by omega) (.inl ⟨by omega, rfl⟩)
    exact ⟨σ, r, t, b, o⟩
theorem st_countRun {st : SortSt} {nrem : Nat} {Q : Option Nat → SortSt → Prop} (h0 : IntKeys a₀) (hn : nrem ≤ a₀.size) (h1 : 1 ≤ nrem) (hB : SBase a₀ st) (ha : arrOf st = a₀)
    (h : ∀ m st', SBase a₀ st' → 1 ≤ m → m ≤ nrem → Stb a₀ (arrOf st') m → Q (some m) st') :
    wpS (model prog w) A E s (countRun' 0 nrem) Q st := by
  rw [countRun0_eq]
  have S1 : Stb a₀ (arrOf st) 1 := by rw [ha]; exact Stb.one a₀
  refine wpS_bind (wpS_ascLoop h0 hn (Nat.le_refl 1) h1 hB (S1.sorted (by omega)) fun n hn1 hn2 hsn hor => ?_)
  try dsimp only
  have Sn := S1.ext hsn hn1 (by omega)
  by_cases hnn : n = nrem
  · rw [if_pos (by simpa using hnn)]
    exact wpS_pure (h n st hB hn1 hn2 Sn)
  · rw [if_neg (by simpa using hnn)]
    have hlt : K (arrOf st) n < K (arrOf st) (n - 1) := hor.resolve_left hnn
    by_cases hgt : n > 1
    · rw [if_pos hgt]
      refine wpS_bind (wpS_ltK hB h0 (by omega) (by omega) ?_)
      by_cases hrose : K (arrOf st) 0 < K (arrOf st) (n - 1)
      · simp only [hrose, decide_true, if_true]
        exact wpS_pure (h n st hB hn1 hn2 Sn)
      · simp only [hrose, decide_false, Bool.false_eq_true, if_false]
        have hsz : (arrOf st).size = a₀.size := hB.size
        have hall : ∀ k, k < n → K a₀ k = K a₀ (n - 1) := by
          intro k hk
          rw [← ha]
          have a1 := hsn 0 k (by omega) hk
          have a2 := hsn k (n - 1) (by omega) (by omega)
          omega
        refine wpS_bind (wpS_reverse (st_descPart h0 hn (by omega) (hB.setArr (mirror_perm _ _ _ _)) ?_ h))
        have r0 : Rep a₀ (arrOf st) (fun i => i) := fun k hk => ⟨hk, by rw [ha]⟩
        refine ⟨by omega, _, rep_mirror r0 hsz (i := 0) (j := n) (by omega), fun i hi => ?_, fun i hi => ?_, fun i j hij hj => ?_, fun i j hi hj hjx => ?_, fun i hi hix => ?_⟩
        · try dsimp only
          rw [if_neg (by omega)]
        · try dsimp only
          split <;> omega
        · try dsimp only
          rw [if_pos (by omega), if_pos (by omega)]
          exact .inr ⟨(hall _ (by omega)).trans (hall _ (by omega)).symm, by omega⟩
        · try dsimp only
          have : j = n := by omega
          subst this
          have e1 := hall (0 + j - 1 - i) (by omega)
          rw [ha] at hlt
          have f1 : ¬ (0 ≤ j ∧ j < j) := by omega
          have f2 : 0 ≤ i ∧ i < j := by omega
          rw [if_neg f1, if_pos f2, e1]
          exact hlt
        · try dsimp only
          have : i = n := by omega
          subst this
          rw [if_neg (by omega), Nat.add_sub_cancel]
          exact ⟨rfl, rfl⟩
    · rw [if_neg hgt]
      have hn1' : n = 1 := by omega
      subst hn1'
      refine st_descPart h0 hn (by omega) hB ?_ h
      refine ⟨by omega, fun i => i, fun k hk => ⟨hk, by rw [ha]⟩, fun _ _ => rfl, fun i hi => hi, fun i j hij hj => by omega, fun i j hi hj hjx => ?_, fun i hi hix => ⟨rfl, ?_⟩⟩
      · have e1 : i = 0 := by omega
        have e2 : j = 1 := by omega
        subst e1 e2
        rw [ha] at hlt
        exact hlt
      · have : i = 1 := by omega
        rw [this]
theorem st_sortRuns {st : SortSt} {Q : Unit → SortSt → Prop} (h0 : IntKeys a₀) (hB : SBase a₀ st) (ha : arrOf st = a₀) (h2 : 2 ≤ a₀.size) (h64 : a₀.size < 64)
    (h : ∀ st', (arrOf st').Perm a₀ → failedOf st' = none → Stb a₀ (arrOf st') a₀.size → Q () st') : wpS (model prog w) A E s sortRuns' Q st := by
  rw [sortRuns'_eq]
  refine wpS_bind (wpS_get ?_)
  try dsimp only
  have hmr : minRun' a₀.size a₀.size 0 = a₀.size := by
    obtain ⟨f, hf⟩ : ∃ f, a₀.size = f + 1 := ⟨a₀.size - 1, by omega⟩
    have : minRun' (f + 1) a₀.size 0 = a₀.size := by rw [minRun'_succ, if_pos h64]; rfl
    rwa [← hf] at this
  simp only [hB.size, hmr]
  let D : SortSt → Prop := fun st => (arrOf st).Perm a₀ ∧ failedOf st = none ∧ pendingOf st = #[(0, a₀.size, 0)] ∧ Stb a₀ (arrOf st) a₀.size
  have mk : ∀ st', SBase a₀ st' → Stb a₀ (arrOf st') a₀.size → D (setPending st' ((pendingOf st').push (0, a₀.size, 0))) := fun st' hB hs =>
    ⟨hB.perm, hB.failed, by show (pendingOf st').push _ = _; rw [hB.pend]; rfl, hs⟩
  refine wpS_bind (wpS_mono (wpS_forRange
    (I := fun x c st' => (x = 0 ∧ c = (none, 0) ∧ SBase a₀ st' ∧ arrOf st' = a₀) ∨ (1 ≤ x ∧ c = (none, a₀.size) ∧ D st'))
    (Q := fun c st' => c = (none, a₀.size) ∧ D st') ?step ?fin (.inl ⟨rfl, rfl, hB, ha⟩)) ?post)
  case fin =>
    rintro c st' (⟨hx, _, _⟩ | ⟨_, hc, hD⟩)
    · omega
    · exact ⟨hc, hD⟩
  case step =>
    rintro x c st' _ hx (⟨rfl, rfl, hB', ha'⟩ | ⟨hx1, rfl, hD⟩)
    · try dsimp only
      rw [if_neg (by omega)]
      simp only [Nat.sub_zero, Nat.min_self, Nat.zero_add]
      refine wpS_bind (st_countRun h0 (Nat.le_refl _) (by omega) hB' ha' fun m st2 hB2 hm1 hm2 hs2 => ?_)
      try dsimp only
      by_cases hlt : m < a₀.size
      · rw [if_pos hlt]
        refine wpS_bind (wpS_lift (wpAny_rule ⟨rfl, ?_⟩))
        refine wpS_bind (st_binarySort h0 (Nat.le_refl _) hm1 hm2 hB2 hs2 fun st3 hB3 hs3 => ?_)
        simp only [Bool.not_true, Bool.false_eq_true, if_false]
        refine wpS_bind (wpS_get ?_)
        have hb : (pendingOf st3).back? = none := by rw [hB3.pend]; rfl
        rw [hb]
        try dsimp only
        exact wpS_bind (wpS_modify (wpS_pure (.inr ⟨by omega, rfl, mk _ hB3 hs3⟩)))
      · rw [if_neg hlt]
        have hm : m = a₀.size := by omega
        subst hm
        refine wpS_bind (wpS_get ?_)
        have hb : (pendingOf st2).back? = none := by rw [hB2.pend]; rfl
        rw [hb]
        try dsimp only
        exact wpS_bind (wpS_modify (wpS_pure (.inr ⟨by omega, rfl, mk _ hB2 hs2⟩)))
    · try dsimp only
      rw [if_pos (Nat.le_refl _)]
      exact wpS_pure ⟨rfl, hD⟩
  case post =>
    rintro c st' ⟨rfl, hD⟩
    try dsimp only
    refine wpS_bind (wpS_mono (wpS_forRange (I := fun _ c st'' => st'' = st' ∧ c = (none, ())) (Q := fun c st'' => st'' = st' ∧ c = (none, ())) ?_ (fun _ _ hh => hh) ⟨rfl, rfl⟩) ?_)
    · rintro x c st'' _ _ ⟨rfl, rfl⟩
      refine wpS_bind (wpS_get ?_)
      rw [if_pos (by rw [hD.2.2.1]; exact Nat.le_refl 1)]
      exact wpS_pure ⟨rfl, rfl⟩
    · rintro c st'' ⟨rfl, rfl⟩
      exact wpS_pure (h _ hD.1 hD.2.1 hD.2.2.2)
end
end
end Mine
end
section
namespace Mine
section
open PySem PySem.W PySem.Calls PyProof.Rows PySem.Spec
set_option linter.all false
set_option maxRecDepth 100000
set_option maxHeartbeats 4000000
theorem perm_of_nodup : ∀ {a b : List Nat}, a.Nodup → (∀ x ∈ a, x ∈ b) → b.length ≤ a.length → a.Perm b
  | [], b, _, _, hl => by
    have : b = [] := List.eq_nil_of_length_eq_zero (by simpa using hl)
    rw [this]
  | x :: r, b, hn, hs, hl => by
    obtain ⟨h1, h2⟩ := List.nodup_cons.mp hn
    have hx : x ∈ b := hs x (List.mem_cons_self ..)
    have hp := List.perm_cons_erase hx
    have hle : (b.erase x).length = b.length - 1 := List.length_erase_of_mem hx
    have ih := perm_of_nodup (a := r) (b := b.erase x) h2 (fun y hy => by
      have hne : y ≠ x := fun e => h1 (e ▸ hy)
      exact (List.mem_erase_of_ne hne).mpr (hs y (List.mem_cons_of_mem _ hy))) (by rw [List.length_cons] at hl; omega)
    exact (ih.cons x).trans hp.symm
/-- what a stable sort of vs by the keys kz gives -/
noncomputable def StOut (kz : List Int) (vs out : List Value) : Prop :=
  ∃ is : List Nat, out.length = is.length ∧ (∀ (j i : Nat), is[j]? = some i → out[j]? = vs[i]?) ∧ is.Perm (List.range vs.length) ∧ is.Pairwise (fun i j => kz.getD i 0 < kz.getD j 0 ∨ (kz.getD i 0 = kz.getD j 0 ∧ i < j))
theorem K_zip {keys : Array Value} {vs : List Value} {kz : List Int} (hk : IntsAre keys.toList kz) (hlen : kz.length = vs.length) {i : Nat} (hi : i < vs.length) : K (keys.zip vs.toArray) i = kz.getD i 0 := by
  have hi2 : i < kz.length := by omega
  obtain ⟨t, e⟩ := hk.get i kz[i] (List.getElem?_eq_getElem hi2)
  have hz : (keys.zip vs.toArray)[i]? = some (.int kz[i] t, vs[i]) := by
    have h1 : (keys.zip vs.toArray).toList[i]? = some (.int kz[i] t, vs[i]) := by
      rw [ksk_zip, List.getElem?_zip_eq_some]
      exact ⟨e, List.getElem?_eq_getElem hi⟩
    rwa [Array.getElem?_toList] at h1
  unfold K
  rw [hz]
  show kz[i] = _
  rw [List.getD_eq_getElem?_getD, List.getElem?_eq_getElem hi2]
  rfl
theorem st_out {keys : Array Value} {vs : List Value} {kz : List Int} (hk : IntsAre keys.toList kz) (hlen : kz.length = vs.length) {xs : Array Keyed} (hsz : xs.size = vs.length) (hzs : (keys.zip vs.toArray).size = vs.length) (hs : Stb (keys.zip vs.toArray) xs vs.length) :
    StOut kz vs (xs.map (·.2)).toList := by
  obtain ⟨σ, r, o, b, t⟩ := hs
  have at_ : ∀ k, k < vs.length → σ k < vs.length ∧ (xs.map (·.2))[k]? = vs[σ k]? := fun k hk2 => by
    have h1 := r k (by rw [hzs]; exact hk2)
    rw [hzs] at h1
    refine ⟨h1.1, ?_⟩
    rw [Array.getElem?_map, h1.2]
    have h2 : (keys.zip vs.toArray).toList[σ k]? = (keys.toList.zip vs)[σ k]? := by rw [ksk_zip]
    rw [Array.getElem?_toList] at h2
    rw [h2]
    have h3 : σ k < keys.toList.length := by
      have := hk.length
      omega
    have h4 : (keys.toList.zip vs)[σ k]? = some (keys.toList[σ k], vs[σ k]) := by
      rw [List.getElem?_zip_eq_some]
      exact ⟨List.getElem?_eq_getElem h3, List.getElem?_eq_getElem h1.1⟩
    rw [h4, List.getElem?_eq_getElem h1.1]
    rfl
  have lx : ∀ i j, i < j → j < vs.length → kz.getD (σ i) 0 < kz.getD (σ j) 0 ∨ (kz.getD (σ i) 0 = kz.getD (σ j) 0 ∧ σ i < σ j) := fun i j hij hj => by
    have h := o i j hij hj
    unfold Lx at h
    rwa [K_zip hk hlen (at_ i (by omega)).1, K_zip hk hlen (at_ j hj).1] at h
  refine ⟨(List.range vs.length).map σ, by simp [hsz], fun j i h => ?_, ?_, ?_⟩
  · rw [List.getElem?_map] at h
    obtain ⟨a, ha, rfl⟩ := Option.map_eq_some_iff.mp h
    have hj : j < vs.length := by
      have := (List.getElem?_eq_some_iff.mp ha).1
      simpa using this
    have e : a = j := by
      rw [List.getElem?_range hj] at ha
      exact (Option.some.inj ha).symm
    subst e
    have := (at_ a hj).2
    rwa [← Array.getElem?_toList] at this
  · refine perm_of_nodup ?_ (fun x hx => ?_) (by simp)
    · rw [List.nodup_iff_pairwise_ne, List.pairwise_map]
      refine (List.pairwise_lt_range).imp_of_mem fun {i j} hi hj hij e => ?_
      have := lx i j hij (List.mem_range.mp hj)
      rw [e] at this
      omega
    · obtain ⟨i, hi, rfl⟩ := List.mem_map.mp hx
      exact List.mem_range.mpr (at_ i (List.mem_range.mp hi)).1
  · rw [List.pairwise_map]
    exact (List.pairwise_lt_range).imp_of_mem fun {i j} hi hj hij => lx i j hij (List.mem_range.mp hj)
section
variable {prog : Program} {w : World} {A : Around} {E : Value → Shared → Prop} {s : Shared} {h₀ : Heap} {L : Addr} {m : Str → Option Value} {news : List (Addr × Obj)} {a kS : Addr} {vs : List Value} {kz : List Int} {keys : Array Value} {e e1 : Nat} {P : PySem.Fin → Shared → Prop}
theorem sk_tail {st : SortSt} (F : Fr h₀ L s.heap m) (N : News h₀ L s.heap (news ++ [(kS, seqObj "list" keys e), (a, seqObj "list" #[] e1)])) (hka : kS ≠ a) (hnk : ∀ p ∈ news, p.1 ≠ kS) (hna : ∀ p ∈ news, p.1 ≠ a)
    (hk : IntsAre keys.toList kz) (hlen : kz.length = vs.length) (h64 : vs.length < 64) (hp : (arrOf st).size = vs.length) (hs : Stb (keys.zip vs.toArray) (arrOf st) vs.length) (hfl : failedOf st = none)
    (h : ∀ h' tk out c, Fr h₀ L h' m → News h₀ L h' ((a, seqObj "list" out c) :: news) → StOut kz vs out.toList → P (.done (.ret .none)) { s with heap := h', toks := tk }) :
    wpAny (model prog w) A (ksk_tail a false e1 (.ref kS) st) P E s := by
  have nk := N (kS, seqObj "list" keys e) (List.mem_append_right _ (.head _))
  have na := N (a, seqObj "list" #[] e1) (List.mem_append_right _ (.tail _ (.head _)))
  have Nn : News h₀ L s.heap news := fun p hp => N p (List.mem_append_left _ hp)
  have hsz : keys.size = vs.length := by
    have h1 := hk.length
    rw [Array.length_toList] at h1
    omega
  have hzs : (keys.zip vs.toArray).size = vs.length := by rw [Array.size_zip, hsz, List.size_toArray, Nat.min_self]
  have hout : ((arrOf st).map (·.2)).size = vs.length := by
    rw [Array.size_map]
    exact hp
  have s1 := Heap.SameBut.update s.heap kS (Obj.mapSeq fun _ => (#[] : Array Value))
  have na1 : (s.heap.update kS (Obj.mapSeq fun _ => (#[] : Array Value))).get? a = some (seqObj "list" #[] e1) := (s1.2 a hka.symm).trans na.1
  have s2 := Heap.SameBut.update (s.heap.update kS (Obj.mapSeq fun _ => (#[] : Array Value))) a (Obj.mapSeq fun _ => (arrOf st).map (·.2))
  obtain ⟨c2, hc2⟩ : ∃ c2, ((s.heap.update kS (Obj.mapSeq fun _ => (#[] : Array Value))).update a (Obj.mapSeq fun _ => (arrOf st).map (·.2))).get? a = some (seqObj "list" ((arrOf st).map (·.2)) c2) :=
    ⟨_, get?_update_seq na1 fun _ => (arrOf st).map (·.2)⟩
  have N2 := ksk_news (ksk_news Nn s1 hnk) s2 hna
  unfold ksk_tail
  try dsimp only
  refine wpAny_bind (listUpdate_at nk.1 rfl ?_ (by rw [hsz, sizeLine_eq]; omega) (Nat.zero_le _))
  refine wpAny_bind (wpAny_letGo ?_)
  refine wpAny_bind (seqEpoch_at na1 rfl ?_)
  refine wpAny_bind (listUpdate_at na1 rfl ?_ (Nat.zero_le _) (Nat.le_trans (Nat.le_of_eq hout) (by rw [sizeLine_eq]; omega)))
  rw [hfl]
  simp only [bne_self_eq_false, Bool.false_eq_true, if_false]
  refine wpAny_pure (h _ _ _ c2 (ksk_fr (ksk_fr F s1 nk.2.1 nk.2.2) s2 na.2.1 na.2.2) (fun p hp => ?_) (st_out hk hlen hp hzs hs))
  rcases List.mem_cons.mp hp with rfl | hp
  · exact ⟨hc2, na.2⟩
  · exact N2 p hp
theorem sk_end (F : Fr h₀ L s.heap m) (N : News h₀ L s.heap (news ++ [(kS, seqObj "list" keys e), (a, seqObj "list" #[] e1)])) (hka : kS ≠ a) (hnk : ∀ p ∈ news, p.1 ≠ kS) (hna : ∀ p ∈ news, p.1 ≠ a)
    (hk : IntsAre keys.toList kz) (hlen : kz.length = vs.length) (h64 : vs.length < 64)
    (h : ∀ h' tk out c, Fr h₀ L h' m → News h₀ L h' ((a, seqObj "list" out c) :: news) → StOut kz vs out.toList → P (.done (.ret .none)) { s with heap := h', toks := tk }) :
    wpAny (model prog w) A (ksk_end a false vs.toArray e1 (.ref kS) keys) P E s := by
  have hsz : keys.size = vs.length := by
    have h1 := hk.length
    rw [Array.length_toList] at h1
    omega
  have hzs : (keys.zip vs.toArray).size = vs.length := by rw [Array.size_zip, hsz, List.size_toArray, Nat.min_self]
  unfold ksk_end
  try dsimp only
  by_cases h2 : vs.toArray.size < 2
  · rw [if_neg (show ¬ (false = true) by decide), if_pos h2, if_pos h2]
    refine wpAny_bind (wpAny_pure ?_)
    rw [StateT.run_pure]
    refine wpAny_bind (wpAny_pure ?_)
    try dsimp only
    refine sk_tail (st := SortSt.mk' general' (keys.zip vs.toArray) #[] 7 none) F N hka hnk hna hk hlen h64 hzs ?_ rfl h
    rw [List.size_toArray] at h2
    exact ⟨fun i => i, fun k hk2 => ⟨hk2, rfl⟩, fun i j h3 h4 => by omega, fun i hi => hi, fun _ _ => rfl⟩
  · rw [if_neg (show ¬ (false = true) by decide), if_neg h2, if_neg h2]
    rw [List.size_toArray] at h2
    rw [ksk_kind hk (by rw [hsz]; omega)]
    refine wpAny_bind (wpAny_pure ?_)
    refine wpAny_bind (wpAny_mono (st_sortRuns (a₀ := keys.zip vs.toArray) (st := SortSt.mk' oneType' (keys.zip vs.toArray) #[] 7 none)
      (Q := fun _ st' => (arrOf st').Perm (keys.zip vs.toArray) ∧ failedOf st' = none ∧ Stb (keys.zip vs.toArray) (arrOf st') (keys.zip vs.toArray).size)
      (ksk_intKeys hk) ⟨Array.Perm.refl _, rfl, rfl, rfl⟩ rfl (by rw [hzs]; omega) (by rw [hzs]; exact h64) fun st' a1 a2 a3 => ⟨a1, a2, a3⟩) ?_ fun _ _ e => e)
    rintro ⟨⟨⟩, st'⟩ s' ⟨rfl, hp, hf, hs⟩
    try dsimp only
    rw [hzs] at hs
    exact sk_tail F N hka hnk hna hk hlen h64 (by rw [hp.size_eq, hzs]) hs hf h
theorem sk_rest {f : Value} (F : Fr h₀ L s.heap m) (N : News h₀ L s.heap (news ++ [(kS, seqObj "list" #[] 0), (a, seqObj "list" #[] e1)])) (hka : kS ≠ a) (hnk : ∀ p ∈ news, p.1 ≠ kS) (hna : ∀ p ∈ news, p.1 ≠ a)
    (hlen : kz.length = vs.length) (h64 : vs.length < 64)
    (turn : ∀ (i : Nat) (v : Value) (k : Int), vs[i]? = some v → kz[i]? = some k → ∀ (h : Heap) (tk : Nat) (own : List (Addr × Obj)), Fr h₀ L h m → News h₀ L h (news ++ own) →
      wpAny (model prog w) A (call f [v]) (KskEnd h₀ L m (news ++ own) k { s with heap := h, toks := tk }) (fun _ _ => False) { s with heap := h, toks := tk })
    (h : ∀ h' tk out c, Fr h₀ L h' m → News h₀ L h' ((a, seqObj "list" out c) :: news) → StOut kz vs out.toList → P (.done (.ret .none)) { s with heap := h', toks := tk }) :
    wpAny (model prog w) A (ksk_rest a f false vs.toArray e1 (.ref kS)) P E s := by
  unfold ksk_rest
  refine wpAny_bind (wpAny_rule ?_)
  first
    | rw [List.forIn_toArray]
    | (rw [← Array.forIn_toList]; simp only [List.toList_toArray])
    | rw [← Array.forIn_toList]
  refine wpAny_bind (ksk_fold (fun i s' => ∃ h' tk kA e, s' = { s with heap := h', toks := tk } ∧ Fr h₀ L h' m ∧ News h₀ L h' (news ++ [(kS, seqObj "list" kA e), (a, seqObj "list" #[] e1)]) ∧ IntsAre kA.toList (kz.take i)) vs 0 s
    ⟨s.heap, s.toks, #[], 0, rfl, F, N, by simpa using IntsAre.nil⟩ ?step ?done)
  case step =>
    rintro j x s' hx ⟨h', tk, kA, e, rfl, F', N', hk⟩
    simp only [Nat.zero_add] at hk ⊢
    have hj : j < vs.length := (List.getElem?_eq_some_iff.mp hx).1
    obtain ⟨k, hkj⟩ : ∃ k, kz[j]? = some k := ⟨_, List.getElem?_eq_getElem (by omega)⟩
    have hz : kA.size ≤ vs.length := by
      have h1 := hk.length
      rw [Array.length_toList, List.length_take] at h1
      omega
    refine wpAny_bind (wpAny_attempt (wpAny_mono (turn j x k hx hkj h' tk _ F' N') (fun v s'' he => ?_) fun _ _ hF => hF.elim))
    obtain ⟨g, tk2, t2, rfl, rfl, F2, N2⟩ := he
    try dsimp only
    have nk := N2 (kS, seqObj "list" kA e) (List.mem_append_right _ (.head _))
    have na := N2 (a, seqObj "list" #[] e1) (List.mem_append_right _ (.tail _ (.head _)))
    have s1 := Heap.SameBut.update g kS (Obj.mapSeq (·.push (.int k t2)))
    obtain ⟨c2, hc2⟩ : ∃ c2, (g.update kS (Obj.mapSeq (·.push (.int k t2)))).get? kS = some (seqObj "list" (kA.push (.int k t2)) c2) := ⟨_, get?_update_seq nk.1 (·.push (.int k t2))⟩
    have ek : kz.take (j + 1) = kz.take j ++ [k] := by rw [List.take_add_one, hkj]; simp
    have ea : (kA.push (Value.int k t2)).toList = kA.toList ++ [Value.int k t2] := by simp
    refine wpAny_bind (listUpdate_at nk.1 rfl ?_ (by rw [sizeLine_eq]; omega) (Nat.le_trans (Nat.le_of_eq (Array.size_push ..)) (by rw [sizeLine_eq]; omega)))
    refine wpAny_pure ⟨rfl, _, _, kA.push (.int k t2), c2, rfl, ksk_fr F2 s1 nk.2.1 nk.2.2, fun p hp => ?_, by rw [ea, ek]; exact ksk_snoc hk⟩
    rcases List.mem_append.mp hp with hp | hp
    · exact ksk_news (fun q hq => N2 q (List.mem_append_left _ hq)) s1 hnk p hp
    · rcases List.mem_cons.mp hp with rfl | hp
      · exact ⟨hc2, nk.2⟩
      · rw [List.mem_singleton.mp hp]
        exact ⟨(s1.2 a hka.symm).trans na.1, na.2⟩
  case done =>
    rintro s' ⟨h', tk, kA, e, rfl, F', N', hk⟩
    have hk' : IntsAre kA.toList kz := by
      have e3 : kz.take (0 + vs.length) = kz := List.take_of_length_le (by omega)
      rw [e3] at hk
      exact hk
    have nk := N' (kS, seqObj "list" kA e) (List.mem_append_right _ (.head _))
    try dsimp only
    refine wpAny_bind (listItems_at nk.1 rfl ?_)
    exact sk_end F' N' hka hnk hna hk' hlen h64 fun h3 tk3 out c F3 N3 k3 => h h3 tk3 out c F3 N3 k3
theorem sk_sort {f : Value} {n : Nat} (F : Fr h₀ L s.heap m) (N : News h₀ L s.heap news) (ho : s.heap.get? a = some (seqObj "list" vs.toArray n)) (haL : a ≠ L) (ha0 : h₀.get? a = none) (hna : ∀ p ∈ news, p.1 ≠ a)
    (hlen : kz.length = vs.length) (h64 : vs.length < 64)
    (turn : ∀ (i : Nat) (v : Value) (k : Int), vs[i]? = some v → kz[i]? = some k → ∀ (h : Heap) (tk : Nat) (own : List (Addr × Obj)), Fr h₀ L h m → News h₀ L h (news ++ own) →
      wpAny (model prog w) A (call f [v]) (KskEnd h₀ L m (news ++ own) k { s with heap := h, toks := tk }) (fun _ _ => False) { s with heap := h, toks := tk })
    (h : ∀ h' tk out c, Fr h₀ L h' m → News h₀ L h' ((a, seqObj "list" out c) :: news) → StOut kz vs out.toList → P (.done (.ret .none)) { s with heap := h', toks := tk }) :
    wpAny (model prog w) A (ksk_tree a f false) P E s := by
  have ha : a < s.heap.objs.size := Heap.lt_size ho
  have s1 := Heap.SameBut.update s.heap a (Obj.mapSeq fun _ => (#[] : Array Value))
  obtain ⟨e1, ho1⟩ : ∃ e1, (s.heap.update a (Obj.mapSeq fun _ => (#[] : Array Value))).get? a = some (seqObj "list" #[] e1) := ⟨_, get?_update_seq ho fun _ => #[]⟩
  have F1 := ksk_fr F s1 haL ha0
  have N1 := ksk_news N s1 hna
  have hkS : ((s.heap.update a (Obj.mapSeq fun _ => (#[] : Array Value))).push (seqObj "tuple" vs.toArray 0)).objs.size = s.heap.objs.size + 1 := by rw [size_push', Heap.size_update]
  have hLk : L < ((s.heap.update a (Obj.mapSeq fun _ => (#[] : Array Value))).push (seqObj "tuple" vs.toArray 0)).objs.size := (F1.push _).ns.lt
  unfold ksk_tree
  refine wpAny_bind (listItems_at ho rfl ?_)
  refine wpAny_bind (listUpdate_at ho rfl ?_ (by rw [List.size_toArray, sizeLine_eq]; omega) (Nat.zero_le _))
  refine wpAny_bind (seqEpoch_at ho1 rfl ?_)
  refine wpAny_bind (wpAny_newTuple ?_ (by show vs.length ≤ _; rw [sizeLine_eq]; omega))
  refine wpAny_bind (wpAny_newList ?_ (Nat.zero_le _))
  refine wpAny_holding ?_
  refine sk_rest (s := { s with heap := ((s.heap.update a (Obj.mapSeq fun _ => (#[] : Array Value))).push (seqObj "tuple" vs.toArray 0)).push (seqObj "list" #[] 0) }) (kS := ((s.heap.update a (Obj.mapSeq fun _ => (#[] : Array Value))).push (seqObj "tuple" vs.toArray 0)).objs.size)
    ((F1.push _).push _) (fun p hp => ?_) (by rw [hkS]; exact Nat.ne_of_gt (Nat.lt_succ_of_lt ha)) (fun p hp => by rw [hkS]; exact Nat.ne_of_lt (Nat.lt_succ_of_lt (Heap.lt_size (N p hp).1))) hna hlen h64 turn h
  rcases List.mem_append.mp hp with hp | hp
  · exact ⟨Heap.get?_push_of_some _ (Heap.get?_push_of_some _ (N1 p hp).1), (N1 p hp).2⟩
  · rcases List.mem_cons.mp hp with rfl | hp
    · exact ⟨Heap.get?_push_size _ rfl, Nat.ne_of_gt hLk, Heap.get?_none_of_le (Nat.le_trans F.above (Nat.le_of_lt hLk))⟩
    · rw [List.mem_singleton.mp hp]
      exact ⟨Heap.get?_push_of_some _ (Heap.get?_push_of_some _ ho1), haL, ha0⟩
end
section
variable {prog : Program} {w : World} {A : Around} {E : Value → Shared → Prop} {s : Shared} {h₀ : Heap} {L l : Addr} {m : Str → Option Value} {news : List (Addr × Obj)} {vs : List Value} {Q : Value → Shared → Prop}
/-- sorted by a key: stable -/
theorem sk_sorted {kz : List Int} {q : Addr} (F : Fr h₀ L s.heap m) (N : News h₀ L s.heap news) (hl : s.heap.IsList l vs.toArray) (hlen : kz.length = vs.length) (h64 : vs.length < 64)
    (turn : ∀ (i : Nat) (v : Value) (k : Int), vs[i]? = some v → kz[i]? = some k → ∀ (h : Heap) (tk : Nat) (own : List (Addr × Obj)), Fr h₀ L h m → News h₀ L h (news ++ own) →
      wpAny (model prog w) A.in1.in1 (call (.ref q) [v]) (KskEnd h₀ L m (news ++ own) k { s with heap := h, toks := tk }) (fun _ _ => False) { s with heap := h, toks := tk })
    (h : ∀ D h' tk out c, Fr h₀ L h' m → News h₀ L h' ((D, seqObj "list" out c) :: news) → (∀ q ∈ news, q.1 < D) → StOut kz vs out.toList → Q (.ref D) { s with heap := h', toks := tk }) :
    wpAny (model prog w) A (call (.builtin "sorted") [.ref l] [(Str.ofString "key", .ref q)]) Q E s := by
  refine call_function_entry_kw kind_sorted plain_sorted entry_sorted (ksk_s1 _ _) ?_
  unfold Builtin.«sorted»
  refine wpAny_bind (m := checkCount "sorted" 1 1 _) (wpAny_pure ?_)
  refine wpAny_bind (collect_list hl ?_ (by rw [sizeLine_eq]; omega))
  refine wpAny_bind (wpAny_newList ?_ (by rw [sizeLine_eq]; omega))
  have hsz : ((s.heap.push (seqObj "list" #[] 0)).update s.heap.objs.size (Obj.mapSeq (· ++ vs.toArray))).objs.size = s.heap.objs.size + 1 := by
    rw [Heap.size_update, size_push']
  have hoL : (((s.heap.push (seqObj "list" #[] 0)).update s.heap.objs.size (Obj.mapSeq (· ++ vs.toArray))).push (seqObj "list" vs.toArray 0)).get? (s.heap.objs.size + 1) = some (seqObj "list" vs.toArray 0) := by
    rw [← hsz]; exact Heap.get?_push_size _ rfl
  have keep : ∀ b o, s.heap.get? b = some o → (((s.heap.push (seqObj "list" #[] 0)).update s.heap.objs.size (Obj.mapSeq (· ++ vs.toArray))).push (seqObj "list" vs.toArray 0)).get? b = some o := fun b o q => by
    have hlt : b < s.heap.objs.size := Heap.lt_size q
    rw [Heap.get?_push_ne _ _ _ (by rw [hsz]; exact Nat.ne_of_lt (Nat.lt_succ_of_lt hlt)), Heap.get?_update_ne _ _ _ _ (Nat.ne_of_lt hlt), Heap.get?_push_ne _ _ _ (Nat.ne_of_lt hlt)]
    exact q
  have hL : L < s.heap.objs.size := F.ns.lt
  show wpAny _ _ _ _ _ { s with heap := ((s.heap.push (seqObj "list" #[] 0)).update s.heap.objs.size (Obj.mapSeq (· ++ vs.toArray))).push (seqObj "list" vs.toArray 0) }
  rw [hsz]
  refine wpAny_bind (wpAny_holding (wpAny_call_entry_kw slot_list_sort ⟨_, hoL, rfl⟩ entry_list_sort ?body (ksk_l1 _ _)))
  case body =>
    show wpAny (model prog w) A.in1.in1 (Builtin.«list.sort» ⟨[.ref (s.heap.objs.size + 1)], [(Str.ofString "key", .ref q)]⟩) _ _ _
    rw [ksk_t1]
    refine sk_sort (s := { s with heap := ((s.heap.push (seqObj "list" #[] 0)).update s.heap.objs.size (Obj.mapSeq (· ++ vs.toArray))).push (seqObj "list" vs.toArray 0) })
      (F.kept keep) (N.grown keep) hoL (Nat.ne_of_gt (Nat.lt_succ_of_lt hL)) (Heap.get?_none_of_le (Nat.le_trans F.above (Nat.le_succ_of_le (Nat.le_of_lt hL))))
      (fun p hp => Nat.ne_of_lt (Nat.lt_succ_of_lt (Heap.lt_size (N p hp).1))) hlen h64 turn fun h' tk out c F' N' k' => ⟨_, rfl, ?_⟩
    exact wpAny_pure ⟨_, rfl, h _ h' tk out c F' N' (fun q hq => Nat.lt_succ_of_lt (Heap.lt_size (N q hq).1)) k'⟩
end
end
end Mine
end
section
namespace Mine
section
open PySem PySem.W PySem.Calls PyProof.Rows
set_option linter.all false
set_option maxRecDepth 100000
set_option maxHeartbeats 400000
/-- the law's statements, one by one -/
noncomputable def lawAt (i : Nat) : Stmt := (fd_law.1.2.1[i]?).getD (.Pass ⟨0, 0, 0, 0⟩)
/-- the statements of a loop's or an if's body -/
noncomputable def bodyOf : Stmt → List Stmt
  | .For _ _ b _ _ => b
  | .While _ b _ _ => b
  | .If _ b _ _ => b
  | _ => []
noncomputable def subAt (x : Stmt) (i : Nat) : Stmt := ((bodyOf x)[i]?).getD (.Pass ⟨0, 0, 0, 0⟩)
@[reducible] noncomputable def ls0 : { x : Stmt // x = lawAt 0 } := by
  refine ⟨?x, ?e⟩
  rotate_left
  · conv => rhs; whnf
@[reducible] noncomputable def ls1 : { x : Stmt // x = lawAt 1 } := by
  refine ⟨?x, ?e⟩
  rotate_left
  · conv => rhs; whnf
@[reducible] noncomputable def ls2 : { x : Stmt // x = lawAt 2 } := by
  refine ⟨?x, ?e⟩
  rotate_left
  · conv => rhs; whnf
@[reducible] noncomputable def ls3 : { x : Stmt // x = lawAt 3 } := by
  refine ⟨?x, ?e⟩
  rotate_left
  · conv => rhs; whnf
@[reducible] noncomputable def ls4 : { x : Stmt // x = lawAt 4 } := by
  refine ⟨?x, ?e⟩
  rotate_left
  · conv => rhs; whnf
@[reducible] noncomputable def ls5 : { x : Stmt // x = lawAt 5 } := by
  refine ⟨?x, ?e⟩
  rotate_left
  · conv => rhs; whnf
@[reducible] noncomputable def ls6 : { x : Stmt // x = lawAt 6 } := by
  refine ⟨?x, ?e⟩
  rotate_left
  · conv => rhs; whnf
@[reducible] noncomputable def ls7 : { x : Stmt // x = lawAt 7 } := by
  refine ⟨?x, ?e⟩
  rotate_left
  · conv => rhs; whnf
@[reducible] noncomputable def ls8 : { x : Stmt // x = lawAt 8 } := by
  refine ⟨?x, ?e⟩
  rotate_left
  · conv => rhs; whnf
@[reducible] noncomputable def ls9 : { x : Stmt // x = lawAt 9 } := by
  refine ⟨?x, ?e⟩
  rotate_left
  · conv => rhs; whnf
@[reducible] noncomputable def ls10 : { x : Stmt // x = lawAt 10 } := by
  refine ⟨?x, ?e⟩
  rotate_left
  · conv => rhs; whnf
@[reducible] noncomputable def ls11 : { x : Stmt // x = lawAt 11 } := by
  refine ⟨?x, ?e⟩
  rotate_left
  · conv => rhs; whnf
@[reducible] noncomputable def ls12 : { x : Stmt // x = lawAt 12 } := by
  refine ⟨?x, ?e⟩
  rotate_left
  · conv => rhs; whnf
@[reducible] noncomputable def ls13 : { x : Stmt // x = lawAt 13 } := by
  refine ⟨?x, ?e⟩
  rotate_left
  · conv => rhs; whnf
@[reducible] noncomputable def ls14 : { x : Stmt // x = lawAt 14 } := by
  refine ⟨?x, ?e⟩
  rotate_left
  · conv => rhs; whnf
@[reducible] noncomputable def ls15 : { x : Stmt // x = lawAt 15 } := by
  refine ⟨?x, ?e⟩
  rotate_left
  · conv => rhs; whnf
@[reducible] noncomputable def ls16 : { x : Stmt // x = lawAt 16 } := by
  refine ⟨?x, ?e⟩
  rotate_left
  · conv => rhs; whnf
@[reducible] noncomputable def ls4_0 : { x : Stmt // x = subAt (lawAt 4) 0 } := by
  refine ⟨?x, ?e⟩
  rotate_left
  · conv => rhs; whnf
@[reducible] noncomputable def ls4_1 : { x : Stmt // x = subAt (lawAt 4) 1 } := by
  refine ⟨?x, ?e⟩
  rotate_left
  · conv => rhs; whnf
@[reducible] noncomputable def ls4_2 : { x : Stmt // x = subAt (lawAt 4) 2 } := by
  refine ⟨?x, ?e⟩
  rotate_left
  · conv => rhs; whnf
@[reducible] noncomputable def ls4_3 : { x : Stmt // x = subAt (lawAt 4) 3 } := by
  refine ⟨?x, ?e⟩
  rotate_left
  · conv => rhs; whnf
@[reducible] noncomputable def ls4_4 : { x : Stmt // x = subAt (lawAt 4) 4 } := by
  refine ⟨?x, ?e⟩
  rotate_left
  · conv => rhs; whnf
@[reducible] noncomputable def ls4_5 : { x : Stmt // x = subAt (lawAt 4) 5 } := by
  refine ⟨?x, ?e⟩
  rotate_left
  · conv => rhs; whnf
@[reducible] noncomputable def ls4_6 : { x : Stmt // x = subAt (lawAt 4) 6 } := by
  refine ⟨?x, ?e⟩
  rotate_left
  · conv => rhs; whnf
@[reducible] noncomputable def ls4_7 : { x : Stmt // x = subAt (lawAt 4) 7 } := by
  refine ⟨?x, ?e⟩
  rotate_left
  · conv => rhs; whnf
@[reducible] noncomputable def ls4_8 : { x : Stmt // x = subAt (lawAt 4) 8 } := by
  refine ⟨?x, ?e⟩
  rotate_left
  · conv => rhs; whnf
@[reducible] noncomputable def ls4_9 : { x : Stmt // x = subAt (lawAt 4) 9 } := by
  refine ⟨?x, ?e⟩
  rotate_left
  · conv => rhs; whnf
@[reducible] noncomputable def ls8_0 : { x : Stmt // x = subAt (lawAt 8) 0 } := by
  refine ⟨?x, ?e⟩
  rotate_left
  · conv => rhs; whnf
@[reducible] noncomputable def ls8_1 : { x : Stmt // x = subAt (lawAt 8) 1 } := by
  refine ⟨?x, ?e⟩
  rotate_left
  · conv => rhs; whnf
@[reducible] noncomputable def ls9_0 : { x : Stmt // x = subAt (lawAt 9) 0 } := by
  refine ⟨?x, ?e⟩
  rotate_left
  · conv => rhs; whnf
@[reducible] noncomputable def ls11_0 : { x : Stmt // x = subAt (lawAt 11) 0 } := by
  refine ⟨?x, ?e⟩
  rotate_left
  · conv => rhs; whnf
@[reducible] noncomputable def ls13_0 : { x : Stmt // x = subAt (lawAt 13) 0 } := by
  refine ⟨?x, ?e⟩
  rotate_left
  · conv => rhs; whnf
@[reducible] noncomputable def ls15_0 : { x : Stmt // x = subAt (lawAt 15) 0 } := by
  refine ⟨?x, ?e⟩
  rotate_left
  · conv => rhs; whnf
@[reducible] noncomputable def ls15_1 : { x : Stmt // x = subAt (lawAt 15) 1 } := by
  refine ⟨?x, ?e⟩
  rotate_left
  · conv => rhs; whnf
@[reducible] noncomputable def ls15_2 : { x : Stmt // x = subAt (lawAt 15) 2 } := by
  refine ⟨?x, ?e⟩
  rotate_left
  · conv => rhs; whnf
@[reducible] noncomputable def ls15_3 : { x : Stmt // x = subAt (lawAt 15) 3 } := by
  refine ⟨?x, ?e⟩
  rotate_left
  · conv => rhs; whnf
noncomputable abbrev AL (L fa : Addr) : Around := callerA.deeper (envOfC (Str.ofString "law") fd_law.1.2.2 L fa (.ref 179))
noncomputable abbrev eL (L fa : Addr) : Env := envOfC (Str.ofString "law") fd_law.1.2.2 L fa (.ref 179)
theorem ifne {α : Type} {x y : Str} {a b : Option α} {v : Option α} (h : y ≠ x) (hb : b = v) : (if y = x then a else b) = v := (if_neg h).trans hb
end
end Mine
end
section
namespace Mine
section
open PySem PySem.W PySem.Calls PyProof.Rows
set_option linter.all false
set_option maxRecDepth 100000
set_option maxHeartbeats 400000
theorem fill13 : WalkO qv looseL (XL qv []) (InK KF) row0.toRowW dLaw [] (fun f vs => PySem.call f vs) → True := by
  k_fill
  exact fun _ => trivial
end
section
open PySem PySem.W PySem.Calls PyProof.Rows
set_option linter.all false
set_option maxRecDepth 100000
set_option maxHeartbeats 400000
local macro_rules | `(tactic| k_mem) => `(tactic| first | with_reducible assumption | exact List.mem_cons_self .. | (refine List.mem_cons_of_mem _ ?_; k_mem))
local macro_rules | `(tactic| k_all) => `(tactic| with_reducible assumption)
local macro_rules | `(tactic| walk_at "eval Name") => `(tactic| (k_here; k_dflt (refine' nameX_L ?F ?hv ?_; (case F => k_asm); (case hv => first | with_reducible assumption | rfl | (repeat' (first | with_reducible assumption | refine ifne (by decide) ?_)))); k_whole))
local macro_rules | `(tactic| walk_at "call ref") => `(tactic| (k_here; k_dflt (refine' FnClaim.use (br_2 _ _ _ _ _ _ ?hm ?hi ?hl _ (cR_le _ _) (cR_split ?ha)) ?B ?F ?X ?N ?T ?hk ?hd ?hu ?_; (case F => k_asm); (case N => k_asm); (case hm => k_mem); (case hi => with_reducible assumption); (case ha => with_reducible assumption); (case hl => with_reducible assumption); (case B => assumption); (case X => assumption); (case T => assumption); (case hk => first | exact rfl | with_reducible assumption); (case hd => ktr_room); (case hu => ktr_units); k_whole); intro t' h' tk' F' N'; (try dsimp only)))
section
variable {w : World} {pp : Program} {ll : List Str} {mean : ExcName → Option Value} {mg mb : Str → Option Value} {fa : Addr} {h₀ : Heap} {L : Addr} {m : Str → Option Value} {s : Shared} {Q : Flow → Shared → Prop} {E : Value → Shared → Prop} {news : List (Addr × Obj)}
variable {r rs : Addr} {rv vL : List Value} {ri Li : List Int} {n nL : Nat} {t : Tok}
theorem st7 (B : Below callerA h₀ [] h₀) (F : Fr h₀ L s.heap m) (X : (KF w.params).In h₀) (T : Top pp ll mean mg mb h₀) (N : News h₀ L s.heap news)
    (hrow : m (Str.ofString "row") = some (.ref r)) (hmr : (r, listOf rv.toArray n) ∈ news) (hri : IntsAre rv ri) (hrl : ri.length ≤ 1000) (hasc : Asc ri)
    (hret : ∀ h' tk' t, Fr h₀ L h' (fun y => if y = Str.ofString "count" then some (.int (cR ri 1) t) else m y) → News h₀ L h' news → Q .next { s with heap := h', toks := tk' }) :
    wpAny (model pw w) (AL L fa) (exec ls7.1 (eL L fa)) Q E s := by
  k_steps
  exact hret _ _ _ (by assumption) (by assumption)
noncomputable def lastI (l : List Int) : Int := l.getD (l.length - 1) 0
theorem lastI_app (l : List Int) (v : Int) : lastI (l ++ [v]) = v := by
  unfold lastI
  rw [List.length_append, List.length_singleton, Nat.add_sub_cancel]
  exact getD_app_last
noncomputable def J8 (news : List (Addr × Obj)) (m : Str → Option Value) (rs : Addr) (ri : List Int) (n : Nat) (m₁ : Str → Option Value) (news₁ : List (Addr × Obj)) : Prop :=
  ∃ vL Li nL t, news₁ = (rs, listOf (List.toArray vL) nL) :: news ∧ IntsAre vL Li ∧ RInv ri Li ∧ m₁ (Str.ofString "count") = some (.int (cR ri (lastI Li + 1)) t) ∧ (∀ y, y ≠ Str.ofString "count" → m₁ y = m y) ∧ n = (sm ri ri.length - lastI Li).toNat
theorem st8 (hE : PassesOwn (model pw w) (AL L fa) (eL L fa) E) (B : Below callerA h₀ [] h₀) (F : Fr h₀ L s.heap m) (X : (KF w.params).In h₀) (T : Top pp ll mean mg mb h₀) (N : News h₀ L s.heap ((rs, listOf vL.toArray nL) :: news)) (hoff : ∀ p ∈ news, p.1 ≠ rs)
    (hrow : m (Str.ofString "row") = some (.ref r)) (hmr : (r, listOf rv.toArray n) ∈ news) (hri : IntsAre rv ri) (hrl : ri.length ≤ 1000) (hasc : Asc ri) (hnn : NonNeg ri) (hsum : sm ri ri.length ≤ 900)
    (hreach : m (Str.ofString "reaches") = some (.ref rs)) (hcount : m (Str.ofString "count") = some (.int (cR ri (lastI Li + 1)) t)) (hLi : IntsAre vL Li) (hR : RInv ri Li)
    (hret : ∀ h' tk' m' vL' Li' nL' t', Fr h₀ L h' m' → News h₀ L h' ((rs, listOf (List.toArray vL') nL') :: news) → IntsAre vL' Li' → RInv ri Li' → ¬ lastI Li' < sm ri (cR ri (lastI Li' + 1)) → m' (Str.ofString "count") = some (.int (cR ri (lastI Li' + 1)) t') → (∀ y, y ≠ Str.ofString "count" → m' y = m y) → Q .next { s with heap := h', toks := tk' }) :
    wpAny (model pw w) (AL L fa) (exec ls8.1 (eL L fa)) Q E s := by
  refine While_inv (J8 news m rs ri) F N ⟨vL, Li, nL, t, rfl, hLi, hR, hcount, fun _ _ => rfl, rfl⟩ ?_ hE
  rintro n₁ m₁ news₁ h₁ tk₁ F₁ N₁ ⟨vL', Li', nL', t', rfl, hLi', hR', hcount', hm', rfl⟩
  have hrow' := (hm' _ (by decide)).trans hrow
  have hreach' := (hm' _ (by decide)).trans hreach
  have hpos := hR'.pos
  have hsmall := hR'.small
  have htop := hR'.top
  have hLl : Li'.length ≤ 1000 := by omega
  clear F N hcount hreach hrow hLi hR
  k_steps
  · rename News h₀ L _ _ => kN
    rename (_ < List.sum _) => ha
    rename Fr h₀ L _ _ => kF
    have e1 : (-1 + (Li'.length : Int)).toNat = Li'.length - 1 := by omega
    have e2 : ((cR ri (lastI Li' + 1) : Nat) : Int).toNat = cR ri (lastI Li' + 1) := Int.toNat_natCast _
    rw [e1, e2] at ha
    rw [e2] at kN kF
    have hS := hR'.step hasc hnn ha
    have el : lastI (Li' ++ [sm ri (cR ri (lastI Li' + 1))]) = sm ri (cR ri (lastI Li' + 1)) := lastI_app _ _
    have hts := sm_mono hnn (cR_le ri (lastI Li' + 1))
    refine WhileStep.intro kF (drop1 (drop1 kN)) (n' := (sm ri ri.length - sm ri (cR ri (lastI Li' + 1))).toNat) ?_ ⟨_, _, _, _, rfl, hLi'.append (IntsAre.cons _ _ .nil), hS, (if_pos rfl).trans (congrArg (fun z : Int => some (Value.int (cR ri (z + 1) : Nat) _)) el.symm), fun y hy => (if_neg hy).trans (hm' y hy), ?_⟩
    · have ha' : lastI Li' < sm ri (cR ri (lastI Li' + 1)) := ha
      omega
    · show _ = (_ - lastI _).toNat
      exact congrArg (fun z : Int => (sm ri ri.length - z).toNat) el.symm
  · rename News h₀ L _ _ => kN
    rename (¬ _ < List.sum _) => ha
    rename Fr h₀ L _ _ => kF
    have e1 : (-1 + (Li'.length : Int)).toNat = Li'.length - 1 := by omega
    have e2 : ((cR ri (lastI Li' + 1) : Nat) : Int).toNat = cR ri (lastI Li' + 1) := Int.toNat_natCast _
    rw [e1, e2] at ha
    exact hret _ _ _ _ _ _ _ kF (drop1 kN) hLi' hR' ha hcount' hm'
end
end
end Mine
end
section
namespace Mine
section
open PySem PySem.W PySem.Calls PyProof.Rows PySem.Spec
set_option linter.all false
set_option maxRecDepth 100000
set_option maxHeartbeats 400000
section
variable {prog : Program} {w : World} {A : Around} {E : Value → Shared → Prop} {s : Shared} {env : Env} {h₀ : Heap} {x : Str} {body : List Stmt} {Q : Flow → Shared → Prop}
/-- the end of a turn: what the next turn is to find, beside the loop's own objects -/
noncomputable def JEnd (h₀ : Heap) (L : Addr) (J : (Str → Option Value) → List (Addr × Obj) → Prop) (own : List (Addr × Obj)) (s₁ s₂ : Shared) : Prop :=
  ∃ h' tk m' nx, s₂ = { s₁ with heap := h', toks := tk } ∧ Fr h₀ L h' m' ∧ News h₀ L h' (own ++ nx) ∧ J m' nx
noncomputable def JPost (h₀ : Heap) (L : Addr) (J : (Str → Option Value) → List (Addr × Obj) → Prop) (own : List (Addr × Obj)) (s₁ : Shared) (Q : Flow → Shared → Prop) (f : Flow) (s₂ : Shared) : Prop :=
  match f with
  | .ret v => Q (.ret v) s₂
  | .brk => Q .next s₂
  | _ => JEnd h₀ L J own s₁ s₂
theorem JEnd.intro {L : Addr} {J : (Str → Option Value) → List (Addr × Obj) → Prop} {own nx : List (Addr × Obj)} {m' : Str → Option Value} {s₁ : Shared} {h' : Heap} {tk : Nat} (F : Fr h₀ L h' m') (N : News h₀ L h' (own ++ nx)) (hj : J m' nx) :
    JEnd h₀ L J own s₁ { s₁ with heap := h', toks := tk } := ⟨h', tk, m', nx, rfl, F, N, hj⟩
noncomputable def NotRI (o : Obj) : Prop := ∀ x y z : Int, o.data ≠ .fields #[rawInt x, rawInt y, rawInt z] ∨ o.cls ≠ .type "range_iterator"
/-- a loop over a range, by what each turn finds: the ledger may grow -/
theorem iter_rangeJ {r : Addr} {a₀ b₀ : Int} {t₀ u₀ v₀ : Tok} {n : Nat} {m₀ : Str → Option Value} {news : List (Addr × Obj)} (J : Nat → (Str → Option Value) → List (Addr × Obj) → Prop)
    (hh : A.handled = none) (hr : IsRange s.heap r a₀ b₀ 1 t₀ u₀ v₀) (hsmall : Builtin.Range.small a₀ b₀ 1 = true) (hn : Builtin.Range.rangeSize a₀ b₀ 1 = (n : Int)) (F : Fr h₀ env.locals s.heap m₀) (N : News h₀ env.locals s.heap news) (hj : J 0 m₀ news)
    (hoff : ∀ i m nx, J i m nx → ∀ p ∈ nx, NotRI p.2)
    (turn : ∀ i t m₁ nx h tk own, i < n → J i m₁ nx → (∀ p ∈ own, p.2.cls = .type "range_iterator") → Fr h₀ env.locals h (fun y => if y = x then some (.int (a₀ + (i : Nat)) t) else m₁ y) → News h₀ env.locals h (own ++ nx) →
      wpAny (model prog w) A (execs body env) (JPost h₀ env.locals (J (i + 1)) own { s with heap := h, toks := tk } Q) E { s with heap := h, toks := tk })
    (done : ∀ m₁ nx h tk, J n m₁ nx → Fr h₀ env.locals h m₁ → News h₀ env.locals h nx → Q .next { s with heap := h, toks := tk }) :
    wpAny (model prog w) A (pyIter (.ref r)) (fun it s₂ => LoopAtV prog w A h₀ env x body Q E it s₂) E s := by
  refine wpAny_pyIter_range hr hsmall ?_
  have W : Walks prog w A s.heap.objs.size [s.heap.objs.size] [s.heap.objs.size] n (fun i v => i < n ∧ ∃ t, v = .int (a₀ + i * 1) t)
      (fun i h => IsRangeIter h s.heap.objs.size (a₀ + (i : Nat) * 1) ((n : Int) - (i : Nat)) 1) := (Walks.range hh _ a₀ 1 n).bound
  refine ⟨_, _, _, n, _, _, m₀, news, J, rfl, W, ?_, ?_, ?_, (by show IsRangeIter _ _ _ _ _; rw [hn]; simpa using Heap.get?_push_size _ rfl), F.push _, (fun p hp => ⟨Heap.get?_push_of_some _ (N p hp).1, (N p hp).2⟩), hj, ?_, ?_⟩
  · intro hm
    exact absurd F.ns.lt ((List.mem_singleton.mp hm) ▸ Nat.lt_irrefl _)
  · intro b hb
    rw [List.mem_singleton.mp hb]
    exact next_is_new F
  · intro p hp hI
    exact absurd (Heap.lt_size (N p hp).1) ((List.mem_singleton.mp hI) ▸ Nat.lt_irrefl _)
  · rintro i v m₁ nx s₁ own ⟨hh', tk', rfl⟩ hin ⟨_, t, rfl⟩ hJ hnw hown hget hfp hst F₁ N₁
    have e : (a₀ + (i : Int) * 1) = a₀ + (i : Nat) := by omega
    rw [e] at F₁
    have hcls : ∀ p ∈ own, p.2.cls = .type "range_iterator" := fun p hp => by
      have h1 := List.mem_singleton.mp (hown p hp)
      have h2 := hget p hp
      rw [h1] at h2
      have h3 : hh'.get? s.heap.objs.size = _ := hst
      have h2' : hh'.get? s.heap.objs.size = some p.2 := h2
      rw [h3] at h2'
      rw [← Option.some.inj h2']
    refine wpAny_mono (turn i t m₁ nx hh' tk' own hin hJ hcls F₁ N₁) (fun f s₂ p => ?_) fun _ _ e => e
    have fin : JEnd h₀ env.locals (J (i + 1)) own { s with heap := hh', toks := tk' } s₂ → LoopStepU h₀ env.locals [s.heap.objs.size] own (J (i + 1)) { s with heap := hh', toks := tk' } .next s₂ := by
      rintro ⟨h', tk, m', nx', e, F', N', hm⟩
      refine ⟨rfl, h', tk, m', nx', e, F', N', fun p hp hI => ?_, hm⟩
      have hI := List.mem_singleton.mp hI
      have h1 := hoff _ _ _ hm p hp
      have h2 : (s.heap.objs.size, _) ∈ own := hfp s.heap.objs.size (List.mem_singleton.mpr rfl) (next_is_new F) _ hst
      have h3 := (N' _ (List.mem_append_left _ h2)).1
      have h4 := (N' _ (List.mem_append_right _ hp)).1
      rw [hI] at h4
      rw [h3] at h4
      have h5 := Option.some.inj h4
      rw [← h5] at h1
      rcases h1 _ _ _ with h1 | h1
      · exact h1 rfl
      · exact h1 rfl
    cases f with
    | ret v => exact .ret p
    | brk => exact .brk p
    | next => exact .next (fin p)
    | cont => exact .cont (fin p)
  · rintro h' tk m' nx F' N' _ hJ
    exact done m' nx h' tk hJ F' N'
end
theorem fill14 : WalkO qv looseL (XL qv []) (InK KF) row0.toRowW dLaw [] (fun f vs => PySem.call f vs) → True := by
  k_fill
  exact fun _ => trivial
end
section
open PySem PySem.W PySem.Calls PyProof.Rows PySem.Spec
local macro_rules | `(tactic| k_mem) => `(tactic| first | with_reducible assumption | exact List.mem_cons_self .. | (refine List.mem_cons_of_mem _ ?_; k_mem) | (refine List.mem_append_right _ ?_; k_mem))
local macro_rules | `(tactic| k_all) => `(tactic| with_reducible assumption)
local macro_rules | `(tactic| walk_at "eval Name") => `(tactic| (k_here; k_dflt (refine' nameX_L ?F ?hv ?_; (case F => k_asm); (case hv => first | with_reducible assumption | rfl | (repeat' (first | with_reducible assumption | refine ifne (by decide) ?_)))); k_whole))
local macro_rules | `(tactic| walk_at "subscriptTail") => `(tactic| (k_here; (with_reducible show wpAny _ _ (subscriptTail _ _ (Value.ref _) (Value.int _ _)) _ _ _); k_dflt (refine' item_i ?hm ?hi ?N ?h0 ?h1 ?hf ?_ ?hs; (case N => k_asm); (case hm => k_mem); (case hi => with_reducible assumption); (case hf => with_reducible assumption); (case h0 => omega); (case h1 => omega); (case hs => with_unfolding_all rfl); k_whole); intro v' tv' hv'))
local macro_rules | `(tactic| walk_at "call builtin:len") => `(tactic| (k_here; (with_reducible show wpAny _ _ (PySem.call (Value.builtin "len") [Value.ref _]) _ _ _); k_dflt (refine' len_l ?hm ?hi ?N ?hf ?_; (case N => k_asm); (case hm => k_mem); (case hi => with_reducible assumption); (case hf => with_reducible assumption); k_whole)))
section
open PySem PySem.W PySem.Calls PyProof.Rows PySem.Spec
set_option linter.all false
set_option maxRecDepth 100000
set_option maxHeartbeats 400000
section
variable {w : World} {pp : Program} {ll : List Str} {mean : ExcName → Option Value} {mg mb : Str → Option Value} {fa : Addr} {h₀ : Heap} {L : Addr} {m : Str → Option Value} {s : Shared} {Q : Flow → Shared → Prop} {E : Value → Shared → Prop} {news : List (Addr × Obj)}
variable {r rs : Addr} {rv vL : List Value} {ri Li : List Int} {n nL : Nat} {t : Tok}
noncomputable def NoRI (news : List (Addr × Obj)) : Prop := ∀ p ∈ news, NotRI p.2
noncomputable def J9 (news : List (Addr × Obj)) (m : Str → Option Value) (_ : Nat) (m₁ : Str → Option Value) (news₁ : List (Addr × Obj)) : Prop :=
  news₁ = news ∧ (∀ y, y ≠ Str.ofString "k" → m₁ y = m y)
theorem st9 (hE : PassesOwn (model pw w) (AL L fa) (eL L fa) E) (B : Below callerA h₀ [] h₀) (F : Fr h₀ L s.heap m) (X : (KF w.params).In h₀) (T : Top pp ll mean mg mb h₀) (N : News h₀ L s.heap news) (hno : NoRI news)
    (hreach : m (Str.ofString "reaches") = some (.ref rs)) (hmr : (rs, listOf vL.toArray nL) ∈ news) (hLi : IntsAre vL Li) (hLl : Li.length ≤ 1000)
    (hg : ∀ k, 2 ≤ k → k < Li.length → Li.getD (k - 1) 0 + Li.getD (k - 2) 0 + 1 < Li.getD k 0)
    (hret : ∀ h' tk' m', Fr h₀ L h' m' → News h₀ L h' news → (∀ y, y ≠ Str.ofString "k" → m' y = m y) → Q .next { s with heap := h', toks := tk' }) :
    wpAny (model pw w) (AL L fa) (exec ls9.1 (eL L fa)) Q E s := by
  refine For_invV h₀ rfl rfl ?_ (hE := hE)
  iterate 15 walk1
  rename IsRange _ _ _ _ _ _ _ _ => hRg
  rename Fr h₀ L _ _ => kF
  rename News h₀ L _ _ => kN
  refine iter_rangeJ (J9 news m) rfl hRg (small_one (by decide) (by decide) (by omega) (by omega)) (rangeSize_nat _ _) kF kN ⟨rfl, fun _ _ => rfl⟩ (fun i m nx hj p hp => hno p (hj.1 ▸ hp)) ?_ ?_
  · rintro i t m₁ nx h tk own hi ⟨rfl, hm⟩ hown F₁ N₁
    have hreach' := (hm _ (by decide)).trans hreach
    clear kF kN hret hRg
    k_steps
    · rename (_ ≤ _ + _ + 1) => ha
      rename (Li[(2 + (i : Int)).toNat]? = some _) => h0
      rename (Li[(2 + (i : Int) - 1).toNat]? = some _) => h1
      rename (Li[(2 + (i : Int) - 2).toNat]? = some _) => h2
      exfalso
      have q := hg (i + 2) (by omega) (by omega)
      rw [List.getD_eq_getElem?_getD, List.getD_eq_getElem?_getD, List.getD_eq_getElem?_getD] at q
      rw [show (2 + (i : Int)).toNat = i + 2 by omega] at h0
      rw [show (2 + (i : Int) - 1).toNat = i + 2 - 1 by omega] at h1
      rw [show (2 + (i : Int) - 2).toNat = i + 2 - 2 by omega] at h2
      rw [h0, h1, h2] at q
      simp only [Option.getD_some] at q
      omega
    · exact JEnd.intro F₁ N₁ ⟨rfl, fun y hy => (if_neg hy).trans (hm y hy)⟩
  · rintro m₁ nx h tk ⟨rfl, hm⟩ F₁ N₁
    exact hret _ _ _ F₁ N₁ hm
end
end
section
open PySem PySem.W PySem.Calls PyProof.Rows PySem.Spec
set_option linter.all false
set_option maxRecDepth 100000
set_option maxHeartbeats 400000
theorem fill15 : WalkO qv looseL (XL qv []) (InK KF) row0.toRowW dLaw [] (fun f vs => PySem.call f vs) → True := by
  k_fill
  exact fun _ => trivial
end
section
open PySem PySem.W PySem.Calls PyProof.Rows PySem.Spec
set_option linter.all false
set_option maxRecDepth 100000
set_option maxHeartbeats 400000
local macro_rules | `(tactic| news_mem) => `(tactic| k_mem)
local macro_rules | `(tactic| walk_at "compareOp In int ref") => `(tactic| (k_here; (with_reducible show wpAny _ _ (compareOp CmpOp.In (Value.int _ _) (Value.ref _)) _ _ _); k_dflt (refine' in_list_ints ?hl ?hi ?_; (case hl => exact News.isList (by k_asm) (by k_mem)); (case hi => with_reducible assumption); k_whole)))
section
variable {w : World} {pp : Program} {ll : List Str} {mean : ExcName → Option Value} {mg mb : Str → Option Value} {fa : Addr} {h₀ : Heap} {L : Addr} {m : Str → Option Value} {s : Shared} {Q : Flow → Shared → Prop} {E : Value → Shared → Prop} {news : List (Addr × Obj)}
variable {su rs : Addr} {sv vL : List Value} {si Li : List Int} {n nL : Nat} {t : Tok}
theorem st12 (B : Below callerA h₀ [] h₀) (F : Fr h₀ L s.heap m) (X : (KF w.params).In h₀) (T : Top pp ll mean mg mb h₀) (N : News h₀ L s.heap news)
    (hret : ∀ h' tk' t, Fr h₀ L h' (fun y => if y = Str.ofString "price" then some (.int 1 t) else m y) → News h₀ L h' news → Q .next { s with heap := h', toks := tk' }) :
    wpAny (model pw w) (AL L fa) (exec ls12.1 (eL L fa)) Q E s := by
  k_steps
  exact hret _ _ _ (by assumption) (by assumption)
noncomputable def J13 (news : List (Addr × Obj)) (m : Str → Option Value) (si : List Int) (R : Int) (n : Nat) (m₁ : Str → Option Value) (news₁ : List (Addr × Obj)) : Prop :=
  ∃ p t, news₁ = news ∧ m₁ (Str.ofString "price") = some (.int p t) ∧ 1 ≤ p ∧ p ≤ R + 1 ∧ (∀ y, y ≠ Str.ofString "price" → m₁ y = m y) ∧ n = (R + 1 - p).toNat
theorem st13 (hE : PassesOwn (model pw w) (AL L fa) (eL L fa) E) (B : Below callerA h₀ [] h₀) (F : Fr h₀ L s.heap m) (X : (KF w.params).In h₀) (T : Top pp ll mean mg mb h₀) (N : News h₀ L s.heap news)
    (hsums : m (Str.ofString "sums") = some (.ref su)) (hms : (su, listOf sv.toArray n) ∈ news) (hsi : IntsAre sv si) (hsl : si.length ≤ 1000) (hprice : m (Str.ofString "price") = some (.int 1 t))
    {R : Int} (hR : 0 ≤ R) (hR2 : R ≤ 900) (hin : ∀ p, 1 ≤ p → p ≤ R → p ∈ si) (hout : R + 1 ∉ si)
    (hret : ∀ h' tk' m' t', Fr h₀ L h' m' → News h₀ L h' news → m' (Str.ofString "price") = some (.int (R + 1) t') → (∀ y, y ≠ Str.ofString "price" → m' y = m y) → Q .next { s with heap := h', toks := tk' }) :
    wpAny (model pw w) (AL L fa) (exec ls13.1 (eL L fa)) Q E s := by
  refine While_inv (J13 news m si R) F N ⟨1, t, rfl, hprice, by omega, by omega, fun _ _ => rfl, rfl⟩ ?_ hE
  rintro n₁ m₁ news₁ h₁ tk₁ F₁ N₁ ⟨p, t', rfl, hp, hp1, hp2, hm', rfl⟩
  have hsums' := (hm' _ (by decide)).trans hsums
  clear F N hprice
  k_steps
  · rename (List.any _ _ = true) => ha
    rename Fr h₀ L _ _ => kF
    rename News h₀ L _ _ => kN
    have hpin : p ∈ si := by
      obtain ⟨x, hx, e⟩ := List.any_eq_true.mp ha
      rw [← eq_of_beq e]
      exact hx
    have hne : p ≠ R + 1 := fun e => hout (e ▸ hpin)
    exact WhileStep.intro kF kN (n' := (R + 1 - (p + 1)).toNat) (by omega) ⟨p + 1, _, rfl, if_pos rfl, by omega, by omega, fun y hy => (if_neg hy).trans (hm' y hy), rfl⟩
  · rename (List.any _ _ = false) => ha
    have e : p = R + 1 := by
      rcases Int.lt_or_le R p with q | q
      · omega
      · exfalso
        have h1 := hin p hp1 q
        have : si.any (· == p) = true := List.any_eq_true.mpr ⟨p, h1, beq_self_eq_true _⟩
        rw [this] at ha
        cases ha
    exact hret _ _ _ _ F₁ N₁ (e ▸ hp) hm'
theorem st14 (B : Below callerA h₀ [] h₀) (F : Fr h₀ L s.heap m) (X : (KF w.params).In h₀) (T : Top pp ll mean mg mb h₀) (N : News h₀ L s.heap news)
    (hreach : m (Str.ofString "reaches") = some (.ref rs)) (hmr : (rs, listOf vL.toArray nL) ∈ news) (hLi : IntsAre vL Li) (hLl : Li.length ≤ 1000) (hLp : 0 < Li.length) (hprice : m (Str.ofString "price") = some (.int (lastI Li + 1) t))
    (hret : ∀ h' tk', Fr h₀ L h' m → News h₀ L h' news → Q .next { s with heap := h', toks := tk' }) :
    wpAny (model pw w) (AL L fa) (exec ls14.1 (eL L fa)) Q E s := by
  k_steps
  · rename (lastI Li + 1 ≠ _) => ha
    exfalso
    refine ha ?_
    have e1 : (-1 + (Li.length : Int)).toNat = Li.length - 1 := by omega
    rw [e1]
    rfl
  · exact hret _ _ F N
end
end
section
open PySem PySem.W PySem.Calls PyProof.Rows PySem.Spec
set_option linter.all false
set_option maxRecDepth 100000
set_option maxHeartbeats 400000
theorem fill16 : WalkO qv looseL (XL qv []) (InK KF) row0.toRowW dLaw [] (fun f vs => PySem.call f vs) → True := by
  k_fill
  exact fun _ => trivial
end
section
open PySem PySem.W PySem.Calls PyProof.Rows PySem.Spec
set_option linter.all false
set_option maxRecDepth 100000
set_option maxHeartbeats 400000
local macro_rules | `(tactic| news_mem) => `(tactic| k_mem)
local macro_rules | `(tactic| walk_at "call ref") => `(tactic| (k_here; k_dflt (refine' FnClaim.use (br_4 _ _ _ _ _ _ _ _ _ ?hm ?hi ?hl _ ?h0 ?h1 (cR_split ?ha)) ?B ?F ?X ?N ?T ?hk ?hd ?hu ?_; (case F => k_asm); (case N => k_asm); (case hm => k_mem); (case hi => with_reducible assumption); (case ha => with_reducible assumption); (case hl => with_reducible assumption); (case h0 => omega); (case h1 => omega); (case B => assumption); (case X => assumption); (case T => assumption); (case hk => first | exact rfl | with_reducible assumption); (case hd => ktr_room); (case hu => ktr_units); k_whole); intro t' h' tk' F' N'; (try dsimp only)))
local macro_rules | `(tactic| walk_at "call ref") => `(tactic| (k_here; k_dflt (refine' FnClaim.use (bl_4 _ _ _ _ _ _ _ _ _ ?hm ?hi ?hl _ ?h0 ?h1 (cR_splitL ?ha)) ?B ?F ?X ?N ?T ?hk ?hd ?hu ?_; (case F => k_asm); (case N => k_asm); (case hm => k_mem); (case hi => with_reducible assumption); (case ha => with_reducible assumption); (case hl => with_reducible assumption); (case h0 => omega); (case h1 => omega); (case B => assumption); (case X => assumption); (case T => assumption); (case hk => first | exact rfl | with_reducible assumption); (case hd => ktr_room); (case hu => ktr_units); k_whole); intro t' h' tk' F' N'; (try dsimp only)))
section
variable {w : World} {pp : Program} {ll : List Str} {mean : ExcName → Option Value} {mg mb : Str → Option Value} {fa : Addr} {h₀ : Heap} {L : Addr} {m : Str → Option Value} {s : Shared} {Q : Flow → Shared → Prop} {E : Value → Shared → Prop} {news : List (Addr × Obj)}
variable {r rs : Addr} {rv vL : List Value} {ri Li : List Int} {n nL : Nat} {t : Tok}
/-- halving, between the turns -/
noncomputable def J15 (news : List (Addr × Obj)) (m : Str → Option Value) (ri : List Int) (c : Nat) (n : Nat) (m₁ : Str → Option Value) (news₁ : List (Addr × Obj)) : Prop :=
  ∃ rest t high u, news₁ = news ∧ m₁ (Str.ofString "rest") = some (.int rest t) ∧ m₁ (Str.ofString "high") = some (.int ((high : Nat) : Int) u) ∧ high ≤ c ∧ 0 ≤ rest ∧ rest ≤ sm ri high ∧
    (∀ y, y ≠ Str.ofString "rest" → y ≠ Str.ofString "high" → y ≠ Str.ofString "place" → m₁ y = m y) ∧ n = high
theorem t15w (hE : PassesOwn (model pw w) (AL L fa) (eL L fa) E) (B : Below callerA h₀ [] h₀) (F : Fr h₀ L s.heap m) (X : (KF w.params).In h₀) (T : Top pp ll mean mg mb h₀) (N : News h₀ L s.heap news)
    (hrow : m (Str.ofString "row") = some (.ref r)) (hmr : (r, listOf rv.toArray n) ∈ news) (hri : IntsAre rv ri) (hrl : ri.length ≤ 1000) (hasc : Asc ri) {c : Nat} {R : Int} (W : Whole ri c R)
    {rest : Int} {u : Tok} (hrest : m (Str.ofString "rest") = some (.int rest t)) (hhigh : m (Str.ofString "high") = some (.int ((c : Nat) : Int) u)) (h0 : 0 ≤ rest) (h1 : rest ≤ R) (hR2 : R ≤ 900)
    (hret : ∀ h' tk' m' t', Fr h₀ L h' m' → News h₀ L h' news → m' (Str.ofString "rest") = some (.int 0 t') → (∀ y, y ≠ Str.ofString "rest" → y ≠ Str.ofString "high" → y ≠ Str.ofString "place" → m' y = m y) → Q .next { s with heap := h', toks := tk' }) :
    wpAny (model pw w) (AL L fa) (exec ls15_2.1 (eL L fa)) Q E s := by
  refine While_inv (J15 news m ri c) F N ⟨rest, t, c, u, rfl, hrest, hhigh, Nat.le_refl _, h0, by rw [W.sum]; exact h1, fun _ _ _ _ => rfl, rfl⟩ ?_ hE
  rintro n₁ m₁ news₁ h₁ tk₁ F₁ N₁ ⟨rest', t', high, u', rfl, hr, hh, hhc, hr0, hr1, hm', rfl⟩
  have hrow' := (hm' _ (by decide) (by decide) (by decide)).trans hrow
  have hlen := W.le
  clear F N hrest hhigh hrow
  k_steps
  · rename (min _ _ < (1 : Int)) => ha
    exfalso
    have hw := (W.half (by assumption) hr1 hhc).1
    omega
  · rename (min _ _ ≠ min _ _) => ha
    exact absurd rfl ha
  · rename Fr h₀ L _ _ => kF
    rename News h₀ L _ _ => kN
    have hw := W.half (by assumption) hr1 hhc
    have e1 : (min (cR ri rest' : Int) (n₁ : Int) - 1).toNat = min (cR ri rest') n₁ - 1 := by omega
    have e2 : min (cR ri rest' : Int) (n₁ : Int) - 1 = ((min (cR ri rest') n₁ - 1 : Nat) : Int) := by omega
    exact WhileStep.intro kF kN (n' := min (cR ri rest') n₁ - 1) (by omega) ⟨rest' - ri.getD (min (cR ri rest') n₁ - 1) 0, _, min (cR ri rest') n₁ - 1, _, rfl, (if_neg (by decide)).trans ((if_pos rfl).trans (congrArg (fun z : Nat => some (Value.int (rest' - ri.getD z 0) _)) e1)), (if_pos rfl).trans (congrArg (fun z : Int => some (Value.int z _)) e2), by omega, hw.2.2.1, hw.2.2.2, fun y h1 h2 h3 => (if_neg h2).trans ((if_neg h1).trans ((if_neg h3).trans (hm' y h1 h2 h3))), rfl⟩
  · have e : rest' = 0 := by omega
    exact hret _ _ _ _ (by assumption) (by assumption) (e ▸ hr) hm'
end
end
section
open PySem PySem.W PySem.Calls PyProof.Rows PySem.Spec
set_option linter.all false
set_option maxRecDepth 100000
set_option maxHeartbeats 400000
theorem fill17 : WalkO qv looseL (XL qv []) (InK KF) row0.toRowW dLaw [] (fun f vs => PySem.call f vs) → True := by
  k_fill
  exact fun _ => trivial
end
section
open PySem PySem.W PySem.Calls PyProof.Rows PySem.Spec
set_option linter.all false
set_option maxRecDepth 100000
set_option maxHeartbeats 400000
local macro_rules | `(tactic| news_mem) => `(tactic| k_mem)
local macro_rules | `(tactic| walk_at "exec While Compare cons nil") => `(tactic| (k_here; k_dflt (refine' t15w ?hE ?B ?F ?X ?T ?N ?hrow ?hmr ?hri ?hrl ?hasc ?W ?hrest ?hhigh ?h0 ?h1 ?hR2 ?hret; (case hE => assumption); (case B => assumption); (case F => k_asm); (case X => assumption); (case T => assumption); (case N => k_asm); (case hrow => repeat' (first | with_reducible assumption | refine ifne (by decide) ?_)); (case hmr => k_mem); (case hri => with_reducible assumption); (case hrl => with_reducible assumption); (case hasc => with_reducible assumption); (case W => with_reducible assumption); (case hrest => rfl); (case hhigh => rfl); (case h0 => omega); (case h1 => omega); (case hR2 => omega)); intro h' tk' m' t' F' N' hr' hm'))
section
variable {w : World} {pp : Program} {ll : List Str} {mean : ExcName → Option Value} {mg mb : Str → Option Value} {fa : Addr} {h₀ : Heap} {L : Addr} {m : Str → Option Value} {s : Shared} {Q : Flow → Shared → Prop} {E : Value → Shared → Prop} {news : List (Addr × Obj)}
variable {r rs : Addr} {rv vL : List Value} {ri Li : List Int} {n nL : Nat} {t : Tok}
noncomputable def J15o (news : List (Addr × Obj)) (m : Str → Option Value) (_ : Nat) (m₁ : Str → Option Value) (news₁ : List (Addr × Obj)) : Prop :=
  news₁ = news ∧ ∀ y, y ≠ Str.ofString "price" → y ≠ Str.ofString "rest" → y ≠ Str.ofString "high" → y ≠ Str.ofString "place" → m₁ y = m y
theorem st15 (hE : PassesOwn (model pw w) (AL L fa) (eL L fa) E) (B : Below callerA h₀ [] h₀) (F : Fr h₀ L s.heap m) (X : (KF w.params).In h₀) (T : Top pp ll mean mg mb h₀) (N : News h₀ L s.heap news) (hno : NoRI news)
    (hrow : m (Str.ofString "row") = some (.ref r)) (hmr : (r, listOf rv.toArray n) ∈ news) (hri : IntsAre rv ri) (hrl : ri.length ≤ 1000) (hasc : Asc ri) {c : Nat} (W : Whole ri c (lastI Li)) (hR2 : lastI Li ≤ 900) (hR0 : 0 ≤ lastI Li)
    (hreach : m (Str.ofString "reaches") = some (.ref rs)) (hms : (rs, listOf vL.toArray nL) ∈ news) (hLi : IntsAre vL Li) (hLl : Li.length ≤ 1000) (hLp : 0 < Li.length)
    (hcount : m (Str.ofString "count") = some (.int ((c : Nat) : Int) t))
    (hret : ∀ h' tk' m', Fr h₀ L h' m' → News h₀ L h' news → Q .next { s with heap := h', toks := tk' }) :
    wpAny (model pw w) (AL L fa) (exec ls15.1 (eL L fa)) Q E s := by
  refine For_invV h₀ rfl rfl ?_ (hE := hE)
  iterate 15 walk1
  rename IsRange _ _ _ _ _ _ _ _ => hRg
  rename Fr h₀ L _ _ => kF
  rename News h₀ L _ _ => kN
  have e1 : (-1 + (Li.length : Int)).toNat = Li.length - 1 := by omega
  rw [e1] at hRg
  have e2 : Li.getD (Li.length - 1) 0 = lastI Li := rfl
  rw [e2] at hRg
  refine iter_rangeJ (J15o news m) rfl hRg (small_one (by decide) (by decide) (by omega) (by omega)) (rangeSize_nat _ _) kF kN ⟨rfl, fun _ _ _ _ _ => rfl⟩ (fun i m nx hj p hp => hno p (hj.1 ▸ hp)) ?_ ?_
  · rintro i t m₁ nx h tk own hi ⟨rfl, hm⟩ hown F₁ N₁
    have hrow' := (hm _ (by decide) (by decide) (by decide) (by decide)).trans hrow
    have hcount' := (hm _ (by decide) (by decide) (by decide) (by decide)).trans hcount
    clear kF kN hret hRg
    k_steps
    rename_i kF kN hr2 hm2
    exact JEnd.intro kF kN ⟨rfl, fun y h1 h2 h3 h4 => (hm2 y h2 h3 h4).trans ((if_neg h3).trans ((if_neg h2).trans ((if_neg h1).trans (hm y h1 h2 h3 h4))))⟩
  · rintro m₁ nx h tk ⟨rfl, hm⟩ F₁ N₁
    exact hret _ _ _ F₁ N₁
end
end
section
open PySem PySem.W PySem.Calls PyProof.Rows PySem.Spec
set_option linter.all false
set_option maxRecDepth 100000
set_option maxHeartbeats 400000
section
variable {prog : Program} {w : World} {A : Around} {E : Value → Shared → Prop} {s : Shared} {env : Env} {h₀ : Heap} {x : Str} {body : List Stmt} {Q : Flow → Shared → Prop}
noncomputable def CEnd (h₀ : Heap) (L c : Addr) (J : (Str → Option Value) → List (Addr × Obj) → Prop) (own : List (Addr × Obj)) (s₁ s₂ : Shared) : Prop :=
  ∃ h' tk m' nx oc v, s₂ = { s₁ with heap := h', toks := tk } ∧ Fr h₀ L h' m' ∧ News h₀ L h' ((c, oc) :: (own ++ nx)) ∧ oc.data = .cell v ∧ J m' nx
noncomputable def CPost (h₀ : Heap) (L c : Addr) (J : (Str → Option Value) → List (Addr × Obj) → Prop) (own : List (Addr × Obj)) (s₁ : Shared) (Q : Flow → Shared → Prop) (f : Flow) (s₂ : Shared) : Prop :=
  match f with
  | .ret v => Q (.ret v) s₂
  | .brk => Q .next s₂
  | _ => CEnd h₀ L c J own s₁ s₂
theorem CEnd.intro {L c : Addr} {J : (Str → Option Value) → List (Addr × Obj) → Prop} {own nx : List (Addr × Obj)} {m' : Str → Option Value} {s₁ : Shared} {h' : Heap} {tk : Nat} {oc : Obj} {v : Option Value} (F : Fr h₀ L h' m') (N : News h₀ L h' ((c, oc) :: (own ++ nx))) (hc : oc.data = .cell v) (hj : J m' nx) :
    CEnd h₀ L c J own s₁ { s₁ with heap := h', toks := tk } := ⟨h', tk, m', nx, oc, v, rfl, F, N, hc, hj⟩
noncomputable def NotLI (o : Obj) : Prop := (∀ fs, o.data ≠ .fields fs) ∨ o.cls ≠ .type "list_iterator"
/-- a loop over a list of the ledger, whose name is a cell -/
theorem For_cellJ {px pos : Pos} {iter : Expr} {l c : Addr} {vs : List Value} {nn : Nat} {m₀ : Str → Option Value} {news : List (Addr × Obj)} {oc : Obj} {v₀ : Option Value} (J : Nat → (Str → Option Value) → List (Addr × Obj) → Prop)
    (hk : env.scope.kind = .function) (hx : env.kindOf x = some .cell) (hc : env.cells.lookup x = some c) (hh : A.handled = none)
    (hiter : ∀ Q' : Value → Shared → Prop, Q' (.ref l) s → wpAny (model prog w) A (eval iter env) Q' E s)
    (F : Fr h₀ env.locals s.heap m₀) (N : News h₀ env.locals s.heap ((c, oc) :: news)) (hoc : oc.data = .cell v₀) (hj : J 0 m₀ news)
    (keep : ∀ i m nx, J i m nx → (l, listOf vs.toArray nn) ∈ nx ∧ (∀ p ∈ nx, p.1 ≠ c) ∧ (∀ p ∈ nx, NotLI p.2))
    (turn : ∀ i v m₁ nx h tk own oc', vs[i]? = some v → J i m₁ nx → (∀ p ∈ own, p.2.cls = .type "list_iterator") → oc'.data = .cell (some v) → Fr h₀ env.locals h m₁ → News h₀ env.locals h ((c, oc') :: (own ++ nx)) →
      wpAny (model prog w) A (execs body env) (CPost h₀ env.locals c (J (i + 1)) own { s with heap := h, toks := tk } Q) E { s with heap := h, toks := tk })
    (done : ∀ m₁ nx h tk oc' v', J vs.length m₁ nx → oc'.data = .cell v' → Fr h₀ env.locals h m₁ → News h₀ env.locals h ((c, oc') :: nx) → Q .next { s with heap := h, toks := tk })
    (hs : ∀ x, foldedSetIterable iter env x = pure x := by intro _; rfl)
    (hE : PassesOwn (model prog w) A env E := by passes_own) :
    wpAny (model prog w) A (exec (.For (.Name x px) iter body [] pos) env) Q E s := by
  obtain ⟨hl, hcn, hci⟩ := keep _ _ _ hj
  have hls : s.heap.IsList l vs.toArray := ⟨_, (N _ (List.mem_cons_of_mem _ hl)).1, rfl, nn, rfl⟩
  have hlt : l < s.heap.objs.size := Heap.lt_size (N _ (List.mem_cons_of_mem _ hl)).1
  have hct : c < s.heap.objs.size := Heap.lt_size (N (c, oc) (List.mem_cons_self ..)).1
  have hLt : env.locals < s.heap.objs.size := F.ns.lt
  have hne : l ≠ s.heap.objs.size := Nat.ne_of_lt hlt
  refine wpAny_For (hiter _ ?_) hs
  refine wpAny_pyIter_list hls ?_
  have W := Walks.list (prog := prog) (w := w) hh s.heap.objs.size l hne vs.toArray
  have hlen : vs.toArray.size = vs.length := List.size_toArray ..
  rw [hlen] at W
  refine codeAny_forLoop
    (fun k s' => ∃ h' tk m' nx i oc' v', s' = { s with heap := h', toks := tk } ∧ (h'.IsListIter s.heap.objs.size l i ∧ h'.IsList l vs.toArray) ∧ Fr h₀ env.locals h' m' ∧ News h₀ env.locals h' ((c, oc') :: nx) ∧ oc'.data = .cell v' ∧ (∀ p ∈ nx, p.1 ≠ s.heap.objs.size) ∧ J i m' nx ∧ i ≤ vs.length ∧ k = vs.length + 1 - i) ?_ (vs.length + 1)
    ⟨_, s.toks, m₀, news, 0, oc, v₀, rfl, ⟨⟨_, Heap.get?_push_size _ rfl, rfl, rfl⟩, hls.at fun o e => Heap.get?_push_of_some _ e⟩, F.push _, (fun p hp => ⟨Heap.get?_push_of_some _ (N p hp).1, (N p hp).2⟩), hoc, (fun p hp => Nat.ne_of_lt (Heap.lt_size (N p (List.mem_cons_of_mem _ hp)).1)), hj, Nat.zero_le _, rfl⟩
  rintro k s' ⟨h', tk, m', nx, i, oc', v', rfl, hst', F', N', hoc', hnI, hJ, hi, rfl⟩
  obtain ⟨hl', hcn', hci'⟩ := keep _ _ _ hJ
  have hIL : s.heap.objs.size ≠ env.locals := Nat.ne_of_gt hLt
  have hIc : s.heap.objs.size ≠ c := Nat.ne_of_gt hct
  have hI0 : h₀.get? s.heap.objs.size = none := next_is_new F
  have hc0 := (N' (c, oc') (List.mem_cons_self ..)).2
  have next : ∀ h₁ : Heap, (∀ b o, b ∉ [s.heap.objs.size] → h'.get? b = some o → h₁.get? b = some o) → Fr h₀ env.locals h₁ m' ∧ News h₀ env.locals h₁ ((c, oc') :: nx) := fun h₁ hk₁ =>
    ⟨⟨F'.ns.at' fun o e => hk₁ _ o (fun q => hIL (List.mem_singleton.mp q).symm) e, fun b o e => hk₁ b o (fun q => by rw [List.mem_singleton.mp q, hI0] at e; cases e) (F'.keep b o e), F'.above⟩, fun p hp => ⟨hk₁ _ _ (fun q => by
      rcases List.mem_cons.mp hp with rfl | hp
      · exact hIc (List.mem_singleton.mp q).symm
      · exact hnI p hp (List.mem_singleton.mp q)) (N' p hp).1, (N' p hp).2⟩⟩
  by_cases hlt' : i < vs.length
  · refine W.item i _ _ _ hlt' hst' fun v h₁ tk₁ hP hst₁ hk₁ => ?_
    obtain ⟨F₁, N₁⟩ := next h₁ hk₁
    refine wpAny_assign_Name (wpAny_storeName_cell hk hx hc ⟨oc', (N₁ (c, oc') (List.mem_cons_self ..)).1, hoc'⟩ fun h₂ hv₂ hs₂ => ?_)
    obtain ⟨o₂, ho₂, hd₂⟩ := hv₂
    have F₂ := ksk_fr F₁ hs₂ hc0.1 hc0.2
    have N₂n := ksk_news (fun p hp => N₁ p (List.mem_cons_of_mem _ hp)) hs₂ hcn'
    obtain ⟨oI, hoI, hoIc, hoId⟩ := hst₁.1
    have hI2 : h₂.get? s.heap.objs.size = some oI := (hs₂.2 _ hIc).trans hoI
    have N₂ : News h₀ env.locals h₂ ((c, o₂) :: ([(s.heap.objs.size, oI)] ++ nx)) := fun p hp => by
      rcases List.mem_cons.mp hp with rfl | hp
      · exact ⟨ho₂, hc0⟩
      · rcases List.mem_append.mp hp with hp | hp
        · rw [List.mem_singleton.mp hp]
          exact ⟨hI2, hIL, hI0⟩
        · exact N₂n p hp
    have hv : vs[i]? = some v := by simpa using hP
    have fin : ∀ s₃, CEnd h₀ env.locals c (J (i + 1)) [(s.heap.objs.size, oI)] { s with heap := h₂, toks := tk₁ } s₃ → ∃ mm, mm < vs.length + 1 - i ∧ (∃ h' tk m' nx i oc' v', s₃ = { s with heap := h', toks := tk } ∧ (h'.IsListIter s.heap.objs.size l i ∧ h'.IsList l vs.toArray) ∧ Fr h₀ env.locals h' m' ∧ News h₀ env.locals h' ((c, oc') :: nx) ∧ oc'.data = .cell v' ∧ (∀ p ∈ nx, p.1 ≠ s.heap.objs.size) ∧ J i m' nx ∧ i ≤ vs.length ∧ mm = vs.length + 1 - i) := by
      rintro s₃ ⟨h₃, tk₃, m₃, nx₃, oc₃, v₃, rfl, F₃, N₃, hoc₃, hJ₃⟩
      obtain ⟨hl₃, hcn₃, hci₃⟩ := keep _ _ _ hJ₃
      have hI3 := (N₃ (s.heap.objs.size, oI) (List.mem_cons_of_mem _ (List.mem_append_left _ (List.mem_singleton.mpr rfl)))).1
      refine ⟨vs.length + 1 - (i + 1), by omega, h₃, tk₃, m₃, nx₃, i + 1, oc₃, v₃, rfl, ⟨⟨oI, hI3, hoIc, hoId⟩, ⟨_, (N₃ _ (List.mem_cons_of_mem _ (List.mem_append_right _ hl₃))).1, rfl, nn, rfl⟩⟩, F₃, fun p hp => N₃ p ?_, hoc₃, fun p hp q => ?_, hJ₃, hlt', rfl⟩
      · rcases List.mem_cons.mp hp with rfl | hp
        · exact List.mem_cons_self ..
        · exact List.mem_cons_of_mem _ (List.mem_append_right _ hp)
      · have h4 := (N₃ p (List.mem_cons_of_mem _ (List.mem_append_right _ hp))).1
        rw [q, hI3] at h4
        have h5 := Option.some.inj h4
        have h6 := hci₃ p hp
        rw [← h5] at h6
        rcases h6 with h6 | h6
        · exact h6 _ hoId
        · exact h6 hoIc
    refine wpAny_mono (wpAny_passesOwn hE (turn i v m' nx h₂ tk₁ [(s.heap.objs.size, oI)] o₂ hv hJ (fun p hp => by rw [List.mem_singleton.mp hp]; exact hoIc) hd₂ F₂ N₂)) (fun f s₃ h₃ => ?_) fun _ _ e => e
    cases f with
    | ret v => exact h₃
    | brk => exact h₃
    | cont => exact fin _ h₃
    | next => exact fin _ h₃
  · have hin : i = vs.length := by omega
    subst hin
    refine W.done _ _ _ hst' fun h₁ tk₁ hk₁ => wpAny_execs_nil ?_
    obtain ⟨F₁, N₁⟩ := next h₁ hk₁
    exact done m' nx h₁ tk₁ oc' v' hJ hoc' F₁ N₁
end
end
section
open PySem PySem.W PySem.Calls PyProof.Rows PySem.Spec
set_option linter.all false
set_option maxRecDepth 100000
set_option maxHeartbeats 400000
theorem fill18 : WalkO qv looseL (XL qv []) (InK KF) row0.toRowW dLaw [] (fun f vs => PySem.call f vs) → True := by
  k_fill
  exact fun _ => trivial
end
section
open PySem PySem.W PySem.Calls PyProof.Rows PySem.Spec
set_option linter.all false
set_option maxRecDepth 100000
set_option maxHeartbeats 400000
local macro_rules | `(tactic| news_mem) => `(tactic| k_mem)
section
variable {w : World} {pp : Program} {ll : List Str} {mean : ExcName → Option Value} {mg mb : Str → Option Value} {fa : Addr} {h₀ : Heap} {L : Addr} {m : Str → Option Value} {s : Shared} {Q : Flow → Shared → Prop} {E : Value → Shared → Prop} {news : List (Addr × Obj)}
variable {su d c : Addr} {sv : List Value} {si : List Int} {n : Nat} {t : Tok}
theorem st10 (B : Below callerA h₀ [] h₀) (F : Fr h₀ L s.heap m) (X : (KF w.params).In h₀) (T : Top pp ll mean mg mb h₀) (N : News h₀ L s.heap news)
    (hret : ∀ h' tk' r t, Fr h₀ L h' (fun y => if y = Str.ofString "sums" then some (.ref r) else m y) → News h₀ L h' ((r, listOf (List.toArray [.int 0 t]) 0) :: news) → Q .next { s with heap := h', toks := tk' }) :
    wpAny (model pw w) (AL L fa) (exec ls10.1 (eL L fa)) Q E s := by
  k_steps
  exact hret _ _ _ _ (by assumption) (by assumption)
theorem t11 (B : Below callerA h₀ [] h₀) (F : Fr h₀ L s.heap m) (X : (KF w.params).In h₀) (T : Top pp ll mean mg mb h₀) {oc : Obj} {x : Str} {tx tk : Tok} {k : Int} (N : News h₀ L s.heap ((L + 1 + 1, oc) :: news)) (hoc : oc.data = .cell (some (.ref d)))
    (hmd : (d, tup2 x tx k tk) ∈ news)
    (hsums : m (Str.ofString "sums") = some (.ref su)) (hms : (su, listOf sv.toArray n) ∈ news) (hsi : IntsAre sv si) (hsl : si.length ≤ 100)
    (hret : ∀ h' tk' r sv', Fr h₀ L h' (fun y => if y = Str.ofString "sums" then some (.ref r) else m y) → News h₀ L h' ((r, listOf (List.toArray sv') 0) :: (L + 1 + 1, oc) :: news) → IntsAre sv' (si ++ si.map fun y => k + y) → r ≠ L + 1 + 1 → Q .next { s with heap := h', toks := tk' }) :
    wpAny (model pw w) (AL L fa) (exec ls11_0.1 (eL L fa)) Q E s := by
  k_steps
  rename News h₀ L _ _ => kN
  rename Fr h₀ L _ _ => kF
  rename_i hI8 hL8 hD1 hh2 htk ho1 hD2 hws hh3 hI9 hl1 hh4
  exact hret _ _ _ _ kF (drop2 kN) hI9 (Nat.ne_of_gt hl1.2.1)
theorem News.sub {g h : Heap} {L : Addr} {a b : List (Addr × Obj)} (N : News g L h b) (hs : ∀ p ∈ a, p ∈ b) : News g L h a := fun p hp => N p (hs p hp)
/-- the items are tuples of the ledger: host and port -/
structure HostsAre (news : List (Addr × Obj)) (vs : List Value) (ds : List (Nat × Int)) : Prop where
  length : vs.length = ds.length
  get : ∀ (i : Nat) d, ds[i]? = some d → ∃ a tx tk, vs[i]? = some (.ref a) ∧ (a, tup2 ⟨#[97 + d.1]⟩ tx d.2 tk) ∈ news
theorem HostsAre.mono {a b : List (Addr × Obj)} {vs : List Value} {ds : List (Nat × Int)} (h : HostsAre a vs ds) (hs : ∀ p ∈ a, p ∈ b) : HostsAre b vs ds :=
  ⟨h.length, fun i d e => let ⟨x, tx, tk, e1, e2⟩ := h.get i d e; ⟨x, tx, tk, e1, hs _ e2⟩⟩
theorem HostsAre.pairs {a : List (Addr × Obj)} {vs : List Value} {ds : List (Nat × Int)} (h : HostsAre a vs ds) : PairsAre a vs (ds.map (·.2)) :=
  ⟨by rw [List.length_map]; exact h.length, fun i k e => by
    rw [List.getElem?_map] at e
    obtain ⟨d, hd, rfl⟩ := Option.map_eq_some_iff.mp e
    obtain ⟨x, tx, tk, e1, e2⟩ := h.get i d hd
    exact ⟨x, _, tx, tk, e1, e2⟩⟩
noncomputable def J11 (news : List (Addr × Obj)) (m : Str → Option Value) (ds : List (Nat × Int)) (c : Addr) (i : Nat) (m₁ : Str → Option Value) (nx : List (Addr × Obj)) : Prop :=
  ∃ su sv si n, nx = (su, listOf (List.toArray sv) n) :: news ∧ m₁ (Str.ofString "sums") = some (.ref su) ∧ IntsAre sv si ∧ si = sumsL [0] ((ds.take i).map (·.2)) ∧ (∀ y, y ≠ Str.ofString "sums" → m₁ y = m y) ∧ su ≠ c
theorem st11 (hE : PassesOwn (model pw w) (AL L fa) (eL L fa) E) (B : Below callerA h₀ [] h₀) (F : Fr h₀ L s.heap m) (X : (KF w.params).In h₀) (T : Top pp ll mean mg mb h₀) {oc : Obj} {v₀ : Option Value}
    {du su : Addr} {dv sv : List Value} {ds : List (Nat × Int)} {nd ns : Nat} {t : Tok}
    (N : News h₀ L s.heap ((L + 1 + 1, oc) :: (su, listOf (List.toArray [.int 0 t]) ns) :: news)) (hoc : oc.data = .cell v₀) (hcn : ∀ p ∈ news, p.1 ≠ L + 1 + 1) (hsc : su ≠ L + 1 + 1) (hno : ∀ p ∈ news, NotLI p.2)
    (hdue : m (Str.ofString "due") = some (.ref du)) (hmd : (du, listOf dv.toArray nd) ∈ news) (hds : HostsAre news dv ds) (hdl : ds.length ≤ 5)
    (hsums : m (Str.ofString "sums") = some (.ref su))
    (hret : ∀ h' tk' m' su' sv' n' oc' v', Fr h₀ L h' m' → News h₀ L h' ((L + 1 + 1, oc') :: (su', listOf (List.toArray sv') n') :: news) → oc'.data = .cell v' → m' (Str.ofString "sums") = some (.ref su') → IntsAre sv' (sumsL [0] (ds.map (·.2))) → (∀ y, y ≠ Str.ofString "sums" → m' y = m y) → Q .next { s with heap := h', toks := tk' }) :
    wpAny (model pw w) (AL L fa) (exec ls11.1 (eL L fa)) Q E s := by
  refine For_cellJ (l := du) (c := L + 1 + 1) (vs := dv) (nn := nd) (J11 news m ds (L + 1 + 1)) rfl rfl rfl rfl ?_ F N hoc ⟨su, _, [0], ns, rfl, hsums, IntsAre.cons _ _ .nil, rfl, fun _ _ => rfl, hsc⟩ ?_ ?_ ?_ (hE := hE)
  · intro Q' hq
    exact nameX_L F hdue hq
  · rintro i m₁ nx ⟨su', sv', si', n', rfl, _, _, _, _, hne⟩
    refine ⟨List.mem_cons_of_mem _ hmd, fun p hp => ?_, fun p hp => ?_⟩
    · rcases List.mem_cons.mp hp with rfl | hp
      · exact hne
      · exact hcn p hp
    · rcases List.mem_cons.mp hp with rfl | hp
      · exact .inl fun fs q => nomatch q
      · exact hno p hp
  · rintro i v m₁ nx h tk own oc' hv ⟨su', sv', si', n', rfl, hs', hsi', rfl, hm', hne⟩ hown hoc' F₁ N₁
    have hi : i < ds.length := by
      rw [← hds.length]
      exact (List.getElem?_eq_some_iff.mp hv).1
    obtain ⟨a, tx, tk2, e1, e2⟩ := hds.get i ds[i] (List.getElem?_eq_getElem hi)
    rw [e1] at hv
    cases hv
    have hlen : (sumsL [0] ((ds.take i).map (·.2))).length ≤ 100 := by
      rw [sumsL_length, List.length_map, List.length_take]
      have : min i ds.length ≤ 5 := by omega
      have q := Nat.pow_le_pow_right (n := 2) (by decide) this
      simp only [List.length_singleton]
      omega
    refine wpAny_execs_cons ?_
    refine t11 (s := { s with heap := h, toks := tk }) B F₁ X T N₁ hoc' (List.mem_append_right _ (List.mem_cons_of_mem _ e2)) hs' (List.mem_append_right _ (List.mem_cons_self ..)) hsi' hlen fun h' tk' r sv2 F2 N2 hI2 hr2 => ?_
    refine wpAny_execs_nil ?_
    refine CEnd.intro (nx := (r, listOf (List.toArray sv2) 0) :: news) F2 (News.sub N2 fun p hp => ?_) hoc' ⟨r, sv2, _, 0, rfl, if_pos rfl, hI2, ?_, fun y hy => (if_neg hy).trans (hm' y hy), hr2⟩
    · rcases List.mem_cons.mp hp with rfl | hp
      · exact List.mem_cons_of_mem _ (List.mem_cons_self ..)
      · rcases List.mem_append.mp hp with hp | hp
        · exact List.mem_cons_of_mem _ (List.mem_cons_of_mem _ (List.mem_append_left _ hp))
        · rcases List.mem_cons.mp hp with rfl | hp
          · exact List.mem_cons_self ..
          · exact List.mem_cons_of_mem _ (List.mem_cons_of_mem _ (List.mem_append_right _ (List.mem_cons_of_mem _ hp)))
    · rw [List.take_add_one, List.getElem?_eq_getElem hi, Option.toList_some, List.map_append]
      exact (sumsL_snoc _ _ _).symm
  · rintro m₁ nx h tk oc' v' ⟨su', sv', si', n', rfl, hs', hsi', rfl, hm', hne⟩ hoc' F₁ N₁
    rw [hds.length, List.take_length] at hsi'
    exact hret _ _ _ _ _ _ _ _ F₁ N₁ hoc' hs' hsi' hm'
end
end
section
open PySem PySem.W PySem.Calls PyProof.Rows PySem.Spec
set_option linter.all false
set_option maxRecDepth 100000
set_option maxHeartbeats 400000
section
variable {w : World} {pp : Program} {ll : List Str} {mean : ExcName → Option Value} {mg mb : Str → Option Value} {fa : Addr} {h₀ : Heap} {L : Addr} {m : Str → Option Value} {s : Shared} {Q : Flow → Shared → Prop} {E : Value → Shared → Prop} {news : List (Addr × Obj)}
variable {pe : Addr} {host : Str} {th tp t : Tok} {p d : Int}
noncomputable def refS (d : Int) : Str := if d.fmod 7 = 6 then Str.ofString "reply" else Str.ofString "proto"
theorem peer_head {g h : Heap} {L : Addr} {news : List (Addr × Obj)} {x : Addr × Obj} (N : News g L h news) (hx : x ∈ news) : News g L h (x :: news) := fun q hq => by
  rcases List.mem_cons.mp hq with rfl | hq
  · exact N _ hx
  · exact N _ hq
theorem ask_raw (h0 : 0 ≤ p) (h1 : p < 18) (B : Below callerA h₀ [] h₀) (F : Fr h₀ L s.heap m) (X : (KF w.params).In h₀) (N : News h₀ L s.heap news) (T : Top pp ll mean mg mb h₀) (hp : (pe, tup2 host th 21 tp) ∈ news) {Q : Value → Shared → Prop}
    (hret : ∀ h' tk' c u, Fr h₀ L h' m → News h₀ L h' ((c, listOf #[.str (refS d) u, .str (replyS p d) t] 0) :: news) → Q (.ref c) { s with heap := h', toks := tk' }) :
    wpAny (model pw w) (AL L fa) (call (.ref 175) [.str (replyS p d) t, .ref pe]) Q E s := by
  by_cases h : d.fmod 7 = 6
  · have e : refS d = Str.ofString "reply" := if_pos h
    rw [e] at hret
    exact asked_r _ t host th tp (raw6 h0 h1 h).2 (raw6 h0 h1 h).1 B F X (peer_head N hp) T fun h' tk' c u F' N' => hret h' tk' c u F' (drop2 N')
  · have e : refS d = Str.ofString "proto" := if_neg h
    rw [e] at hret
    obtain ⟨n, a, b, M, hab⟩ := raw_marks (d := d) h0 h1 h
    exact asked_p1 _ t host th tp M.short M.code M.left n M.right M.pos M.len (by rw [M.first, M.last]; exact str_ne hab) B F X (peer_head N hp) T fun h' tk' c u F' N' => hret h' tk' c u F' (drop2 N')
theorem ask_bad (h0 : 0 ≤ p) (h1 : p < 18) (hk : 3 < d.fmod 7) (B : Below callerA h₀ [] h₀) (F : Fr h₀ L s.heap m) (X : (KF w.params).In h₀) (N : News h₀ L s.heap news) (T : Top pp ll mean mg mb h₀) (hp : (pe, tup2 host th 21 tp) ∈ news) {Q : Value → Shared → Prop}
    (hret : ∀ h' tk' c u, Fr h₀ L h' m → News h₀ L h' ((c, listOf #[.str (refS d) u, .str (prepS (replyS p d)) t] 0) :: news) → Q (.ref c) { s with heap := h', toks := tk' }) :
    wpAny (model pw w) (AL L fa) (call (.ref 175) [.str (prepS (replyS p d)) t, .ref pe]) Q E s := by
  have m1 : d.fmod 7 < 7 := Int.fmod_lt_of_pos _ (by decide)
  by_cases h : d.fmod 7 = 6
  · have e : refS d = Str.ofString "reply" := if_pos h
    rw [e] at hret
    exact asked_r _ t host th tp (prep_short (reply_short h0 h1)) (prep6 h0 h1 h) B F X (peer_head N hp) T fun h' tk' c u F' N' => hret h' tk' c u F' (drop2 N')
  · have e : refS d = Str.ofString "proto" := if_neg h
    rw [e] at hret
    by_cases h5 : d.fmod 7 = 5
    · obtain ⟨n, M⟩ := prep5_marks (d := d) h0 h1 h5
      exact asked_p1 _ t host th tp M.short M.code M.left n M.right M.pos M.len (by rw [M.first, M.last]; exact str_ne (by decide)) B F X (peer_head N hp) T fun h' tk' c u F' N' => hret h' tk' c u F' (drop2 N')
    · obtain ⟨Pt, n, M, hsp, _, h4⟩ := prep_parts (d := d) h0 h1 (by omega)
      have hne := h4 (by omega)
      exact asked_s _ t host th tp M.short M.code M.left n M.right M.pos M.len (by rw [M.first, M.last]; exact bne_self_eq_false _) B F X (peer_head N hp) T (Pt.map (fun l => (⟨l.toArray⟩ : Str))) (by rw [M.first]; exact hsp) 0 (fun q => absurd (by rw [List.length_map] at q; exact q) hne)
        (fun q => absurd (by rw [List.length_map] at q; exact q) hne) fun _ h' tk' c u F' N' => hret h' tk' c u F' (drop2 N')
theorem ask_ok (h0 : 0 ≤ p) (h1 : p < 18) (hk : d.fmod 7 ≤ 3) (B : Below callerA h₀ [] h₀) (F : Fr h₀ L s.heap m) (X : (KF w.params).In h₀) (N : News h₀ L s.heap news) (T : Top pp ll mean mg mb h₀) (hp : (pe, tup2 host th 21 tp) ∈ news) {Q : Value → Shared → Prop}
    (hret : ∀ h' tk' c u, Fr h₀ L h' m → News h₀ L h' ((c, tup2 host th p u) :: news) → Q (.ref c) { s with heap := h', toks := tk' }) :
    wpAny (model pw w) (AL L fa) (call (.ref 175) [.str (prepS (replyS p d)) t, .ref pe]) Q E s := by
  obtain ⟨Pt, n, M, hsp, h5, _⟩ := prep_parts (d := d) h0 h1 (by omega)
  obtain ⟨hl, h3⟩ := h5 (by omega)
  have hl' : (Pt.map (fun l => (⟨l.toArray⟩ : Str))).length = 5 := by rw [List.length_map]; exact hl
  refine asked_s _ t host th tp M.short M.code M.left n M.right M.pos M.len (by rw [M.first, M.last]; exact bne_self_eq_false _) B F X (peer_head N hp) T (Pt.map (fun l => (⟨l.toArray⟩ : Str))) (by rw [M.first]; exact hsp) p (fun _ y hy => ?_)
    (fun _ h' tk' c u F' N' => hret h' tk' c u F' (drop2 N')) (fun q => absurd hl' q)
  rw [List.getElem?_map, h3] at hy
  have e : y = figT ((d.fdiv 189).fmod 3) p := (Option.some.inj hy).symm.trans (str_toArray _)
  rw [e]
  have ff := fig_facts p d h0 h1
  exact ⟨ff.1, ff.2.1⟩
end
end
section
open PySem PySem.W PySem.Calls PyProof.Rows PySem.Spec PySem.SeqAt
set_option linter.all false
set_option maxRecDepth 100000
set_option maxHeartbeats 400000
section
variable {prog : Program} {w : World} {A : Around} {E : Value → Shared → Prop} {s : Shared} {Q : Value → Shared → Prop} {h₀ : Heap} {L : Addr} {news : List (Addr × Obj)}
theorem eqAt_str (x : Str) (t u : Tok) : EqAt A s (.str x t) (.str x u) true := by
  have h := EqAt.str_str (A := A) (s := s) x t x u
  rwa [beq_self_eq_true] at h
theorem eqAt_int (x : Int) (t u : Tok) : EqAt A s (.int x t) (.int x u) true := by
  have h := EqAt.int_int (A := A) (s := s) x t x u
  rwa [beq_self_eq_true] at h
theorem ne_lists {l b : Addr} {xs ys : List Value} (hl : s.heap.IsList l xs.toArray) (hb : s.heap.IsList b ys.toArray) (hlen : xs.length = ys.length) (hu : A.units < cLine)
    (he : ∀ (j : Nat) x y, xs[j]? = some x → ys[j]? = some y → EqAt A.in1 s x y true) (h : Q (.bool false) s) : wpAny (model prog w) A (compareOp .NotEq (.ref l) (.ref b)) Q E s := by
  have q := RcNeAt.lists (A := A) (s := s) (e := fun _ => true) hl hb (by simpa using hlen) hu fun j h1 h2 => he j _ _ (by simp) (by simp)
  refine q prog w E Q ?_
  have e : (!(List.range xs.toArray.size).all fun _ => true) = false := by simp
  rw [e]
  exact h
theorem eqAt_tup {a b : Addr} {x : Str} {k : Int} {t u t' u' : Tok} (ha : s.heap.get? a = some (tup2 x t k u)) (hb : s.heap.get? b = some (tup2 x t' k u')) (hu : A.units < cLine) : EqAt A s (.ref a) (.ref b) true := by
  by_cases h : a = b
  · subst h; exact EqAt.same _
  · refine EqAt.of_refs h ?_
    have q := RcAt.tuples (A := A) (s := s) (e := fun _ => true) (items := #[.str x t, .int k u]) (items2 := #[.str x t', .int k u']) ⟨_, ha, rfl, _, rfl⟩ ⟨_, hb, rfl, _, rfl⟩ hu fun j h1 h2 => by
      have hj : j < 2 := h1
      match j, hj with
      | 0, _ => exact eqAt_str x t t'
      | 1, _ => exact eqAt_int k u u'
    exact q
theorem ne_tup {a b : Addr} {x : Str} {k : Int} {t u t' u' : Tok} (N : News h₀ L s.heap news) (ma : (a, tup2 x t k u) ∈ news) (mb : (b, tup2 x t' k u') ∈ news) (hu : A.units < cLine) (h : Q (.bool false) s) :
    wpAny (model prog w) A (compareOp .NotEq (.ref a) (.ref b)) Q E s := by
  have q := RcNeAt.tuples (A := A) (s := s) (e := fun _ => true) (items := #[.str x t, .int k u]) (items2 := #[.str x t', .int k u']) ⟨_, (N _ ma).1, rfl, _, rfl⟩ ⟨_, (N _ mb).1, rfl, _, rfl⟩ hu fun j h1 h2 => by
    have hj : j < 2 := h1
    match j, hj with
    | 0, _ => exact eqAt_str x t t'
    | 1, _ => exact eqAt_int k u u'
  exact q prog w E Q h
theorem ne_l2 {a b : Addr} {x y : Str} {t u t' u' : Tok} {n n' : Nat} (N : News h₀ L s.heap news) (ma : (a, listOf #[.str x t, .str y u] n) ∈ news) (mb : (b, listOf #[.str x t', .str y u'] n') ∈ news) (hu : A.units < cLine) (h : Q (.bool false) s) :
    wpAny (model prog w) A (compareOp .NotEq (.ref a) (.ref b)) Q E s := by
  refine ne_lists (xs := [.str x t, .str y u]) (ys := [.str x t', .str y u']) ⟨_, (N _ ma).1, rfl, _, rfl⟩ ⟨_, (N _ mb).1, rfl, _, rfl⟩ rfl hu (fun j p q hp hq => ?_) h
  match j with
  | 0 => cases hp; cases hq; exact eqAt_str x t t'
  | 1 => cases hp; cases hq; exact eqAt_str y u u'
  | j + 2 => simp at hp
end
end
section
open PySem PySem.W PySem.Calls PyProof.Rows PySem.Spec
set_option linter.all false
set_option maxRecDepth 100000
set_option maxHeartbeats 400000
theorem fill19 : WalkO qv looseL (XL qv []) (InK KF) row0.toRowW dLaw [] (fun f vs => PySem.call f vs) → True := by
  k_fill
  exact fun _ => trivial
end
section
open PySem PySem.W PySem.Calls PyProof.Rows PySem.Spec
local macro_rules | `(tactic| news_mem) => `(tactic| k_mem)
local macro_rules | `(tactic| walk_at "compareOp NotEq ref ref") => `(tactic| (k_here; (with_reducible show wpAny _ _ (compareOp CmpOp.NotEq (Value.ref _) (Value.ref _)) _ _ _); k_dflt (first | (refine' ne_l2 ?N ?ma ?mb ?hu ?_; (case N => k_asm); (case ma => k_mem); (case mb => k_mem); (case hu => exact Nat.le_of_ble_eq_true rfl); k_whole) | (refine' ne_tup ?N ?ma ?mb ?hu ?_; (case N => k_asm); (case ma => k_mem); (case mb => k_mem); (case hu => exact Nat.le_of_ble_eq_true rfl); k_whole))))
section
open PySem PySem.W PySem.Calls PyProof.Rows PySem.Spec
set_option linter.all false
set_option maxRecDepth 100000
set_option maxHeartbeats 400000
local macro_rules | `(tactic| walk_at "call ref") => `(tactic| (k_here; k_dflt (refine' FnClaim.use (reply_c _ _ _ _ ?h0 ?h1) ?B ?F ?X ?N ?T ?hk ?hd ?hu ?_; (case F => k_asm); (case N => k_asm); (case h0 => omega); (case h1 => omega); (case B => assumption); (case X => assumption); (case T => assumption); (case hk => first | exact rfl | with_reducible assumption); (case hd => ktr_room); (case hu => ktr_units); k_whole); intro t' h' tk' F' N'; (try dsimp only)))
local macro_rules | `(tactic| walk_at "call ref") => `(tactic| (k_here; k_dflt (refine' FnClaim.use (prep_c _ _ ?hx) ?B ?F ?X ?N ?T ?hk ?hd ?hu ?_; (case F => k_asm); (case N => k_asm); (case hx => exact Nat.le_trans (reply_short (by omega) (by omega)) (by decide)); (case B => assumption); (case X => assumption); (case T => assumption); (case hk => first | exact rfl | with_reducible assumption); (case hd => ktr_room); (case hu => ktr_units); k_whole); intro t' h' tk' F' N'; (try dsimp only)))
local macro_rules | `(tactic| walk_at "call builtin:chr") => `(tactic| (k_here; (with_reducible show wpAny _ _ (PySem.call (Value.builtin "chr") [Value.int _ _]) _ _ _); k_dflt (refine' PyProof.Rows.chr_of_range ?h0 ?h1 ?_; (case h0 => omega); (case h1 => omega); k_whole)))
section
variable {w : World} {pp : Program} {ll : List Str} {mean : ExcName → Option Value} {mg mb : Str → Option Value} {fa : Addr} {h₀ : Heap} {L : Addr} {m : Str → Option Value} {s : Shared} {Q : Flow → Shared → Prop} {E : Value → Shared → Prop} {news : List (Addr × Obj)}
variable {cl : Addr} {cv : List Value} {ci : List Int} {nc i : Nat} {tk : Tok}
theorem bb0 (B : Below callerA h₀ [] h₀) (F : Fr h₀ L s.heap m) (X : (KF w.params).In h₀) (N : News h₀ L s.heap news) (T : Top pp ll mean mg mb h₀) (hi : i < 5)
    (hk : m (Str.ofString "k") = some (.int (0 + (i : Nat)) tk)) (hcells : m (Str.ofString "cells") = some (.ref cl)) (hmc : (cl, listOf cv.toArray nc) ∈ news) (hci : IntsAre cv ci) (hcl : ci.length ≤ 1000) (hc10 : ci.length = 10)
    (hret : ∀ h' tk' P t, 0 ≤ P → P < 18 → Fr h₀ L h' (fun y => if y = Str.ofString "port" then some (.int P t) else m y) → News h₀ L h' news → Q .next { s with heap := h', toks := tk' }) :
    wpAny (model pw w) (AL L fa) (exec ls4_0.1 (eL L fa)) Q E s := by
  k_steps
  refine hret _ _ _ _ (Int.fmod_nonneg_of_pos _ ?_) (Int.lt_of_lt_of_le (Int.fmod_lt_of_pos _ ?_) ?_) (by assumption) (by assumption)
  · have h := Int.pow_pos (n := 2) (m := (4 - (0 + (i : Int))).toNat) (by decide)
    omega
  · have h := Int.pow_pos (n := 2) (m := (4 - (0 + (i : Int))).toNat) (by decide)
    omega
  · have h := Nat.pow_le_pow_right (n := 2) (by decide) (show (4 - (0 + (i : Int))).toNat ≤ 4 by omega)
    have e : ((2 ^ (4 - (0 + (i : Int))).toNat : Nat) : Int) = (2 : Int) ^ (4 - (0 + (i : Int))).toNat := by simp
    omega
theorem bb1 (B : Below callerA h₀ [] h₀) (F : Fr h₀ L s.heap m) (X : (KF w.params).In h₀) (N : News h₀ L s.heap news) (T : Top pp ll mean mg mb h₀) (hi : i < 5)
    (hk : m (Str.ofString "k") = some (.int (0 + (i : Nat)) tk)) (hcells : m (Str.ofString "cells") = some (.ref cl)) (hmc : (cl, listOf cv.toArray nc) ∈ news) (hci : IntsAre cv ci) (hcl : ci.length ≤ 1000) (hc10 : ci.length = 10)
    (hret : ∀ h' tk' t, Fr h₀ L h' (fun y => if y = Str.ofString "kind" then some (.int ((ci.getD (i + 5) 0).fmod 7) t) else m y) → News h₀ L h' news → Q .next { s with heap := h', toks := tk' }) :
    wpAny (model pw w) (AL L fa) (exec ls4_1.1 (eL L fa)) Q E s := by
  k_steps
  rename Fr h₀ L _ _ => kF
  have e : (0 + (i : Int) + 5).toNat = i + 5 := by omega
  rw [e] at kF
  exact hret _ _ _ kF (by assumption)
theorem bb2 (B : Below callerA h₀ [] h₀) (F : Fr h₀ L s.heap m) (X : (KF w.params).In h₀) (N : News h₀ L s.heap news) (T : Top pp ll mean mg mb h₀) (hi : i < 5)
    (hk : m (Str.ofString "k") = some (.int (0 + (i : Nat)) tk))
    (hret : ∀ h' tk' pe t u, Fr h₀ L h' (fun y => if y = Str.ofString "peer" then some (.ref pe) else m y) → News h₀ L h' ((pe, tup2 ⟨#[97 + i]⟩ t 21 u) :: news) → (∀ q ∈ news, q.1 < pe) → Q .next { s with heap := h', toks := tk' }) :
    wpAny (model pw w) (AL L fa) (exec ls4_2.1 (eL L fa)) Q E s := by
  k_steps
  rename Fr h₀ L _ _ => kF
  rename News h₀ L _ _ => kN
  rename (∀ p ∈ news, p.1 < _) => l1
  have e : (97 + (0 + (i : Int))).toNat = 97 + i := by omega
  rw [e] at kN
  exact hret _ _ _ _ _ kF kN l1
theorem bb3 (B : Below callerA h₀ [] h₀) (F : Fr h₀ L s.heap m) (X : (KF w.params).In h₀) (N : News h₀ L s.heap news) (T : Top pp ll mean mg mb h₀) (hi : i < 5) {P : Int} {tP : Tok} (h0 : 0 ≤ P) (h1 : P < 18)
    (hk : m (Str.ofString "k") = some (.int (0 + (i : Nat)) tk)) (hcells : m (Str.ofString "cells") = some (.ref cl)) (hmc : (cl, listOf cv.toArray nc) ∈ news) (hci : IntsAre cv ci) (hcl : ci.length ≤ 1000) (hc10 : ci.length = 10)
    (hport : m (Str.ofString "port") = some (.int P tP))
    (hret : ∀ h' tk' t, Fr h₀ L h' (fun y => if y = Str.ofString "reply" then some (.str (replyS P (ci.getD (i + 5) 0)) t) else m y) → News h₀ L h' news → Q .next { s with heap := h', toks := tk' }) :
    wpAny (model pw w) (AL L fa) (exec ls4_3.1 (eL L fa)) Q E s := by
  k_steps
  rename Fr h₀ L _ _ => kF
  have e : (0 + (i : Int) + 5).toNat = i + 5 := by omega
  rw [e] at kF
  exact hret _ _ _ kF (by assumption)
theorem bb4 (B : Below callerA h₀ [] h₀) (F : Fr h₀ L s.heap m) (X : (KF w.params).In h₀) (N : News h₀ L s.heap news) (T : Top pp ll mean mg mb h₀) {d : Int} {tk : Tok}
    (hkind : m (Str.ofString "kind") = some (.int (d.fmod 7) tk))
    (hret : ∀ h' tk' t, Fr h₀ L h' (fun y => if y = Str.ofString "refused" then some (.str (refS d) t) else m y) → News h₀ L h' news → Q .next { s with heap := h', toks := tk' }) :
    wpAny (model pw w) (AL L fa) (exec ls4_4.1 (eL L fa)) Q E s := by
  k_steps
  · rename (d.fmod 7 = 6) => ha
    have e : refS d = Str.ofString "reply" := if_pos ha
    rw [e] at hret
    exact hret _ _ _ (by assumption) (by assumption)
  · rename (d.fmod 7 ≠ 6) => ha
    have e : refS d = Str.ofString "proto" := if_neg ha
    rw [e] at hret
    exact hret _ _ _ (by assumption) (by assumption)
variable {pe to : Addr} {host : Str} {th tp tr tf tq tk t2 tP : Tok} {P d : Int}
theorem bb6 (B : Below callerA h₀ [] h₀) (F : Fr h₀ L s.heap m) (X : (KF w.params).In h₀) (N : News h₀ L s.heap news) (T : Top pp ll mean mg mb h₀) (h0 : 0 ≤ P) (h1 : P < 18)
    (hreply : m (Str.ofString "reply") = some (.str (replyS P d) tr))
    (hret : ∀ h' tk' t, Fr h₀ L h' (fun y => if y = Str.ofString "prepared" then some (.str (prepS (replyS P d)) t) else m y) → News h₀ L h' news → Q .next { s with heap := h', toks := tk' }) :
    wpAny (model pw w) (AL L fa) (exec ls4_6.1 (eL L fa)) Q E s := by
  k_steps
  exact hret _ _ _ (by assumption) (by assumption)
theorem bb8b (B : Below callerA h₀ [] h₀) (F : Fr h₀ L s.heap m) (X : (KF w.params).In h₀) (N : News h₀ L s.heap news) (T : Top pp ll mean mg mb h₀) (hbad : 3 < d.fmod 7)
    (hkind : m (Str.ofString "kind") = some (.int (d.fmod 7) tk)) (href : m (Str.ofString "refused") = some (.str (refS d) tf)) (hprep : m (Str.ofString "prepared") = some (.str (prepS (replyS P d)) tq))
    (htold : m (Str.ofString "told") = some (.ref to)) (hmt : (to, listOf #[.str (refS d) t2, .str (prepS (replyS P d)) tq] 0) ∈ news)
    (hret : ∀ h' tk', Fr h₀ L h' m → News h₀ L h' news → Q .next { s with heap := h', toks := tk' }) :
    wpAny (model pw w) (AL L fa) (exec ls4_8.1 (eL L fa)) Q E s := by
  k_steps
  exact hret _ _ (by assumption) (drop1 (by assumption))
end
end
section
open PySem PySem.W PySem.Calls PyProof.Rows PySem.Spec
set_option linter.all false
set_option maxRecDepth 100000
set_option maxHeartbeats 400000
theorem fill19a : WalkO qv looseL (XL qv []) (InK KF) row0.toRowW dLaw [] (fun f vs => PySem.call f vs) → True := by
  k_fill
  exact fun _ => trivial
end
section
open PySem PySem.W PySem.Calls PyProof.Rows PySem.Spec
set_option linter.all false
set_option maxRecDepth 100000
set_option maxHeartbeats 400000
local macro_rules | `(tactic| walk_at "call ref") => `(tactic| (k_here; k_dflt (refine' ask_raw ?h0 ?h1 ?B ?F ?X ?N ?T ?hp ?_; (case F => k_asm); (case N => k_asm); (case hp => k_mem); (case h0 => omega); (case h1 => omega); (case B => assumption); (case X => assumption); (case T => assumption); k_whole); intro h' tk' c' u' F' N'; (try dsimp only)))
section
variable {w : World} {pp : Program} {ll : List Str} {mean : ExcName → Option Value} {mg mb : Str → Option Value} {fa : Addr} {h₀ : Heap} {L : Addr} {m : Str → Option Value} {s : Shared} {Q : Flow → Shared → Prop} {E : Value → Shared → Prop} {news : List (Addr × Obj)}
variable {pe to : Addr} {host : Str} {th tp tr tf tq tk t2 tP : Tok} {P d : Int}
theorem bb5 (B : Below callerA h₀ [] h₀) (F : Fr h₀ L s.heap m) (X : (KF w.params).In h₀) (N : News h₀ L s.heap news) (T : Top pp ll mean mg mb h₀) (h0 : 0 ≤ P) (h1 : P < 18)
    (hpeer : m (Str.ofString "peer") = some (.ref pe)) (hmp : (pe, tup2 host th 21 tp) ∈ news) (hreply : m (Str.ofString "reply") = some (.str (replyS P d) tr)) (href : m (Str.ofString "refused") = some (.str (refS d) tf))
    (hret : ∀ h' tk', Fr h₀ L h' m → News h₀ L h' news → Q .next { s with heap := h', toks := tk' }) :
    wpAny (model pw w) (AL L fa) (exec ls4_5.1 (eL L fa)) Q E s := by
  k_steps
  exact hret _ _ (by assumption) (drop1 (drop1 (by assumption)))
end
end
section
open PySem PySem.W PySem.Calls PyProof.Rows PySem.Spec
set_option linter.all false
set_option maxRecDepth 100000
set_option maxHeartbeats 400000
theorem fill19b : WalkO qv looseL (XL qv []) (InK KF) row0.toRowW dLaw [] (fun f vs => PySem.call f vs) → True := by
  k_fill
  exact fun _ => trivial
end
section
open PySem PySem.W PySem.Calls PyProof.Rows PySem.Spec
set_option linter.all false
set_option maxRecDepth 100000
set_option maxHeartbeats 400000
local macro_rules | `(tactic| walk_at "call ref") => `(tactic| (k_here; k_dflt (refine' ask_bad ?h0 ?h1 ?hk ?B ?F ?X ?N ?T ?hp ?_; (case F => k_asm); (case N => k_asm); (case hp => k_mem); (case h0 => omega); (case h1 => omega); (case hk => omega); (case B => assumption); (case X => assumption); (case T => assumption); k_whole); intro h' tk' c' u' F' N'; (try dsimp only)))
local macro_rules | `(tactic| walk_at "no such step 0") => `(tactic| fail)
section
variable {w : World} {pp : Program} {ll : List Str} {mean : ExcName → Option Value} {mg mb : Str → Option Value} {fa : Addr} {h₀ : Heap} {L : Addr} {m : Str → Option Value} {s : Shared} {Q : Flow → Shared → Prop} {E : Value → Shared → Prop} {news : List (Addr × Obj)}
variable {pe to : Addr} {host : Str} {th tp tr tf tq tk t2 tP : Tok} {P d : Int}
theorem bb7b (B : Below callerA h₀ [] h₀) (F : Fr h₀ L s.heap m) (X : (KF w.params).In h₀) (N : News h₀ L s.heap news) (T : Top pp ll mean mg mb h₀) (h0 : 0 ≤ P) (h1 : P < 18) (hbad : 3 < d.fmod 7)
    (hpeer : m (Str.ofString "peer") = some (.ref pe)) (hmp : (pe, tup2 host th 21 tp) ∈ news) (hprep : m (Str.ofString "prepared") = some (.str (prepS (replyS P d)) tq))
    (hret : ∀ h' tk' c u, Fr h₀ L h' (fun y => if y = Str.ofString "told" then some (.ref c) else m y) → News h₀ L h' ((c, listOf #[.str (refS d) u, .str (prepS (replyS P d)) tq] 0) :: news) → Q .next { s with heap := h', toks := tk' }) :
    wpAny (model pw w) (AL L fa) (exec ls4_7.1 (eL L fa)) Q E s := by
  k_steps
  exact hret _ _ _ _ (by assumption) (by assumption)
end
end
section
open PySem PySem.W PySem.Calls PyProof.Rows PySem.Spec
set_option linter.all false
set_option maxRecDepth 100000
set_option maxHeartbeats 400000
theorem fill19c : WalkO qv looseL (XL qv []) (InK KF) row0.toRowW dLaw [] (fun f vs => PySem.call f vs) → True := by
  k_fill
  exact fun _ => trivial
end
section
open PySem PySem.W PySem.Calls PyProof.Rows PySem.Spec
set_option linter.all false
set_option maxRecDepth 100000
set_option maxHeartbeats 400000
local macro_rules | `(tactic| walk_at "call ref") => `(tactic| (k_here; k_dflt (refine' ask_ok ?h0 ?h1 ?hk ?B ?F ?X ?N ?T ?hp ?_; (case F => k_asm); (case N => k_asm); (case hp => k_mem); (case h0 => omega); (case h1 => omega); (case hk => omega); (case B => assumption); (case X => assumption); (case T => assumption); k_whole); intro h' tk' c' u' F' N'; (try dsimp only)))
section
variable {w : World} {pp : Program} {ll : List Str} {mean : ExcName → Option Value} {mg mb : Str → Option Value} {fa : Addr} {h₀ : Heap} {L : Addr} {m : Str → Option Value} {s : Shared} {Q : Flow → Shared → Prop} {E : Value → Shared → Prop} {news : List (Addr × Obj)}
variable {pe to : Addr} {host : Str} {th tp tr tf tq tk t2 tP : Tok} {P d : Int}
theorem bb7o (B : Below callerA h₀ [] h₀) (F : Fr h₀ L s.heap m) (X : (KF w.params).In h₀) (N : News h₀ L s.heap news) (T : Top pp ll mean mg mb h₀) (h0 : 0 ≤ P) (h1 : P < 18) (hok : d.fmod 7 ≤ 3)
    (hpeer : m (Str.ofString "peer") = some (.ref pe)) (hmp : (pe, tup2 host th 21 tp) ∈ news) (hprep : m (Str.ofString "prepared") = some (.str (prepS (replyS P d)) tq))
    (hret : ∀ h' tk' c u, Fr h₀ L h' (fun y => if y = Str.ofString "told" then some (.ref c) else m y) → News h₀ L h' ((c, tup2 host th P u) :: news) → Q .next { s with heap := h', toks := tk' }) :
    wpAny (model pw w) (AL L fa) (exec ls4_7.1 (eL L fa)) Q E s := by
  k_steps
  exact hret _ _ _ _ (by assumption) (by assumption)
end
end
end
end
end Mine
end
section
namespace Mine
section
open PySem PySem.W PySem.Calls PyProof.Rows PySem.Spec
set_option linter.all false
set_option maxRecDepth 100000
set_option maxHeartbeats 400000
theorem fill20 : WalkO qv looseL (XL qv []) (InK KF) row0.toRowW dLaw [] (fun f vs => PySem.call f vs) → True := by
  k_fill
  exact fun _ => trivial
end
section
open PySem PySem.W PySem.Calls PyProof.Rows PySem.Spec
set_option linter.all false
set_option maxRecDepth 100000
set_option maxHeartbeats 400000
local macro_rules | `(tactic| k_mem) => `(tactic| with_reducible assumption)
theorem FnClaimU.use {n : Nat} {w : World} {mean : ExcName → Option Value} {mg mb : Str → Option Value} {f : Addr} {news news' : List (Addr × Obj)} {vs : List Value} {R : Tok → Value}
    {pp : Program} {ll : List Str} {dp un : Nat} {gd : Option (List Code)} {cn : Str} {cs : Scope} {a : Addr} {ccd : Value} {cl : List (Str × Addr)} {outer : List Env} {A₀ : Around} {base h₀ : Heap} {L : Addr} {m : Str → Option Value} {s : Shared} {Q E : Value → Shared → Prop}
    (C : FnClaimU n w mean mg mb f news news' vs R) (B : Below A₀ base outer h₀) (F : Fr h₀ L s.heap m) (X : (KF w.params).In h₀) (N : News h₀ L s.heap news) (T : Top pp ll mean mg mb h₀) (hk : cs.kind = .function)
    (hd : dp + 4 * n < recursionLimit) (hu : un + 30 * n < cLine)
    (hret : ∀ (t : Tok) (h' : Heap) (tk' : Nat), Fr h₀ L h' m → News h₀ L h' news' → Q (R t) { s with heap := h', toks := tk' }) :
    wpAny (model pw w) (ktrTop dp un gd cn cs L a ccd cl outer) (call (.ref f) vs) Q E s :=
  C _ _ _ _ _ _ _ _ _ _ _ _ _ _ _ _ _ _ _ B F X N T hk hd hu hret
theorem PairsAre.mono {a b : List (Addr × Obj)} {vs : List Value} {ns : List Int} (h : PairsAre a vs ns) (hs : ∀ p ∈ a, p ∈ b) : PairsAre b vs ns :=
  ⟨h.length, fun i k e => let ⟨x, y, tx, tk, e1, e2⟩ := h.get i k e; ⟨x, y, tx, tk, e1, hs _ e2⟩⟩
noncomputable abbrev lamObj (qual : Str) (p1 p2 p3 p4 : Pos) (pm ctv : Value) (c' : Addr) : Obj :=
  kla_obj (Str.ofString "<lambda>") qual { posonlyargs := [], args := [{ arg := Str.ofString "pair", annotation := none, pos := p1 }], vararg := none, kwonlyargs := [], kw_defaults := [], kwarg := none, defaults := [] }
    ((Expr.Name (Str.ofString "pair") p2).Subscript (Expr.Constant (Const.int 1) 0 p3) p4) { kind := ScopeKind.function, names := [(Str.ofString "pair", NameKind.local)], isGenerator := false, isCoroutine := false } [] pm c' ctv
theorem key_of {w : World} {mean : ExcName → Option Value} {mg mb : Str → Option Value} {news : List (Addr × Obj)} {f c' : Addr} {qual : Str} {p1 p2 p3 p4 : Pos} {pm ctv : Value} {oc : Obj} {cvs : Array Value} {ct : Tok}
    (hm : (f, lamObj qual p1 p2 p3 p4 pm ctv c') ∈ news) (hc : (c', oc) ∈ news) (hd : oc.data = .fields cvs) (hv : cvs[1]? = some (.str qual ct)) : KeyFn w mean mg mb f news := by
  intro a x tx k tk ha
  unfold FnClaim
  intros
  rename_i hret
  refine wpAny_call ?_
  (refine' kla_code ?k1 ?k2 ?k3 ?k4 ?k5 ?kA ?kF ?kK ?k6 ?k7 ?k8 ?k9 ?kB ?_ ?c2 ?c3 ?c4 ?c5; (case kA => exact rfl); (case kF => exact rfl); (case kK => assumption); (case k1 => k_asm); (case k2 => k_asm); (case k3 => k_asm); (case k4 => k_asm); (case k5 => k_asm); (case k6 => k_mem); (case k7 => exact codeRec_news (by k_asm) (by k_mem) (by assumption) (by assumption)); (case k8 => ktr_room); (case k9 => exact rfl); (case c5 => decide); (case kB => exact locs rfl); (case c2 => exact rfl); (case c3 => exact rfl); (case c4 => exact rfl); k_whole; intro g' L' h' FG' F' N' B' X' T'; (try dsimp only); (try k_lift B'); (try k_fold))
  k_steps
  exact hret 0 _ _ (by assumption) (by assumption)
end
end Mine
end
section
namespace Mine
section
open PySem PySem.W PySem.Calls PyProof.Rows PySem.Spec
set_option linter.all false
set_option maxRecDepth 100000
set_option maxHeartbeats 400000
theorem fill21 : WalkO qv looseL (XL qv []) (InK KF) row0.toRowW dLaw [] (fun f vs => PySem.call f vs) → True := by
  k_fill
  exact fun _ => trivial
theorem chr_host {prog : Program} {w : World} {A : Around} {E : Value → Shared → Prop} {s : Shared} {Q : Value → Shared → Prop} {i : Nat} {t : Tok} (hi : i < 5) (h : Q (.str ⟨#[97 + i]⟩ s.toks) { s with toks := s.toks + 1 }) :
    wpAny (model prog w) A (call (.builtin "chr") [.int (97 + (0 + (i : Nat))) t]) Q E s := by
  have e : (97 + (0 + (i : Int))).toNat = 97 + i := by omega
  refine PyProof.Rows.chr_of_range (by omega) (by omega) ?_
  rw [e]
  exact h
end
section
open PySem PySem.W PySem.Calls PyProof.Rows PySem.Spec
local macro_rules | `(tactic| k_mem) => `(tactic| first | with_reducible assumption | exact List.mem_cons_self .. | (refine List.mem_cons_of_mem _ ?_; k_mem) | (refine List.mem_append_right _ ?_; k_mem))
local macro_rules | `(tactic| news_mem) => `(tactic| k_mem)
local macro_rules | `(tactic| k_all) => `(tactic| with_reducible assumption)
local macro_rules | `(tactic| walk_at "eval Name") => `(tactic| (k_here; k_dflt (refine' nameX_L ?F ?hv ?_; (case F => k_asm); (case hv => first | with_reducible assumption | rfl | (repeat' (first | with_reducible assumption | refine ifne (by decide) ?_)))); k_whole))
local macro_rules | `(tactic| walk_at "compareOp NotEq ref ref") => `(tactic| (k_here; (with_reducible show wpAny _ _ (compareOp CmpOp.NotEq (Value.ref _) (Value.ref _)) _ _ _); k_dflt (refine' ne_tup ?N ?ma ?mb ?hu ?_; (case N => k_asm); (case ma => k_mem); (case mb => k_mem); (case hu => exact Nat.le_of_ble_eq_true rfl); k_whole)))
local macro_rules | `(tactic| walk_at "call builtin:chr") => `(tactic| (k_here; (with_reducible show wpAny _ _ (PySem.call (Value.builtin "chr") [Value.int _ _]) _ _ _); k_dflt (refine' chr_host ?hi ?_; (case hi => omega); k_whole)))
local macro_rules | `(tactic| walk_at "call ref") => `(tactic| (k_here; k_dflt (refine' FnClaimU.use (ins_c _ _ _ _ _ _ ?hi ?hl (cR _ _) (cR_le _ _) (cR_split ?ha) ?U) ?B ?F ?X ?N ?T ?hk ?hd ?hu ?_; (case F => k_asm); (case N => k_asm); (case hi => with_reducible assumption); (case ha => with_reducible assumption); (case hl => with_reducible assumption); (case U => k_upd); (case B => assumption); (case X => assumption); (case T => assumption); (case hk => first | exact rfl | with_reducible assumption); (case hd => ktr_room); (case hu => ktr_units); k_whole); intro t' h' tk' F' N'; (try dsimp only)))
local macro_rules | `(tactic| walk_at "call ref") => `(tactic| (k_here; k_dflt (refine' FnClaimK.use (ins_k _ _ _ _ _ _ _ _ _ _ ?hi ?hl (cR _ _) (cR_le _ _) (cR_split ?ha) ?hK ?hF ?hd2 ?U) ?B ?F ?X ?N ?T ?hk ?hd ?hu ?_; (case F => k_asm); (case N => k_asm); (case T => assumption); (case U => k_upd); (case hd2 => k_mem); (case hi => exact PairsAre.mono (by with_reducible assumption) (fun p hp => by k_mem)); (case ha => with_reducible assumption); (case hl => with_reducible assumption); (case hK => exact key_of (by k_mem) (by k_mem) (by assumption) (by assumption)); (case hF => exact ⟨_, _, _, _, by k_mem⟩); (case B => assumption); (case X => assumption); (case hk => first | exact rfl | with_reducible assumption); (case hd => ktr_room); (case hu => ktr_units); k_whole); intro t' h' tk' F' N'; (try dsimp only)))
section
open PySem PySem.W PySem.Calls PyProof.Rows PySem.Spec
set_option linter.all false
set_option maxRecDepth 100000
set_option maxHeartbeats 400000
section
variable {w : World} {pp : Program} {ll : List Str} {mean : ExcName → Option Value} {mg mb : Str → Option Value} {fa : Addr} {h₀ : Heap} {L : Addr} {m : Str → Option Value} {s : Shared} {Q : Flow → Shared → Prop} {E : Value → Shared → Prop} {news : List (Addr × Obj)}
variable {r pa du to : Addr} {rv pv dv : List Value} {ri ki : List Int} {nr np nd i : Nat} {th t2 tk tP tkind : Tok} {P d : Int} {rest : List (Addr × Obj)}
theorem bb8n (B : Below callerA h₀ [] h₀) (F : Fr h₀ L s.heap m) (X : (KF w.params).In h₀) (T : Top pp ll mean mg mb h₀) (C : CodeHd h₀ 179 177) (hi : i < 5) (hok : d.fmod 7 ≤ 3)
    (N : News h₀ L s.heap ((r, listOf rv.toArray nr) :: (pa, listOf pv.toArray np) :: (du, listOf dv.toArray nd) :: (177, tabObj #[]) :: rest))
    (o1 : @Ne Nat r pa) (o2 : @Ne Nat r du) (o3 : @Ne Nat pa du) (o4 : @Ne Nat 177 r) (o5 : @Ne Nat 177 pa) (o6 : @Ne Nat 177 du) (fr : ∀ p ∈ rest, p.1 ≠ r) (fp : ∀ p ∈ rest, p.1 ≠ pa) (fd : ∀ p ∈ rest, p.1 ≠ du) (ft : ∀ p ∈ rest, p.1 ≠ (177 : Nat))
    (hkind : m (Str.ofString "kind") = some (.int (d.fmod 7) tkind)) (hk : m (Str.ofString "k") = some (.int (0 + (i : Nat)) tk)) (hport : m (Str.ofString "port") = some (.int P tP))
    (hrow : m (Str.ofString "row") = some (.ref r)) (hpairs : m (Str.ofString "pairs") = some (.ref pa)) (hdue : m (Str.ofString "due") = some (.ref du)) (htold : m (Str.ofString "told") = some (.ref to)) (hmt : (to, tup2 ⟨#[97 + i]⟩ th P t2) ∈ rest)
    (hri : IntsAre rv ri) (hrl : ri.length ≤ 1000) (hasc : Asc ri) (hki : PairsAre rest pv ki) (hkl : ki.length ≤ 1000) (hkasc : Asc ki) (hdl : dv.length ≤ 5)
    (hret : ∀ h' tk' a c' oc' cvs ct t1 u1, Fr h₀ L h' m → News h₀ L h' ((r, listOf (List.toArray (kl_ins rv (cR ri P) (.int P t2))) (nr + 1)) :: (pa, listOf (List.toArray (kl_ins pv (cR ki P) (.ref to))) (np + 1)) :: (du, listOf (List.toArray (dv ++ [.ref a])) (nd + 1)) :: (177, tabObj #[rawInt 124, rawInt 45, .ref c']) :: (c', oc') :: (a, tup2 ⟨#[97 + i]⟩ t1 P u1) :: rest) →
      oc'.data = .fields cvs → cvs[1]? = some (.str ((eL L fa).qual ++ Str.ofString "<lambda>") ct) → r ≠ c' → pa ≠ c' → du ≠ c' → 177 ≠ c' → r ≠ a → pa ≠ a → du ≠ a → 177 ≠ a → Q .next { s with heap := h', toks := tk' }) :
    wpAny (model pw w) (AL L fa) (exec ls4_8.1 (eL L fa)) Q E s := by
  k_steps
  rename News h₀ L _ _ => kN
  rename Fr h₀ L _ _ => kF
  rename_i D1 h5 l1a t2a h4 tk2 f1 c1 oc1 vs1 t1a ct1 h3 tk1 d1 d2 l1b l2a t0a h2 tk0 D2 h1 l1c h0
  have e1 : dv.toArray.push (Value.ref D2) = (dv ++ [Value.ref D2]).toArray := by simp
  rw [e1] at kN
  refine hret _ _ D2 c1 oc1 vs1 t1a (tk0 + 1 + 1) tP kF (News.sub kN fun p hp => ?_) d1 d2 (Nat.ne_of_lt l1b.2.1) (Nat.ne_of_lt l1b.2.2.1) (Nat.ne_of_lt l1b.2.2.2.1) (Nat.ne_of_lt l1b.2.2.2.2.1) (Nat.ne_of_lt l1c.2.2.2.1) (Nat.ne_of_lt l1c.2.2.2.2.1) (Nat.ne_of_lt l1c.2.2.2.2.2.1) (Nat.ne_of_lt l1c.2.2.2.2.2.2.1)
  rcases List.mem_cons.mp hp with rfl | hp
  · k_mem
  rcases List.mem_cons.mp hp with rfl | hp
  · k_mem
  rcases List.mem_cons.mp hp with rfl | hp
  · k_mem
  rcases List.mem_cons.mp hp with rfl | hp
  · k_mem
  rcases List.mem_cons.mp hp with rfl | hp
  · k_mem
  rcases List.mem_cons.mp hp with rfl | hp
  · k_mem
  k_mem
end
end
section
open PySem PySem.W PySem.Calls PyProof.Rows PySem.Spec
set_option linter.all false
set_option maxRecDepth 100000
set_option maxHeartbeats 400000
theorem fill22 : WalkO qv looseL (XL qv []) (InK KF) row0.toRowW dLaw [] (fun f vs => PySem.call f vs) → True := by
  k_fill
  exact fun _ => trivial
end
section
open PySem PySem.W PySem.Calls PyProof.Rows PySem.Spec
set_option linter.all false
set_option maxRecDepth 100000
set_option maxHeartbeats 400000
local macro_rules | `(tactic| walk_at "no such step 0") => `(tactic| fail)
section
variable {w : World} {pp : Program} {ll : List Str} {mean : ExcName → Option Value} {mg mb : Str → Option Value} {fa : Addr} {h₀ : Heap} {L : Addr} {m : Str → Option Value} {s : Shared} {Q : Flow → Shared → Prop} {E : Value → Shared → Prop} {news : List (Addr × Obj)}
variable {r pa du to : Addr} {rv pv dv : List Value} {ri ki : List Int} {nr np nd i : Nat} {th t2 tk tP tkind : Tok} {P d : Int} {rest : List (Addr × Obj)} {cx : Addr} {ox : Obj} {vx : Array Value} {qx : Str} {tx : Tok}
theorem bb8h (B : Below callerA h₀ [] h₀) (F : Fr h₀ L s.heap m) (X : (KF w.params).In h₀) (T : Top pp ll mean mg mb h₀) (C : CodeHd h₀ 179 177) (hi : i < 5) (hok : d.fmod 7 ≤ 3)
    (N : News h₀ L s.heap ((r, listOf rv.toArray nr) :: (pa, listOf pv.toArray np) :: (du, listOf dv.toArray nd) :: (177, tabObj #[rawInt 124, rawInt 45, .ref cx]) :: rest))
    (hcx : (cx, ox) ∈ rest) (hox : ox.data = .fields vx) (hvx : vx[1]? = some (.str ((eL L fa).qual ++ Str.ofString "<lambda>") tx))
    (o1 : @Ne Nat r pa) (o2 : @Ne Nat r du) (o3 : @Ne Nat pa du) (o4 : @Ne Nat 177 r) (o5 : @Ne Nat 177 pa) (o6 : @Ne Nat 177 du) (fr : ∀ p ∈ rest, p.1 ≠ r) (fp : ∀ p ∈ rest, p.1 ≠ pa) (fd : ∀ p ∈ rest, p.1 ≠ du) (ft : ∀ p ∈ rest, p.1 ≠ (177 : Nat))
    (hkind : m (Str.ofString "kind") = some (.int (d.fmod 7) tkind)) (hk : m (Str.ofString "k") = some (.int (0 + (i : Nat)) tk)) (hport : m (Str.ofString "port") = some (.int P tP))
    (hrow : m (Str.ofString "row") = some (.ref r)) (hpairs : m (Str.ofString "pairs") = some (.ref pa)) (hdue : m (Str.ofString "due") = some (.ref du)) (htold : m (Str.ofString "told") = some (.ref to)) (hmt : (to, tup2 ⟨#[97 + i]⟩ th P t2) ∈ rest)
    (hri : IntsAre rv ri) (hrl : ri.length ≤ 1000) (hasc : Asc ri) (hki : PairsAre rest pv ki) (hkl : ki.length ≤ 1000) (hkasc : Asc ki) (hdl : dv.length ≤ 5)
    (hret : ∀ h' tk' a t1 u1, Fr h₀ L h' m → News h₀ L h' ((r, listOf (List.toArray (kl_ins rv (cR ri P) (.int P t2))) (nr + 1)) :: (pa, listOf (List.toArray (kl_ins pv (cR ki P) (.ref to))) (np + 1)) :: (du, listOf (List.toArray (dv ++ [.ref a])) (nd + 1)) :: (177, tabObj #[rawInt 124, rawInt 45, .ref cx]) :: (a, tup2 ⟨#[97 + i]⟩ t1 P u1) :: rest) →
      r ≠ a → pa ≠ a → du ≠ a → 177 ≠ a → Q .next { s with heap := h', toks := tk' }) :
    wpAny (model pw w) (AL L fa) (exec ls4_8.1 (eL L fa)) Q E s := by
  k_steps
  rename News h₀ L _ _ => kN
  rename Fr h₀ L _ _ => kF
  rename_i D1 h5 l1a t2a h4 tk2 f1 ct1 h3 tk1 l1b t0a h2 tk0 D2 h1 l1c h0
  have e1 : dv.toArray.push (Value.ref D2) = (dv ++ [Value.ref D2]).toArray := by simp
  rw [e1] at kN
  refine hret _ _ D2 (tk0 + 1 + 1) tP kF (News.sub kN fun p hp => ?_) (Nat.ne_of_lt l1c.2.2.1) (Nat.ne_of_lt l1c.2.2.2.1) (Nat.ne_of_lt l1c.2.2.2.2.1) (Nat.ne_of_lt l1c.2.2.2.2.2.1)
  rcases List.mem_cons.mp hp with rfl | hp
  · k_mem
  rcases List.mem_cons.mp hp with rfl | hp
  · k_mem
  rcases List.mem_cons.mp hp with rfl | hp
  · k_mem
  rcases List.mem_cons.mp hp with rfl | hp
  · k_mem
  rcases List.mem_cons.mp hp with rfl | hp
  · k_mem
  k_mem
end
end
end
end Mine
end
section
namespace Mine
section
open PySem PySem.W PySem.Calls PyProof.Rows PySem.Spec PyProof.Rows.LCg
set_option linter.all false
set_option maxRecDepth 100000
set_option maxHeartbeats 4000000
section
variable {prog : Program} {w : World} {A : Around} {E : Value → Shared → Prop} {s : Shared} {h₀ : Heap} {L : Addr} {m : Str → Option Value} {env : Env}
theorem pick_ints {vs : List Value} {ns : List Int} (hi : IntsAre vs ns) (lo up st : Option Int) : ∃ ms, IntsAre (slicePick vs.toArray lo up st).toList ms := by
  refine ⟨_, intsAre_ofList _ fun v hv => ?_⟩
  have hm : v ∈ vs := by
    unfold slicePick at hv
    rw [List.toList_toArray] at hv
    obtain ⟨i, _, e⟩ := List.mem_filterMap.mp hv
    have e' : vs[i]? = some v := by simpa using e
    exact List.mem_of_getElem? e'
  obtain ⟨n, t, e⟩ := hi.all v hm
  exact ⟨n, t, e⟩
theorem slice3_ints {news : List (Addr × Obj)} {value slice : PySem.Expr} {l : Addr} {vs : List Value} {ns : List Int} {vl vu vk : Value} {lo up st : Option Int} {ops : List Value} {Q : Value → Shared → Prop}
    (F : Fr h₀ L s.heap m) (N : News h₀ L s.heap news) (hl : s.heap.IsList l vs.toArray) (pl : IsPart vl lo) (pu : IsPart vu up) (pk : IsPart vk st) (h0 : st ≠ some 0) (hi : IntsAre vs ns)
    (h : ∀ D ws ms h', Fr h₀ L h' m → News h₀ L h' ((D, listOf (List.toArray ws) 0) :: news) → (∀ p ∈ news, p.1 < D) → IntsAre ws ms → Q (.ref D) { s with heap := h' })
    (hs : subscripted slice false (.ref l) (.ref s.heap.objs.size) = operate ops (getItem (.ref l) (.ref s.heap.objs.size))) (ht : ∀ r, letTemporaryGo value (.ref l) r = pure ()) (hz : vs.toArray.size ≤ sizeLine) :
    wpAny (model prog w) A (subscriptTail value slice (.ref l) (.ref s.heap.objs.size)) Q E { s with heap := s.heap.push { cls := .type "slice", data := .fields #[vl, vu, vk] } } := by
  obtain ⟨ms, hm⟩ := pick_ints hi lo up st
  exact kmk_slice3_lit F N hl pl pu pk h0 rfl (fun D h' F' N' l1 => h D _ ms h' F' N' l1 hm) hs ht hz
/-- what a comprehension's source is to be: an enumerate over a list of the ledger -/
noncomputable def SrcE (prog : Program) (w : World) (A : Around) (h₀ : Heap) (L : Addr) (m : Str → Option Value) (env : Env) (elt : Expr) (a b y : Str) (scope : Scope) (cl : List (Str × Addr)) (Q : Flow → Shared → Prop) (xv : Value) (s₁ : Shared) : Prop :=
  ∃ (e it l : Addr) (items : List Value) (n : Nat) (news : List (Addr × Obj)), xv = .ref e ∧ IsEnum s₁.heap e it 0 .none ∧ s₁.heap.IsListIter it l 0 ∧ Fr h₀ L s₁.heap m ∧ News h₀ L s₁.heap news ∧ (l, listOf items.toArray n) ∈ news ∧
    (e ≠ it ∧ l ≠ e ∧ l ≠ it ∧ L ≠ e ∧ L ≠ it ∧ h₀.get? e = none ∧ h₀.get? it = none) ∧ (∀ p ∈ news, p.1 ≠ e ∧ p.1 ≠ it) ∧ items.length ≤ 1000 ∧
    (∀ (i : Nat) (t : Tok) (x : Value) oe oi C oC D ys m₂ h tk (E' : Value → Shared → Prop), items[i]? = some x → NsObj oC m₂ → m₂ a = some (.int i t) → m₂ b = some x → Fr h₀ L h m → News h₀ L h ((e, oe) :: (it, oi) :: (C, oC) :: (D, lst ys) :: news) →
      wpAny (model prog w) A (eval elt (compEnvC scope cl C env)) (fun y s' => ∃ k t' h' tk', y = .int k t' ∧ s' = { s₁ with heap := h', toks := tk' } ∧ Fr h₀ L h' m ∧ News h₀ L h' ((e, oe) :: (it, oi) :: (C, oC) :: (D, lst ys) :: news)) E' { s₁ with heap := h, toks := tk }) ∧
    ∀ D ys ks h tk, IntsAre ys ks → ys.length = items.length → Fr h₀ L h (fun z => if z = y then some (.ref D) else m z) → News h₀ L h ((D, lst ys) :: news) → (∀ p ∈ news, p.1 ≠ D) → Q .next { s₁ with heap := h, toks := tk }
theorem Assign_E {elt iter : Expr} {a b y : Str} {pa pb tp py : Pos} {kk : Nat} {scope : Scope} {cl : List (Str × Addr)} {pos spos : Pos} {Q : Flow → Shared → Prop} (hh : A.handled = none) (hLe : env.locals = L)
    (hsw : swapsWith (.ListComp elt [⟨.Tuple [.Name a pa, .Name b pb] kk tp, iter, [], 0⟩] scope pos) (some (.Name y py)) spos.line env = pure true)
    (hclos : closureFor scope env = pure cl) (hcell : ∀ y ∈ scope.names, y.2 ≠ .cell) (hkind : scope.kind = .function)
    (hnames : ∀ y ∈ scope.names, y.2 = .local → scope.names.lookup y.1 = some .local) (hxa : scope.names.lookup a = some .local) (hxb : scope.names.lookup b = some .local) (hab : ¬ a = b)
    (hy : env.kindOf y = some .local) (hp : (env.scope.kind == .class || (env.scope.kind == .module && env.locals != env.globals)) = false)
    (h : wpAny (model prog w) A (eval iter env) (SrcE prog w A h₀ L m env elt a b y scope cl Q) E s)
    (hs : ∀ x, foldedSetIterable iter env x = pure x := by intro _; rfl) :
    wpAny (model prog w) A (exec (.Assign [.Name y py] (.ListComp elt [⟨.Tuple [.Name a pa, .Name b pb] kk tp, iter, [], 0⟩] scope pos) spos) env) Q E s := by
  subst hLe
  rw [exec_Assign_Name_used _ _ _ _ hsw]
  refine wpAny_bind (wpAny_standAt (wpAny_bind ?_))
  show wpAny _ A (do let _ ← comprehension (.ListComp elt [⟨.Tuple [.Name a pa, .Name b pb] kk tp, iter, [], 0⟩] scope pos) scope env _ (newList []) false (eval iter env) (some (assign (.Name y py) env))) _ _ s
  refine wpAny_bind (wpAny_mono (wpAny_comprehension_free (use := some (assign (.Name y py) env)) (Q := fun _ s' => Q .next s') rfl hs hclos hkind hnames
    (wpAny_mono h (fun xv s₂ h₁ => ?_) fun _ _ e => e)) (fun _ s' hq => wpAny_pure (wpAny_pure hq)) fun _ _ e => e)
  obtain ⟨e, it, l, items, n, news, rfl, hE, hI, F, N, hl, ⟨hei, hle, hli, hLe, hLi, he0, hi0⟩, off, hlen, turn, fin⟩ := h₁
  refine wpAny_pyIter_enum hE ?_
  refine wpAny_newObj_type (wpAny_newFunctionEnv hcell (by intro y hy; simp at hy) (fun h₁ hns₁ hsb₁ => ?_) hkind)
  dsimp only at hns₁ hsb₁ ⊢
  generalize hH2 : s₂.heap.push { cls := .type "list", dict := none, data := .seq ([] : List Value).toArray } = H2 at hns₁ hsb₁ ⊢
  have hC : H2.objs.size = s₂.heap.objs.size + 1 := by rw [← hH2, Heap.size_push]
  have hDC : s₂.heap.objs.size ≠ H2.objs.size := by rw [hC]; exact Nat.ne_of_lt (Nat.lt_succ_self _)
  have below : ∀ b, b < s₂.heap.objs.size → b ≠ H2.objs.size ∧ b ≠ s₂.heap.objs.size := fun b hb => ⟨by rw [hC]; exact Nat.ne_of_lt (Nat.lt_succ_of_lt hb), Nat.ne_of_lt hb⟩
  have helt : e < s₂.heap.objs.size := Heap.lt_size hE
  have hilt : it < s₂.heap.objs.size := by obtain ⟨_, x, _⟩ := hI; exact Heap.lt_size x
  have old : ∀ b o, s₂.heap.get? b = some o → h₁.get? b = some o := fun b o q => hsb₁.extBut b o (below b (Heap.lt_size q)).1 (Heap.get?_push_of_some _ (hH2 ▸ Heap.get?_push_of_some _ q))
  have hacc : h₁.get? s₂.heap.objs.size = some (lst []) := hsb₁.extBut _ _ hDC (Heap.get?_push_of_some _ (hH2 ▸ Heap.get?_push_size _ rfl))
  have fresh : ∀ a, s₂.heap.objs.size ≤ a → h₀.get? a = none := fun a ha => by
    cases q : h₀.get? a with
    | none => rfl
    | some o' => exact absurd (Heap.lt_size (F.keep a o' q)) (Nat.not_lt.mpr ha)
  have hD₀ : h₀.get? s₂.heap.objs.size = none := fresh _ (Nat.le_refl _)
  have hC₀ : h₀.get? H2.objs.size = none := fresh _ (by rw [hC]; exact Nat.le_succ _)
  have hLlt : env.locals < s₂.heap.objs.size := F.ns.lt
  have hDL : s₂.heap.objs.size ≠ env.locals := Ne.symm (below env.locals hLlt).2
  have hCL : H2.objs.size ≠ env.locals := Ne.symm (below env.locals hLlt).1
  have offC : ∀ p ∈ news, p.1 ≠ H2.objs.size ∧ p.1 ≠ s₂.heap.objs.size := fun p hp => below _ (Heap.lt_size (N p hp).1)
  have eC := below e helt
  have iC := below it hilt
  have W := WalksT.enumerate (prog := prog) (w := w) hh e it l hei hle hli items.toArray
  have hsz : items.toArray.size = items.length := List.size_toArray ..
  rw [hsz] at W
  have isl : ∀ h' : Heap, News h₀ env.locals h' ((s₂.heap.objs.size, lst []) :: news) → h'.IsList l items.toArray := fun h' N' => ⟨_, (N' _ (List.mem_cons_of_mem _ hl)).1, rfl, n, rfl⟩
  have loop : ∀ s₃ : Shared, s₃ = { s₂ with heap := h₁, toks := s₂.toks + ([] : List (Str × Value)).length } →
      codeAny (model prog w) A (.compLoop (.ListComp elt [⟨.Tuple [.Name a pa, .Name b pb] kk tp, iter, [], 0⟩] scope pos) 0 (.ref e) (.ref s₂.heap.objs.size) (compEnvC scope cl H2.objs.size env))
        (compPost (model prog w) A E (some (assign (.Name y py) env)) (fun _ s' => Q .next s') (.ref s₂.heap.objs.size) H2.objs.size) s₃ := by
    rintro s₃ rfl
    refine kcp_loop
      (fun k s' => ∃ h' tk i ys ks m', s' = { s₂ with heap := h', toks := tk } ∧ i ≤ items.length ∧ k = items.length + 1 - i ∧ ys.length = i ∧ IntsAre ys ks ∧ ((∃ old, IsEnum h' e it i old) ∧ h'.IsListIter it l i ∧ h'.IsList l items.toArray) ∧ Fr h₀ env.locals h' m ∧ h'.Ns H2.objs.size m' ∧
        News h₀ env.locals h' ((s₂.heap.objs.size, lst ys) :: news)) ?_ (items.length + 1)
      ⟨h₁, _, 0, [], [], _, rfl, Nat.zero_le _, rfl, rfl, .nil, ⟨⟨_, old _ _ hE⟩, hI.at fun o q => old _ o q, ⟨_, old _ _ (N _ hl).1, rfl, n, rfl⟩⟩, F.keeps old, hns₁, fun p hp => ?_⟩
    · rintro k s' ⟨h', tk, i, ys, ks, m', rfl, hi, rfl, hyl, hks, hst, F', hn', N'⟩
      by_cases hlt : i < items.length
      · refine W.item i _ _ _ hlt hst fun T vals h₂ tk₂ hP hT2 hTu hMid hk₂ => ?_
        obtain ⟨t, x, hx, rfl⟩ := hP
        refine W.go _ _ _ i T _ _ _ hMid fun h₃ hst₃ hk₃ => ?_
        have hT₃ : h₃.IsTuple T #[.int i t, x] := hTu.at fun o q => hk₃ T o (W.apart i T h₂ hMid) q
        have hx' : items[i]? = some x := by simpa using hx
        have up₃ : ∀ c o, c ≠ e → c ≠ it → h'.get? c = some o → h₃.get? c = some o := fun c o h1 h2 q => hk₃ c o (by simp [h1, h2]) (hk₂ c o (by simp [h1, h2]) q)
        refine kcp_assign (env := compEnvC scope cl H2.objs.size env) hh hT₃ (lookup_relabel_local hxa) (lookup_relabel_local hxb) (by simp [compEnvC, relabel, hkind]) (hn'.at' fun o q => up₃ _ o (Ne.symm eC.1) (Ne.symm iC.1) q) fun h₄ tk₄ hn₄ hs₄ => ?_
        have up : ∀ c o, c ≠ e → c ≠ it → c ≠ H2.objs.size → h'.get? c = some o → h₄.get? c = some o := fun c o h1 h2 h3 q => hs₄ c o h3 (up₃ c o h1 h2 q)
        obtain ⟨⟨old3, hE₃⟩, ⟨oi, hoi, hoic, hoid⟩, hl₃⟩ := hst₃
        have hE₄ : h₄.get? e = some _ := hs₄ e _ eC.1 hE₃
        have hI₄ : h₄.get? it = some oi := hs₄ it _ iC.1 hoi
        obtain ⟨oC, heC, hoC⟩ := ns_obj hn₄
        have F₄ : Fr h₀ env.locals h₄ m := ⟨F'.ns.at' fun o q => up _ o hLe hLi (Ne.symm hCL) q, fun c o q => up c o (fun z => by rw [z, he0] at q; cases q) (fun z => by rw [z, hi0] at q; cases q) (fun z => by rw [z, hC₀] at q; cases q) (F'.keep c o q), F'.above⟩
        have N₄ : News h₀ env.locals h₄ ((e, _) :: (it, oi) :: (H2.objs.size, oC) :: (s₂.heap.objs.size, lst ys) :: news) := fun q hq => by
          rcases List.mem_cons.mp hq with rfl | hq
          · exact ⟨hE₄, Ne.symm hLe, he0⟩
          · rcases List.mem_cons.mp hq with rfl | hq
            · exact ⟨hI₄, Ne.symm hLi, hi0⟩
            · rcases List.mem_cons.mp hq with rfl | hq
              · exact ⟨heC, hCL, hC₀⟩
              · have z := N' q hq
                rcases List.mem_cons.mp hq with rfl | hq
                · exact ⟨up _ _ (Ne.symm eC.2) (Ne.symm iC.2) hDC z.1, z.2⟩
                · exact ⟨up _ _ (off q hq).1 (off q hq).2 (offC q hq).1 z.1, z.2⟩
        refine wpAny_mono (turn i t x _ oi H2.objs.size oC s₂.heap.objs.size ys _ h₄ _ _ hx' hoC (by simp [hab]) (by simp) F₄ N₄) (fun y s₅ h₅ => ?_) fun _ _ q => q
        obtain ⟨kz, tz, h₅, tk₅, rfl, rfl, F₅, N₅⟩ := h₅
        have zE := (N₅ (e, _) List.mem_cons_self).1
        have zI := (N₅ (it, oi) (List.mem_cons_of_mem _ List.mem_cons_self)).1
        have zC := (N₅ (H2.objs.size, oC) (List.mem_cons_of_mem _ (List.mem_cons_of_mem _ List.mem_cons_self))).1
        have zD := (N₅ (s₂.heap.objs.size, lst ys) (List.mem_cons_of_mem _ (List.mem_cons_of_mem _ (List.mem_cons_of_mem _ List.mem_cons_self)))).1
        have N₅' : News h₀ env.locals h₅ news := fun q hq => N₅ q (List.mem_cons_of_mem _ (List.mem_cons_of_mem _ (List.mem_cons_of_mem _ (List.mem_cons_of_mem _ hq))))
        refine append_at (hsz := by show ys.toArray.size ≤ sizeLine; rw [List.size_toArray, hyl, sizeLine_eq]; omega) zD fun h₆ hs₆ hD₆ => ?_
        refine ⟨items.length + 1 - (i + 1), by omega, h₆, tk₅, i + 1, ys ++ [.int kz tz], ks ++ [kz], _, rfl, hlt, rfl, by rw [List.length_append, List.length_singleton, hyl], ksk_snoc hks,
          ⟨⟨old3, hs₆.extBut e _ eC.2 zE⟩, ⟨oi, hs₆.extBut it _ iC.2 zI, hoic, hoid⟩, ⟨_, hs₆.extBut l _ (offC _ hl).2 (N₅' _ hl).1, rfl, n, rfl⟩⟩, F₅.change hs₆ hDL hD₀, (hoC.ns zC).sameBut hs₆ (Ne.symm hDC), fun q hq => ?_⟩
        rcases List.mem_cons.mp hq with rfl | hq
        · exact ⟨hD₆.trans (congrArg some (lst_snoc ys (.int kz tz))), hDL, hD₀⟩
        · exact ⟨hs₆.extBut _ _ (offC q hq).2 (N₅' q hq).1, (N₅' q hq).2⟩
      · have hin : i = items.length := Nat.le_antisymm hi (Nat.not_lt.mp hlt)
        subst hin
        refine W.done _ _ _ hst fun h₂ tk₂ hk₂ => ?_
        have up₂ : ∀ c o, c ≠ e → c ≠ it → h'.get? c = some o → h₂.get? c = some o := fun c o h1 h2 q => hk₂ c o (by simp [h1, h2]) q
        have F₂ : Fr h₀ env.locals h₂ m := ⟨F'.ns.at' fun o q => up₂ _ o hLe hLi q, fun c o q => up₂ c o (fun z => by rw [z, he0] at q; cases q) (fun z => by rw [z, hi0] at q; cases q) (F'.keep c o q), F'.above⟩
        have N₂ : News h₀ env.locals h₂ ((s₂.heap.objs.size, lst ys) :: news) := fun q hq => by
          have z := N' q hq
          rcases List.mem_cons.mp hq with rfl | hq
          · exact ⟨up₂ _ _ (Ne.symm eC.2) (Ne.symm iC.2) z.1, z.2⟩
          · exact ⟨up₂ _ _ (off q hq).1 (off q hq).2 z.1, z.2⟩
        show wpAny _ A (assign (.Name y py) env (.ref s₂.heap.objs.size)) _ _ _
        refine wpAny_assign_Name (wpAny_storeName_local hy F₂.ns (fun h₃ hn₃ hs₃ => ?_) hp)
        have F₃ := F₂.set hn₃ hs₃
        have N₃ := N₂.set hs₃
        refine ⟨_, (hn'.at' fun o q => up₂ _ o (Ne.symm eC.1) (Ne.symm iC.1) q).sameBut hs₃ hCL, fun h'' hs'' => fin _ ys ks h'' _ hks hyl (F₃.change hs'' hCL hC₀) (fun p hp => ?_) fun p hp => (offC p hp).2⟩
        refine ⟨hs''.extBut _ _ ?_ (N₃ p hp).1, (N₃ p hp).2⟩
        rcases List.mem_cons.mp hp with rfl | hp
        · exact hDC
        · exact (offC p hp).1
    · rcases List.mem_cons.mp hp with rfl | hp
      · exact ⟨hacc, hDL, hD₀⟩
      · exact ⟨old _ _ (N p hp).1, (N p hp).2⟩
  exact codeAny_compStart_list (loop _ rfl) (W.self 0 _ _ _ ⟨⟨_, old _ _ hE⟩, hI.at fun o q => old _ o q, ⟨_, old _ _ (N _ hl).1, rfl, n, rfl⟩⟩ (loop _ rfl))
end
end
end Mine
end
section
namespace Mine
section
open PySem PySem.W PySem.Calls PyProof.Rows PySem.Spec PyProof.Rows.LCg
set_option linter.all false
set_option maxRecDepth 100000
set_option maxHeartbeats 4000000
theorem fill23 : WalkO qv looseL (XL qv []) (InK KF) row0.toRowW dLaw [] (fun f vs => PySem.call f vs) → True := by
  k_fill
  exact fun _ => trivial
end
section
open PySem PySem.W PySem.Calls PyProof.Rows PySem.Spec PyProof.Rows.LCg
set_option linter.all false
set_option maxRecDepth 100000
set_option maxHeartbeats 4000000
local macro_rules | `(tactic| k_mem) => `(tactic| first | with_reducible assumption | exact List.mem_cons_self .. | (refine List.mem_cons_of_mem _ ?_; k_mem) | (refine List.mem_append_right _ ?_; k_mem))
local macro_rules | `(tactic| news_mem) => `(tactic| k_mem)
local macro_rules | `(tactic| walk_at "subscriptTail Name Slice ref ref") => `(tactic| (k_here; (with_reducible show wpAny _ _ (subscriptTail _ (PySem.Expr.Slice _ _ (some _) _) (Value.ref _) (Value.ref _)) _ _ _); k_dflt (refine' slice3_ints ?F ?N ?l ?p ?q ?k ?o ?i ?_ ?s ?t ?z; (case F => k_asm); (case N => k_asm); (case l => kmk_list); (case p => kmk_part); (case q => kmk_part); (case k => kmk_part); (case o => decide); (case i => with_reducible assumption); (case s => with_unfolding_all rfl); (case t => kmk_pure); (case z => (simp only [List.size_toArray, sizeLine_eq, IntsAre.length (by assumption)]; omega))); intro D' ws' ms' h' F' N' l1 hI'))
local macro_rules | `(tactic| walk_at "call type:enumerate") => `(tactic| (k_here; (with_reducible show wpAny _ _ (PySem.call (Value.type "enumerate") [Value.ref _]) _ _ _); refine' call_enumerate_list ?hL ?_; (case hL => exact News.isList (by k_asm) (by k_mem)); intro h' hE' hI' hz' hk'))
section
variable {w : World} {pp : Program} {ll : List Str} {mean : ExcName → Option Value} {mg mb : Str → Option Value} {fa : Addr} {h₀ : Heap} {L : Addr} {m : Str → Option Value} {s : Shared} {Q : Flow → Shared → Prop} {E : Value → Shared → Prop} {news : List (Addr × Obj)}
variable {l : Addr} {vs : List Value} {ns : List Int} {cS cP : Obj} {pv : Option Value}
theorem st0 (B : Below callerA h₀ [] h₀) (F : Fr h₀ L s.heap m) (X : (KF w.params).In h₀) (T : Top pp ll mean mg mb h₀)
    (hcS : cS.data = .cell (some (.ref l))) (N : News h₀ L s.heap ((L + 1, cS) :: news)) (hL : h₀.IsList l vs.toArray) (hI : IntsAre vs ns) (hlen : ns.length ≤ 63)
    (hret : ∀ h' tk' D ys ks, IntsAre ys ks → ks.length = 10 → Fr h₀ L h' (fun y => if y = Str.ofString "cells" then some (.ref D) else m y) → News h₀ L h' ((D, listOf (List.toArray ys) ys.length) :: (L + 1, cS) :: news) → D ≠ L + 1 → (∀ p ∈ news, p.1 ≠ D) → Q .next { s with heap := h', toks := tk' }) :
    wpAny (model pw w) (AL L fa) (exec ls0.1 (eL L fa)) Q E s := by
  refine Assign_E (m := m) (h₀ := h₀) (L := L) rfl rfl rfl rfl (by decide) rfl (by decide) rfl rfl (by decide) rfl rfl ?_
  k_steps
  rename News h₀ L _ _ => kN
  rename Fr h₀ L _ _ => kF
  rename IsEnum _ _ _ _ _ => hE
  rename Heap.IsListIter _ _ _ _ => hI2
  rename (∀ b o, Heap.get? _ b = some o → Heap.get? _ b = some o) => hk
  rename (_ = _ + 2) => hz
  refine ⟨_, _, _, _, 0, _, rfl, hE, hI2, kF.keeps hk, kN.grown hk, List.mem_cons_self .., ?_, ?_, ?_, ?_, ?_⟩
  · have z2 := Heap.lt_size (kN _ (List.mem_cons_self ..)).1
    have z3 := kF.ns.lt
    exact ⟨Nat.succ_ne_self _, Nat.ne_of_lt (Nat.lt_succ_of_lt z2), Nat.ne_of_lt z2, Nat.ne_of_lt (Nat.lt_succ_of_lt z3), Nat.ne_of_lt z3, Heap.get?_none_of_le (Nat.le_trans kF.above (Nat.le_trans (Nat.le_of_lt z3) (Nat.le_succ _))), next_is_new kF⟩
  · intro p hp
    have z := Heap.lt_size (kN p hp).1
    exact ⟨Nat.ne_of_lt (Nat.lt_succ_of_lt z), Nat.ne_of_lt z⟩
  · simp
  · intro i t x oe oi C oC D ys m₂ h tk E' hx hC h1 h2 F₁ N₁
    obtain ⟨fv, tx, rfl⟩ : ∃ fv tx, x = Value.int fv tx := IntsAre.all (ns := [8, 7, 4, 2, 1, 2002, 4148, 6959, 471, 185]) (by repeat constructor) x (List.mem_of_getElem? hx)
    clear kF kN hret
    k_steps
    all_goals first | assumption | exact drop1 (by assumption)
  · intro D ys ks h tk hks hyl F₁ N₁ hD
    have hkl : ks.length = 10 := by
      rw [← hks.length, hyl]
      rfl
    exact hret _ _ D ys ks hks hkl F₁ (drop2 N₁) (fun q => hD _ (List.mem_cons_of_mem _ (List.mem_cons_self ..)) q.symm) fun p hp => hD p (List.mem_cons_of_mem _ (List.mem_cons_of_mem _ hp))
end
end
end Mine
end
section
namespace Mine
section
open PySem PySem.W PySem.Calls PyProof.Rows PySem.Spec PyProof.Rows.LCg PySem.SeqAt
set_option linter.all false
set_option maxRecDepth 100000
set_option maxHeartbeats 400000
section
variable {prog : Program} {w : World} {A : Around} {E : Value → Shared → Prop} {s : Shared} {h₀ : Heap} {L : Addr} {m : Str → Option Value} {env : Env}
/-- the turns of a comprehension over a list of pairs, whose element is the pair's port -/
theorem comp_ports {elt : Expr} {x : Str} {scope : Scope} {cl : List (Str × Addr)} {S : List (Addr × Obj) → Prop} {Fin : List Value → List (Addr × Obj) → Prop} {news : List (Addr × Obj)} {vs : List Value} {ks : List Int} (hP : PairsAre news vs ks)
    (turn : ∀ a y tx k tk I oI C oC D m₂ ys h tk' (E' : Value → Shared → Prop), NsObj oC m₂ → m₂ x = some (.ref a) → (a, tup2 y tx k tk) ∈ news → Fr h₀ L h m → News h₀ L h ((I, oI) :: (C, oC) :: (D, lst ys) :: news) → Off3 I C D news → ((@Ne Nat I C) ∧ (@Ne Nat I D) ∧ (@Ne Nat C D)) →
      wpAny (model prog w) A (eval elt (compEnvC scope cl C env)) (CompEnd h₀ L m { s with heap := h, toks := tk' } I oI C oC D (lst ys) S (fun v news' => news' = news ∧ ∃ t : Tok, v = .int k t)) E' { s with heap := h, toks := tk' })
    (fin : ∀ ys, IntsAre ys ks → Fin ys news) : CompRest prog w A h₀ L m env elt x scope cl s S (fun i v => vs.toArray[i]? = some v) Fin vs.toArray.size 0 [] news := by
  have hlen : vs.toArray.size = ks.length := by rw [List.size_toArray]; exact hP.length
  have key : ∀ (j i : Nat) (ys : List Value), i + j = ks.length → IntsAre ys (ks.take i) → CompRest prog w A h₀ L m env elt x scope cl s S (fun i v => vs.toArray[i]? = some v) Fin j i ys news := by
    intro j
    induction j with
    | zero =>
      intro i ys hi hy
      have e : i = ks.length := by omega
      rw [e, List.take_length] at hy
      exact CompRest.zero (fin ys hy)
    | succ j ih =>
      intro i ys hi hy
      show ∀ v I oI C oC D m₂ h tk (E' : Value → Shared → Prop), _
      intro v I oI C oC D m₂ h tk E' hv hC hx F N off ne
      have hi2 : i < ks.length := by omega
      obtain ⟨a, y, tx, tk2, e1, e2⟩ := hP.get i ks[i] (List.getElem?_eq_getElem hi2)
      have hv' : vs[i]? = some v := by simpa using hv
      rw [e1] at hv'
      cases hv'
      refine wpAny_mono (turn a y tx _ tk2 I oI C oC D m₂ ys h tk E' hC hx e2 F N off ne) (fun v s₂ hq => ?_) fun _ _ e => e
      obtain ⟨h', tk', nw, e, F', N', off', hS, hn, t', hy'⟩ := hq
      rw [hn] at N' off' hS
      refine ⟨h', tk', news, e, F', N', off', hS, ?_⟩
      rw [hy']
      refine ih (i + 1) _ (by omega) ?_
      have es : ks.take (i + 1) = ks.take i ++ [ks[i]] := by rw [List.take_add_one, List.getElem?_eq_getElem hi2]; rfl
      rw [es]
      exact ksk_snoc hy
  rw [hlen]
  exact key ks.length 0 [] (by omega) .nil
theorem ne_ints_same {Q : Value → Shared → Prop} {a b : Addr} {xs ys : List Value} {ns : List Int} (ha : s.heap.IsList a xs.toArray) (hb : s.heap.IsList b ys.toArray) (hi : IntsAre xs ns) (hj : IntsAre ys ns) (hu : A.units + 64 < cLine) (h : Q (.bool false) s) :
    wpAny (model prog w) A (compareOp .NotEq (.ref a) (.ref b)) Q E s := by
  refine ke_ne_ints ha hb hi hj hu ?_
  have e : (!decide (ns = ns)) = false := by simp
  rw [e]
  exact h
theorem sort_ri {Q : Value → Shared → Prop} {news : List (Addr × Obj)} {l : Addr} {vs : List Value} {ks ri : List Int} (F : Fr h₀ L s.heap m) (N : News h₀ L s.heap news) (hl : s.heap.IsList l vs.toArray) (hI : IntsAre vs ks) (h64 : ks.length ≤ 5) (hp : ri.Perm ks) (ha : Asc ri)
    (h : ∀ (h' : Heap) (vs' : List Value) (D : Addr) (e : Nat), Fr h₀ L h' m → News h₀ L h' ((D, listOf (List.toArray vs') e) :: news) → (∀ p ∈ news, p.1 < D) → IntsAre vs' ri → Q (.ref D) { s with heap := h' }) :
    wpAny (model prog w) A (call (.builtin "sorted") [.ref l]) Q E s := by
  refine sorted_N F N hl hI (by have := hI.length; omega) fun h' vs' ns' e F' N' hI' hp' hs' => ?_
  have e1 : ns' = ri := asc_unique (hp'.trans hp.symm) hs' ha
  rw [e1] at hI'
  exact h h' vs' _ e F' N' (fun p hp => Nat.lt_succ_of_lt (Heap.lt_size (N p hp).1)) hI'
end
section
variable {w : World} {pp : Program} {ll : List Str} {mean : ExcName → Option Value} {mg mb : Str → Option Value} {fa : Addr} {h₀ : Heap} {L : Addr} {m : Str → Option Value} {s : Shared} {E : Value → Shared → Prop} {news : List (Addr × Obj)}
theorem sort_due {Q : Value → Shared → Prop} {du f c' : Addr} {dv : List Value} {nd : Nat} {ds : List (Nat × Int)} {qual : Str} {p1 p2 p3 p4 : Pos} {pm ctv : Value} {oc : Obj} {cvs : Array Value} {ct : Tok}
    (B : Below callerA h₀ [] h₀) (F : Fr h₀ L s.heap m) (X : (KF w.params).In h₀) (T : Top pp ll mean mg mb h₀) (N : News h₀ L s.heap news) (hmd : (du, listOf dv.toArray nd) ∈ news) (hds : HostsAre news dv ds) (hlen : ds.length ≤ 5)
    (hm : (f, lamObj qual p1 p2 p3 p4 pm ctv c') ∈ news) (hc : (c', oc) ∈ news) (hd : oc.data = .fields cvs) (hv : cvs[1]? = some (.str qual ct))
    (h : ∀ D h' tk out c, Fr h₀ L h' m → News h₀ L h' ((D, listOf (List.toArray out) c) :: news) → (∀ q ∈ news, q.1 < D) → StOut (ds.map (·.2)) dv out → Q (.ref D) { s with heap := h', toks := tk }) :
    wpAny (model pw w) (AL L fa) (call (.builtin "sorted") [.ref du] [(Str.ofString "key", .ref f)]) Q E s := by
  have hlv := hds.length
  refine sk_sorted (kz := ds.map (·.2)) F N ⟨_, (N _ hmd).1, rfl, nd, rfl⟩ (by rw [List.length_map]; exact hlv.symm) (by omega) (fun i v k hvi hki hh tk own F' N' => ?_) fun D h' tk out c F' N' hl st => ?_
  · rw [List.getElem?_map] at hki
    obtain ⟨d, hd', rfl⟩ := Option.map_eq_some_iff.mp hki
    obtain ⟨a, tx, tk2, e1, e2⟩ := hds.get i d hd'
    rw [e1] at hvi
    cases hvi
    have hK : KeyFn w mean mg mb f (news ++ own) := key_of (List.mem_append_left _ hm) (List.mem_append_left _ hc) hd hv
    refine FnClaim.use (hK a _ tx d.2 tk2 (List.mem_append_left _ e2)) B F' X N' T rfl ?_ ?_ fun t h'' tk'' F'' N'' => ?_
    · ktr_room
    · ktr_units
    · exact KskEnd.intro F'' N'' fun p hp => hp
  · have e : out.toList.toArray = out := Array.toArray_toList ..
    rw [← e] at N'
    exact h D h' tk out.toList c F' N' hl st
end
theorem StOut.hosts {news : List (Addr × Obj)} {dv out : List Value} {i : Nat} {ri : List Int} {pd ds : List (Nat × Int)} (D5 : Told i ri pd ds) (hds : HostsAre news dv ds) (h : StOut (ds.map (·.2)) dv out) : HostsAre news out pd := by
  obtain ⟨is, hl, hat, hp, ho⟩ := h
  rw [hds.length] at hp
  have e := D5.sorted hp ho
  subst e
  refine ⟨by rw [List.length_map]; exact hl, fun j d hd => ?_⟩
  rw [List.getElem?_map] at hd
  obtain ⟨a, ha, rfl⟩ := Option.map_eq_some_iff.mp hd
  have la := List.mem_range.mp (hp.mem_iff.mp (List.mem_of_getElem? ha))
  obtain ⟨x, tx, tk, e1, e2⟩ := hds.get a ds[a] (List.getElem?_eq_getElem la)
  have eg : ds.getD a (0, 0) = ds[a] := by
    rw [List.getD_eq_getElem?_getD, List.getElem?_eq_getElem la]
    rfl
  rw [eg]
  exact ⟨x, tx, tk, (hat j a ha).trans e1, e2⟩
theorem ne_hosts {prog : Program} {w : World} {A : Around} {E : Value → Shared → Prop} {s : Shared} {Q : Value → Shared → Prop} {h₀ : Heap} {L : Addr} {news : List (Addr × Obj)} {a b : Addr} {pv dv out : List Value} {n c i : Nat} {ri : List Int} {pd ds : List (Nat × Int)}
    (N : News h₀ L s.heap news) (ma : (a, listOf pv.toArray n) ∈ news) (mb : (b, listOf out.toArray c) ∈ news) (D5 : Told i ri pd ds) (hpd : HostsAre news pv pd) (hds : HostsAre news dv ds) (hst : StOut (ds.map (·.2)) dv out) (hu : A.units + 64 < cLine) (h : Q (.bool false) s) :
    wpAny (model prog w) A (compareOp .NotEq (.ref a) (.ref b)) Q E s := by
  have ho := StOut.hosts D5 hds hst
  refine ne_lists ⟨_, (N _ ma).1, rfl, n, rfl⟩ ⟨_, (N _ mb).1, rfl, c, rfl⟩ (hpd.length.trans ho.length.symm) (by omega) (fun j x y hx hy => ?_) h
  have hj : j < pd.length := by
    rw [← hpd.length]
    exact (List.getElem?_eq_some_iff.mp hx).1
  obtain ⟨x1, tx, tk, e1, e2⟩ := hpd.get j pd[j] (List.getElem?_eq_getElem hj)
  obtain ⟨y1, ty, tj, e3, e4⟩ := ho.get j pd[j] (List.getElem?_eq_getElem hj)
  rw [e1] at hx
  rw [e3] at hy
  cases hx
  cases hy
  refine eqAt_tup (N _ e2).1 (N _ e4).1 ?_
  show A.units + 1 < cLine
  omega
end
end Mine
end
section
namespace Mine
section
open PySem PySem.W PySem.Calls PyProof.Rows PySem.Spec PyProof.Rows.LCg
set_option linter.all false
set_option maxRecDepth 100000
set_option maxHeartbeats 400000
theorem fill24 : WalkO qv looseL (XL qv []) (InK KF) row0.toRowW dLaw [] (fun f vs => PySem.call f vs) → True := by
  k_fill
  exact fun _ => trivial
end
section
open PySem PySem.W PySem.Calls PyProof.Rows PySem.Spec PyProof.Rows.LCg
local macro_rules | `(tactic| k_mem) => `(tactic| first | with_reducible assumption | exact List.mem_cons_self .. | (refine List.mem_cons_of_mem _ ?_; k_mem) | (refine List.mem_append_right _ ?_; k_mem))
local macro_rules | `(tactic| news_mem) => `(tactic| k_mem)
local macro_rules | `(tactic| k_all) => `(tactic| with_reducible assumption)
local macro_rules | `(tactic| walk_at "eval Name") => `(tactic| (k_here; k_dflt (refine' nameX_L ?F ?hv ?_; (case F => k_asm); (case hv => first | with_reducible assumption | rfl | (repeat' (first | with_reducible assumption | refine ifne (by decide) ?_)))); k_whole))
local macro_rules | `(tactic| walk_at "call builtin:sorted") => `(tactic| (k_here; (with_reducible show wpAny _ _ (PySem.call (Value.builtin "sorted") [Value.ref _]) _ _ _); k_dflt (refine' sort_ri ?F ?N ?hl ?hI ?h64 ?hp ?ha ?_; (case F => k_asm); (case N => k_asm); (case hl => exact News.isList (by k_asm) (by k_mem)); (case hI => with_reducible assumption); (case h64 => assumption); (case hp => with_reducible assumption); (case ha => with_reducible assumption); k_whole); intro h' vs' D' e' F' N' l1 hI'; (try k_lt l1)))
local macro_rules | `(tactic| walk_at "call builtin:sorted") => `(tactic| (k_here; k_dflt (refine' sort_due ?B ?F ?X ?T ?N ?hmd ?hds ?hlen ?hm ?hc ?hd ?hv ?_; (case B => assumption); (case F => k_asm); (case X => assumption); (case T => assumption); (case N => k_asm); (case hmd => k_mem); (case hds => exact HostsAre.mono (by with_reducible assumption) (fun p hp => by k_mem)); (case hlen => assumption); (case hm => k_mem); (case hc => k_mem); (case hd => assumption); (case hv => assumption); k_whole); intro D' h' tk' out' c' F' N' l1 hSt'; (try k_lt l1)))
local macro_rules | `(tactic| walk_at "compareOp NotEq ref ref") => `(tactic| (k_here; (with_reducible show wpAny _ _ (compareOp CmpOp.NotEq (Value.ref _) (Value.ref _)) _ _ _); k_dflt (refine' ne_ints_same ?ha ?hb ?hi ?hj ?hu ?_; (case ha => exact News.isList (by k_asm) (by k_mem)); (case hb => exact News.isList (by k_asm) (by k_mem)); (case hi => with_reducible assumption); (case hj => with_reducible assumption); (case hu => exact Nat.le_of_ble_eq_true rfl); k_whole)))
local macro_rules | `(tactic| walk_at "compareOp NotEq ref ref") => `(tactic| (k_here; (with_reducible show wpAny _ _ (compareOp CmpOp.NotEq (Value.ref _) (Value.ref _)) _ _ _); k_dflt (refine' ne_hosts ?N ?ma ?mb ?D5 ?hpd ?hds ?hst ?hu ?_; (case N => k_asm); (case hst => assumption); (case ma => k_mem); (case mb => k_mem); (case D5 => with_reducible assumption); (case hpd => exact HostsAre.mono (by with_reducible assumption) (fun p hp => by k_mem)); (case hds => exact HostsAre.mono (by with_reducible assumption) (fun p hp => by k_mem)); (case hu => exact Nat.le_of_ble_eq_true rfl); k_whole)))
section
open PySem PySem.W PySem.Calls PyProof.Rows PySem.Spec PyProof.Rows.LCg
set_option linter.all false
set_option maxRecDepth 100000
set_option maxHeartbeats 400000
section
variable {w : World} {pp : Program} {ll : List Str} {mean : ExcName → Option Value} {mg mb : Str → Option Value} {fa : Addr} {h₀ : Heap} {L : Addr} {m : Str → Option Value} {s : Shared} {Q : Flow → Shared → Prop} {E : Value → Shared → Prop} {news : List (Addr × Obj)}
variable {r pa du : Addr} {rv pv dv : List Value} {ri : List Int} {pd ds : List (Nat × Int)} {nr np nd i : Nat} {rest : List (Addr × Obj)}
theorem st5n (B : Below callerA h₀ [] h₀) (F : Fr h₀ L s.heap m) (X : (KF w.params).In h₀) (T : Top pp ll mean mg mb h₀) (C : CodeHd h₀ 179 177)
    (N : News h₀ L s.heap ((177, tabObj #[]) :: rest)) (ft : ∀ p ∈ rest, p.1 ≠ (177 : Nat))
    (hrow : m (Str.ofString "row") = some (.ref r)) (hpairs : m (Str.ofString "pairs") = some (.ref pa)) (hdue : m (Str.ofString "due") = some (.ref du))
    (hmr : (r, listOf rv.toArray nr) ∈ rest) (hmp : (pa, listOf pv.toArray np) ∈ rest) (hmd : (du, listOf dv.toArray nd) ∈ rest)
    (hri : IntsAre rv ri) (hpd : HostsAre rest pv pd) (hds : HostsAre rest dv ds) (D5 : Told i ri pd ds) (hasc : Asc ri) (hrows : ri.Perm (ds.map (·.2))) (hl5 : ds.length ≤ 5) (hl5' : (ds.map (·.2)).length ≤ 5)
    (hret : ∀ h' tk' ps, Fr h₀ L h' m → News h₀ L h' ((177, tabObj ps) :: rest) → Q .next { s with heap := h', toks := tk' }) :
    wpAny (model pw w) (AL L fa) (exec ls5.1 (eL L fa)) Q E s := by
  iterate 8 walk1
  k_here
  refine' ListComp_U (cl := []) ?F₀ ?c1 ?c2 ?c3 ?c4 ?c5 ?h ?hs
  case F₀ => k_asm
  case c1 => rfl
  case c2 => decide
  case c3 => rfl
  case c4 => decide
  case c5 => rfl
  case hs => intro _; rfl
  walk1
  refine CompSrc.ledger rfl (by k_asm) N (List.mem_cons_of_mem _ hmd) (by rw [List.size_toArray, hds.length, sizeLine_eq]; omega) fun g => ?_
  refine comp_ports (ks := ds.map (·.2)) (HostsAre.pairs (HostsAre.mono hds fun p hp => List.mem_cons_of_mem _ hp)) ?turn ?fin
  case turn =>
    intro a y tx k tk I oI C oC D m₂ ys h tk' E' hC hx hm2 F₁ N₁ off ne
    clear hret
    k_steps
    exact CompEnd.intro (by assumption) (by assumption) _ (fun p hp => hp) off (.inr ⟨_, List.mem_cons_of_mem _ hmd, rfl, _, rfl⟩) ⟨rfl, _, rfl⟩
  case fin =>
    intro ys hys
    intro D h tk F₁ N₁ off
    have o177 : @Ne Nat D 177 := Ne.symm off.1
    k_steps
    rename News h₀ L _ _ => kN
    rename Fr h₀ L _ _ => kF
    exact hret _ _ _ kF (drop1 (drop1 (drop1 (drop1 (drop1 kN)))))
end
end
section
open PySem PySem.W PySem.Calls PyProof.Rows PySem.Spec PyProof.Rows.LCg
set_option linter.all false
set_option maxRecDepth 100000
set_option maxHeartbeats 400000
theorem fill25 : WalkO qv looseL (XL qv []) (InK KF) row0.toRowW dLaw [] (fun f vs => PySem.call f vs) → True := by
  k_fill
  exact fun _ => trivial
end
section
open PySem PySem.W PySem.Calls PyProof.Rows PySem.Spec PyProof.Rows.LCg
set_option linter.all false
set_option maxRecDepth 100000
set_option maxHeartbeats 400000
local macro_rules | `(tactic| walk_at "no such step 0") => `(tactic| fail)
section
variable {w : World} {pp : Program} {ll : List Str} {mean : ExcName → Option Value} {mg mb : Str → Option Value} {fa : Addr} {h₀ : Heap} {L : Addr} {m : Str → Option Value} {s : Shared} {Q : Flow → Shared → Prop} {E : Value → Shared → Prop} {news : List (Addr × Obj)}
variable {r pa du : Addr} {rv pv dv : List Value} {ri : List Int} {pd ds : List (Nat × Int)} {nr np nd i : Nat} {rest : List (Addr × Obj)} {cx : Addr}
theorem st5h (B : Below callerA h₀ [] h₀) (F : Fr h₀ L s.heap m) (X : (KF w.params).In h₀) (T : Top pp ll mean mg mb h₀) (C : CodeHd h₀ 179 177)
    (N : News h₀ L s.heap ((177, tabObj #[rawInt 124, rawInt 45, .ref cx]) :: rest)) (ft : ∀ p ∈ rest, p.1 ≠ (177 : Nat))
    (hrow : m (Str.ofString "row") = some (.ref r)) (hpairs : m (Str.ofString "pairs") = some (.ref pa)) (hdue : m (Str.ofString "due") = some (.ref du))
    (hmr : (r, listOf rv.toArray nr) ∈ rest) (hmp : (pa, listOf pv.toArray np) ∈ rest) (hmd : (du, listOf dv.toArray nd) ∈ rest)
    (hri : IntsAre rv ri) (hpd : HostsAre rest pv pd) (hds : HostsAre rest dv ds) (D5 : Told i ri pd ds) (hasc : Asc ri) (hrows : ri.Perm (ds.map (·.2))) (hl5 : ds.length ≤ 5) (hl5' : (ds.map (·.2)).length ≤ 5)
    (hret : ∀ h' tk' ps, Fr h₀ L h' m → News h₀ L h' ((177, tabObj ps) :: rest) → Q .next { s with heap := h', toks := tk' }) :
    wpAny (model pw w) (AL L fa) (exec ls5.1 (eL L fa)) Q E s := by
  iterate 8 walk1
  k_here
  refine' ListComp_U (cl := []) ?F₀ ?c1 ?c2 ?c3 ?c4 ?c5 ?h ?hs
  case F₀ => k_asm
  case c1 => rfl
  case c2 => decide
  case c3 => rfl
  case c4 => decide
  case c5 => rfl
  case hs => intro _; rfl
  walk1
  refine CompSrc.ledger rfl (by k_asm) N (List.mem_cons_of_mem _ hmd) (by rw [List.size_toArray, hds.length, sizeLine_eq]; omega) fun g => ?_
  refine comp_ports (ks := ds.map (·.2)) (HostsAre.pairs (HostsAre.mono hds fun p hp => List.mem_cons_of_mem _ hp)) ?turn ?fin
  case turn =>
    intro a y tx k tk I oI C oC D m₂ ys h tk' E' hC hx hm2 F₁ N₁ off ne
    clear hret
    k_steps
    exact CompEnd.intro (by assumption) (by assumption) _ (fun p hp => hp) off (.inr ⟨_, List.mem_cons_of_mem _ hmd, rfl, _, rfl⟩) ⟨rfl, _, rfl⟩
  case fin =>
    intro ys hys
    intro D h tk F₁ N₁ off
    have o177 : @Ne Nat D 177 := Ne.symm off.1
    k_steps
    rename News h₀ L _ _ => kN
    rename Fr h₀ L _ _ => kF
    exact hret _ _ _ kF (drop1 (drop1 (drop1 (drop1 (drop1 kN)))))
end
end
end
end Mine
end
section
namespace Mine
section
open PySem PySem.W PySem.Calls PyProof.Rows PySem.Spec
set_option linter.all false
set_option maxRecDepth 100000
set_option maxHeartbeats 400000
theorem fill26 : WalkO qv looseL (XL qv []) (InK KF) row0.toRowW dLaw [] (fun f vs => PySem.call f vs) → True := by
  k_fill
  exact fun _ => trivial
section
variable {w : World} {pp : Program} {ll : List Str} {mean : ExcName → Option Value} {mg mb : Str → Option Value} {fa : Addr} {h₀ : Heap} {L : Addr} {m : Str → Option Value} {s : Shared} {Q : Flow → Shared → Prop} {E : Value → Shared → Prop} {news : List (Addr × Obj)}
theorem st1 (B : Below callerA h₀ [] h₀) (F : Fr h₀ L s.heap m) (X : (KF w.params).In h₀) (T : Top pp ll mean mg mb h₀) (N : News h₀ L s.heap news)
    (hret : ∀ h' tk' r, Fr h₀ L h' (fun y => if y = Str.ofString "row" then some (.ref r) else m y) → News h₀ L h' ((r, listOf (List.toArray []) 0) :: news) → (∀ q ∈ news, q.1 < r) → Q .next { s with heap := h', toks := tk' }) :
    wpAny (model pw w) (AL L fa) (exec ls1.1 (eL L fa)) Q E s := by
  k_steps
  exact hret _ _ _ (by assumption) (by assumption) (by assumption)
theorem st2 (B : Below callerA h₀ [] h₀) (F : Fr h₀ L s.heap m) (X : (KF w.params).In h₀) (T : Top pp ll mean mg mb h₀) (N : News h₀ L s.heap news)
    (hret : ∀ h' tk' r, Fr h₀ L h' (fun y => if y = Str.ofString "pairs" then some (.ref r) else m y) → News h₀ L h' ((r, listOf (List.toArray []) 0) :: news) → (∀ q ∈ news, q.1 < r) → Q .next { s with heap := h', toks := tk' }) :
    wpAny (model pw w) (AL L fa) (exec ls2.1 (eL L fa)) Q E s := by
  k_steps
  exact hret _ _ _ (by assumption) (by assumption) (by assumption)
theorem st3 (B : Below callerA h₀ [] h₀) (F : Fr h₀ L s.heap m) (X : (KF w.params).In h₀) (T : Top pp ll mean mg mb h₀) (N : News h₀ L s.heap news)
    (hret : ∀ h' tk' r, Fr h₀ L h' (fun y => if y = Str.ofString "due" then some (.ref r) else m y) → News h₀ L h' ((r, listOf (List.toArray []) 0) :: news) → (∀ q ∈ news, q.1 < r) → Q .next { s with heap := h', toks := tk' }) :
    wpAny (model pw w) (AL L fa) (exec ls3.1 (eL L fa)) Q E s := by
  k_steps
  exact hret _ _ _ (by assumption) (by assumption) (by assumption)
theorem st6 (B : Below callerA h₀ [] h₀) (F : Fr h₀ L s.heap m) (X : (KF w.params).In h₀) (T : Top pp ll mean mg mb h₀) (N : News h₀ L s.heap news)
    (hret : ∀ h' tk' r t, Fr h₀ L h' (fun y => if y = Str.ofString "reaches" then some (.ref r) else m y) → News h₀ L h' ((r, listOf (List.toArray [.int 0 t]) 0) :: news) → (∀ q ∈ news, q.1 < r) → Q .next { s with heap := h', toks := tk' }) :
    wpAny (model pw w) (AL L fa) (exec ls6.1 (eL L fa)) Q E s := by
  k_steps
  exact hret _ _ _ _ (by assumption) (by assumption) (by assumption)
theorem st16 (B : Below callerA h₀ [] h₀) (F : Fr h₀ L s.heap m) (X : (KF w.params).In h₀) (T : Top pp ll mean mg mb h₀) (N : News h₀ L s.heap news)
    (hret : ∀ tk', Q (.ret (.bool true)) { s with toks := tk' }) :
    wpAny (model pw w) (AL L fa) (exec ls16.1 (eL L fa)) Q E s := by
  k_steps
  exact hret _
end
end
end Mine
end
section
namespace Mine
section
open PySem PySem.W PySem.Calls PyProof.Rows PySem.Spec
set_option linter.all false
set_option maxRecDepth 100000
set_option maxHeartbeats 4000000
theorem ne_obj {g h : Heap} {L : Addr} {news : List (Addr × Obj)} {a b : Addr} {o o' : Obj} (N : News g L h news) (ha : (a, o) ∈ news) (hb : (b, o') ∈ news) (hne : o ≠ o') : a ≠ b := fun e => by
  subst e
  exact hne (Option.some.inj ((N _ ha).1.symm.trans (N _ hb).1))
theorem kl_ins_nat (vs : List Value) {c : Nat} (hc : c ≤ vs.length) (y : Value) : kl_ins vs (c : Int) y = vs.take c ++ y :: vs.drop c := by
  unfold kl_ins
  have h1 : ¬ ((c : Int) < 0) := by omega
  rw [if_neg h1, Int.toNat_natCast, Nat.min_eq_left hc]
theorem ints_insI {rv : List Value} {ri : List Int} (hi : IntsAre rv ri) (P : Int) (t : Tok) : IntsAre (kl_ins rv (cR ri P : Nat) (.int P t)) (insI ri P) := by
  rw [kl_ins_nat rv (by rw [hi.length]; exact cR_le _ _)]
  exact (hi.take _).append (IntsAre.cons P t (hi.drop _))
theorem HostsAre.ins {news : List (Addr × Obj)} {vs : List Value} {ds : List (Nat × Int)} (h : HostsAre news vs ds) {c : Nat} (hc : c ≤ ds.length) {to : Addr} {d : Nat × Int} {tx tk : Tok} (hm : (to, tup2 ⟨#[97 + d.1]⟩ tx d.2 tk) ∈ news) :
    HostsAre news (kl_ins vs (c : Int) (.ref to)) (ds.take c ++ d :: ds.drop c) := by
  have hl := h.length
  rw [kl_ins_nat vs (by omega)]
  refine ⟨by simp; omega, fun i e he => ?_⟩
  have htl : (ds.take c).length = c := by rw [List.length_take]; omega
  have hvl : (vs.take c).length = c := by rw [List.length_take]; omega
  rcases Nat.lt_or_ge i c with q | q
  · rw [List.getElem?_append_left (by omega), List.getElem?_take, if_pos q] at he
    obtain ⟨a, tx', tk', e1, e2⟩ := h.get i e he
    exact ⟨a, tx', tk', by rw [List.getElem?_append_left (by omega), List.getElem?_take, if_pos q]; exact e1, e2⟩
  · rw [List.getElem?_append_right (by omega), htl] at he
    rcases Nat.lt_or_ge c i with p | p
    · obtain ⟨k, rfl⟩ : ∃ k, i = c + (k + 1) := ⟨i - c - 1, by omega⟩
      rw [Nat.add_sub_cancel_left, List.getElem?_cons_succ, List.getElem?_drop] at he
      obtain ⟨a, tx', tk', e1, e2⟩ := h.get _ e he
      exact ⟨a, tx', tk', by rw [List.getElem?_append_right (by omega), hvl, Nat.add_sub_cancel_left, List.getElem?_cons_succ, List.getElem?_drop]; exact e1, e2⟩
    · have : i = c := by omega
      subst this
      rw [Nat.sub_self, List.getElem?_cons_zero] at he
      cases he
      exact ⟨to, tx, tk, by rw [List.getElem?_append_right (by omega), hvl, Nat.sub_self, List.getElem?_cons_zero], hm⟩
theorem HostsAre.snoc {news : List (Addr × Obj)} {vs : List Value} {ds : List (Nat × Int)} (h : HostsAre news vs ds) {to : Addr} {d : Nat × Int} {tx tk : Tok} (hm : (to, tup2 ⟨#[97 + d.1]⟩ tx d.2 tk) ∈ news) : HostsAre news (vs ++ [.ref to]) (ds ++ [d]) := by
  have hl := h.length
  refine ⟨by simp; omega, fun i e he => ?_⟩
  rcases Nat.lt_or_ge i ds.length with q | q
  · rw [List.getElem?_append_left q] at he
    obtain ⟨a, tx', tk', e1, e2⟩ := h.get i e he
    exact ⟨a, tx', tk', by rw [List.getElem?_append_left (by omega)]; exact e1, e2⟩
  · rw [List.getElem?_append_right q] at he
    have hi : i - ds.length = 0 := by
      have := (List.getElem?_eq_some_iff.mp he).1
      simpa using this
    rw [hi, List.getElem?_cons_zero] at he
    cases he
    exact ⟨to, tx, tk, by rw [List.getElem?_append_right (by omega), hl, hi, List.getElem?_cons_zero], hm⟩
noncomputable def TabOk (qual : Str) (tail : List (Addr × Obj)) (ps : Array Value) : Prop :=
  ps = #[] ∨ ∃ cx ox vx tx, ps = #[rawInt 124, rawInt 45, .ref cx] ∧ (cx, ox) ∈ tail ∧ ox.data = .fields vx ∧ vx[1]? = some (.str qual tx)
noncomputable def OffA (r pa du : Addr) (l : List (Addr × Obj)) : Prop := ∀ p ∈ l, p.1 ≠ r ∧ p.1 ≠ pa ∧ p.1 ≠ du ∧ p.1 ≠ (177 : Nat)
noncomputable def turnNames : List Str := [Str.ofString "k", Str.ofString "port", Str.ofString "kind", Str.ofString "peer", Str.ofString "reply", Str.ofString "refused", Str.ofString "prepared", Str.ofString "told"]
noncomputable def J4 (qual : Str) (r pa du : Addr) (m : Str → Option Value) (base : List (Addr × Obj)) (i : Nat) (m₁ : Str → Option Value) (nx : List (Addr × Obj)) : Prop :=
  ∃ rv pv dv ri pd ds nr np nd ps tail,
    nx = (r, listOf (List.toArray rv) nr) :: (pa, listOf (List.toArray pv) np) :: (du, listOf (List.toArray dv) nd) :: (177, tabObj ps) :: tail ∧
    IntsAre rv ri ∧ HostsAre tail pv pd ∧ HostsAre tail dv ds ∧ Told i ri pd ds ∧ OffA r pa du tail ∧ (∀ p ∈ tail, NotRI p.2) ∧ (∀ p ∈ base, p ∈ tail) ∧ TabOk qual tail ps ∧ (∀ y, y ∉ turnNames → m₁ y = m y)
theorem notRI_seq {o : Obj} {xs : Array Value} {n : Nat} (h : o.data = .seq xs n) : NotRI o := fun x y z => .inl (by rw [h]; exact fun q => nomatch q)
theorem notRI_code {o : Obj} {vs : Array Value} {q : Str} {t : Tok} (h : o.data = .fields vs) (hv : vs[1]? = some (.str q t)) : NotRI o := fun x y z => .inl (by
  rw [h]
  intro e
  have e2 : vs = #[rawInt x, rawInt y, rawInt z] := Data.fields.inj e
  rw [e2] at hv
  cases hv)
theorem J4.notRI {qual : Str} {r pa du : Addr} {m m₁ : Str → Option Value} {base nx : List (Addr × Obj)} {i : Nat} (h : J4 qual r pa du m base i m₁ nx) : ∀ p ∈ nx, NotRI p.2 := by
  obtain ⟨rv, pv, dv, ri, pd, ds, nr, np, nd, ps, tail, rfl, _, _, _, _, _, hn, _, _, _⟩ := h
  intro p hp
  rcases List.mem_cons.mp hp with rfl | hp
  · exact notRI_seq rfl
  rcases List.mem_cons.mp hp with rfl | hp
  · exact notRI_seq rfl
  rcases List.mem_cons.mp hp with rfl | hp
  · exact notRI_seq rfl
  rcases List.mem_cons.mp hp with rfl | hp
  · exact fun x y z => .inr fun q => nomatch q
  exact hn p hp
section
variable {w : World} {pp : Program} {ll : List Str} {mean : ExcName → Option Value} {mg mb : Str → Option Value} {fa : Addr} {h₀ : Heap} {L : Addr} {m : Str → Option Value} {s : Shared} {Q : Flow → Shared → Prop} {E : Value → Shared → Prop} {base : List (Addr × Obj)}
variable {r pa du cl : Addr} {cv : List Value} {ci : List Int} {nc : Nat}
theorem nin {x : Str} {y : Str} (h : y ∉ turnNames) (hx : x ∈ turnNames) : y ≠ x := fun e => h (e ▸ hx)
theorem st4_turn (B : Below callerA h₀ [] h₀) (X : (KF w.params).In h₀) (T : Top pp ll mean mg mb h₀) (C : CodeHd h₀ 179 177)
    (o1 : @Ne Nat r pa) (o2 : @Ne Nat r du) (o3 : @Ne Nat pa du) (o4 : @Ne Nat 177 r) (o5 : @Ne Nat 177 pa) (o6 : @Ne Nat 177 du)
    (hrow : m (Str.ofString "row") = some (.ref r)) (hpairs : m (Str.ofString "pairs") = some (.ref pa)) (hdue : m (Str.ofString "due") = some (.ref du)) (hcells : m (Str.ofString "cells") = some (.ref cl))
    (hmc : (cl, listOf cv.toArray nc) ∈ base) (hci : IntsAre cv ci) (hc10 : ci.length = 10)
    (i : Nat) (t : Tok) (m₁ : Str → Option Value) (nx : List (Addr × Obj)) (h : Heap) (tk : Nat) (own : List (Addr × Obj)) (hi : i < 5) (hJ : J4 ((eL L fa).qual ++ Str.ofString "<lambda>") r pa du m base i m₁ nx) (hown : ∀ p ∈ own, p.2.cls = .type "range_iterator")
    (F : Fr h₀ L h (fun y => if y = Str.ofString "k" then some (.int (0 + (i : Nat)) t) else m₁ y)) (N : News h₀ L h (own ++ nx)) :
    wpAny (model pw w) (AL L fa) (execs [ls4_0.1, ls4_1.1, ls4_2.1, ls4_3.1, ls4_4.1, ls4_5.1, ls4_6.1, ls4_7.1, ls4_8.1] (eL L fa)) (JPost h₀ L (J4 ((eL L fa).qual ++ Str.ofString "<lambda>") r pa du m base (i + 1)) own { s with heap := h, toks := tk } Q) E { s with heap := h, toks := tk } := by
  obtain ⟨rv, pv, dv, ri, pd, ds, nr, np, nd, ps, tail, rfl, hri, hpd, hds, D4, hoff, hnri, hbase, htab, hm⟩ := hJ
  have k1 := (hm (Str.ofString "row") (by decide)).trans hrow
  have k2 := (hm (Str.ofString "pairs") (by decide)).trans hpairs
  have k3 := (hm (Str.ofString "due") (by decide)).trans hdue
  have k4 := (hm (Str.ofString "cells") (by decide)).trans hcells
  have mt : ∀ p ∈ tail, p ∈ own ++ (r, listOf (List.toArray rv) nr) :: (pa, listOf (List.toArray pv) np) :: (du, listOf (List.toArray dv) nd) :: (177, tabObj ps) :: tail := fun p hp =>
    List.mem_append_right _ (List.mem_cons_of_mem _ (List.mem_cons_of_mem _ (List.mem_cons_of_mem _ (List.mem_cons_of_mem _ hp))))
  have hmc' := mt _ (hbase _ hmc)
  generalize hd : ci.getD (i + 5) 0 = d
  refine wpAny_execs_cons ?_
  refine bb0 B F X N T hi (if_pos rfl) (by repeat' (first | with_reducible assumption | exact if_pos rfl | refine ifne (by decide) ?_)) hmc' hci (by omega) hc10 fun h1 tk1 P tP hP0 hP1 F1 N1 => ?_
  refine wpAny_execs_cons ?_
  refine bb1 B F1 X N1 T hi (by repeat' (first | with_reducible assumption | exact if_pos rfl | refine ifne (by decide) ?_)) (by repeat' (first | with_reducible assumption | exact if_pos rfl | refine ifne (by decide) ?_)) hmc' hci (by omega) hc10 fun h2 tk2 tK F2 N2 => ?_
  rw [hd] at F2
  refine wpAny_execs_cons ?_
  refine bb2 B F2 X N2 T hi (by repeat' (first | with_reducible assumption | exact if_pos rfl | refine ifne (by decide) ?_)) fun h3 tk3 pe tp1 tp2 F3 N3 l3 => ?_
  refine wpAny_execs_cons ?_
  refine bb3 B F3 X N3 T hi hP0 hP1 (by repeat' (first | with_reducible assumption | exact if_pos rfl | refine ifne (by decide) ?_)) (by repeat' (first | with_reducible assumption | exact if_pos rfl | refine ifne (by decide) ?_)) (List.mem_cons_of_mem _ hmc') hci (by omega) hc10 (by repeat' (first | with_reducible assumption | exact if_pos rfl | refine ifne (by decide) ?_)) fun h4 tk4 tR F4 N4 => ?_
  rw [hd] at F4
  refine wpAny_execs_cons ?_
  refine bb4 (d := d) B F4 X N4 T (by repeat' (first | with_reducible assumption | exact if_pos rfl | refine ifne (by decide) ?_)) fun h5 tk5 tF F5 N5 => ?_
  refine wpAny_execs_cons ?_
  refine bb5 (d := d) B F5 X N5 T hP0 hP1 (by repeat' (first | with_reducible assumption | exact if_pos rfl | refine ifne (by decide) ?_)) (List.mem_cons_self ..) (by repeat' (first | with_reducible assumption | exact if_pos rfl | refine ifne (by decide) ?_)) (by repeat' (first | with_reducible assumption | exact if_pos rfl | refine ifne (by decide) ?_)) fun h6 tk6 F6 N6 => ?_
  refine wpAny_execs_cons ?_
  refine bb6 (d := d) B F6 X N6 T hP0 hP1 (by repeat' (first | with_reducible assumption | exact if_pos rfl | refine ifne (by decide) ?_)) fun h7 tk7 tQ F7 N7 => ?_
  refine wpAny_execs_cons ?_
  have keep : ∀ v1 v2 v3 v4 v5 v6 v7 v8 y, y ∉ turnNames → (if y = Str.ofString "told" then v8 else if y = Str.ofString "prepared" then v7 else if y = Str.ofString "refused" then v6 else if y = Str.ofString "reply" then v5 else if y = Str.ofString "peer" then v4 else if y = Str.ofString "kind" then v3 else if y = Str.ofString "port" then v2 else if y = Str.ofString "k" then v1 else m₁ y : Option Value) = m y := fun v1 v2 v3 v4 v5 v6 v7 v8 y hy => by
    rw [if_neg (nin hy (by decide)), if_neg (nin hy (by decide)), if_neg (nin hy (by decide)), if_neg (nin hy (by decide)), if_neg (nin hy (by decide)), if_neg (nin hy (by decide)), if_neg (nin hy (by decide)), if_neg (nin hy (by decide))]
    exact hm y hy
  by_cases hb : 3 < d.fmod 7
  · refine bb7b (d := d) B F7 X N7 T hP0 hP1 hb (by repeat' (first | with_reducible assumption | exact if_pos rfl | refine ifne (by decide) ?_)) (List.mem_cons_self ..) (by repeat' (first | with_reducible assumption | exact if_pos rfl | refine ifne (by decide) ?_)) fun h8 tk8 c u F8 N8 => ?_
    refine wpAny_execs_cons ?_
    refine bb8b (d := d) (P := P) B F8 X N8 T hb (by repeat' (first | with_reducible assumption | exact if_pos rfl | refine ifne (by decide) ?_)) (by repeat' (first | with_reducible assumption | exact if_pos rfl | refine ifne (by decide) ?_)) (by repeat' (first | with_reducible assumption | exact if_pos rfl | refine ifne (by decide) ?_)) (by repeat' (first | with_reducible assumption | exact if_pos rfl | refine ifne (by decide) ?_)) (List.mem_cons_self ..) fun h9 tk9 F9 N9 => ?_
    refine wpAny_execs_nil ?_
    exact JEnd.intro F9 (drop1 (drop1 N9)) ⟨rv, pv, dv, ri, pd, ds, nr, np, nd, ps, tail, rfl, hri, hpd, hds, D4.skip, hoff, hnri, hbase, htab, fun y hy => keep _ _ _ _ _ _ _ _ y hy⟩
  · have hok : d.fmod 7 ≤ 3 := by omega
    refine bb7o (d := d) B F7 X N7 T hP0 hP1 hok (by repeat' (first | with_reducible assumption | exact if_pos rfl | refine ifne (by decide) ?_)) (List.mem_cons_self ..) (by repeat' (first | with_reducible assumption | exact if_pos rfl | refine ifne (by decide) ?_)) fun h8 tk8 to u F8 N8 => ?_
    refine wpAny_execs_cons ?_
    have mr : (r, listOf (List.toArray rv) nr) ∈ own ++ (r, listOf (List.toArray rv) nr) :: (pa, listOf (List.toArray pv) np) :: (du, listOf (List.toArray dv) nd) :: (177, tabObj ps) :: tail := List.mem_append_right _ (List.mem_cons_self ..)
    have mp : (pa, listOf (List.toArray pv) np) ∈ own ++ (r, listOf (List.toArray rv) nr) :: (pa, listOf (List.toArray pv) np) :: (du, listOf (List.toArray dv) nd) :: (177, tabObj ps) :: tail := List.mem_append_right _ (List.mem_cons_of_mem _ (List.mem_cons_self ..))
    have md : (du, listOf (List.toArray dv) nd) ∈ own ++ (r, listOf (List.toArray rv) nr) :: (pa, listOf (List.toArray pv) np) :: (du, listOf (List.toArray dv) nd) :: (177, tabObj ps) :: tail := List.mem_append_right _ (List.mem_cons_of_mem _ (List.mem_cons_of_mem _ (List.mem_cons_self ..)))
    have m7 : ((177 : Nat), tabObj ps) ∈ own ++ (r, listOf (List.toArray rv) nr) :: (pa, listOf (List.toArray pv) np) :: (du, listOf (List.toArray dv) nd) :: (177, tabObj ps) :: tail := List.mem_append_right _ (List.mem_cons_of_mem _ (List.mem_cons_of_mem _ (List.mem_cons_of_mem _ (List.mem_cons_self ..))))
    have hto : to ≠ r ∧ to ≠ pa ∧ to ≠ du ∧ to ≠ (177 : Nat) :=
      ⟨ne_obj N8 (List.mem_cons_self ..) (List.mem_cons_of_mem _ (List.mem_cons_of_mem _ mr)) (fun q => absurd (show ("tuple" : String) = "list" from Value.type.inj (congrArg Obj.cls q)) (by decide)),
        ne_obj N8 (List.mem_cons_self ..) (List.mem_cons_of_mem _ (List.mem_cons_of_mem _ mp)) (fun q => absurd (show ("tuple" : String) = "list" from Value.type.inj (congrArg Obj.cls q)) (by decide)),
        ne_obj N8 (List.mem_cons_self ..) (List.mem_cons_of_mem _ (List.mem_cons_of_mem _ md)) (fun q => absurd (show ("tuple" : String) = "list" from Value.type.inj (congrArg Obj.cls q)) (by decide)),
        ne_obj N8 (List.mem_cons_self ..) (List.mem_cons_of_mem _ (List.mem_cons_of_mem _ m7)) (fun q => nomatch (congrArg Obj.cls q))⟩
    have howno : OffA r pa du own := fun p hp => by
      have hp' : p ∈ (to, tup2 ⟨#[97 + i]⟩ tp1 P u) :: (pe, tup2 ⟨#[97 + i]⟩ tp1 21 tp2) :: (own ++ (r, listOf (List.toArray rv) nr) :: (pa, listOf (List.toArray pv) np) :: (du, listOf (List.toArray dv) nd) :: (177, tabObj ps) :: tail) := List.mem_cons_of_mem _ (List.mem_cons_of_mem _ (List.mem_append_left _ hp))
      have hc := hown p hp
      have nl : ∀ xs n, p.2 ≠ listOf xs n := fun xs n q => by
        rw [q] at hc
        exact absurd (show ("list" : String) = "range_iterator" from Value.type.inj hc) (by decide)
      have nt : p.2 ≠ tabObj ps := fun q => by
        rw [q] at hc
        exact nomatch hc
      exact ⟨ne_obj N8 hp' (List.mem_cons_of_mem _ (List.mem_cons_of_mem _ mr)) (nl _ _), ne_obj N8 hp' (List.mem_cons_of_mem _ (List.mem_cons_of_mem _ mp)) (nl _ _), ne_obj N8 hp' (List.mem_cons_of_mem _ (List.mem_cons_of_mem _ md)) (nl _ _), ne_obj N8 hp' (List.mem_cons_of_mem _ (List.mem_cons_of_mem _ m7)) nt⟩
    have hrest : OffA r pa du ((to, tup2 ⟨#[97 + i]⟩ tp1 P u) :: (own ++ tail)) := fun p hp => by
      rcases List.mem_cons.mp hp with rfl | hp
      · exact hto
      · rcases List.mem_append.mp hp with hp | hp
        · exact howno p hp
        · exact hoff p hp
    have N9 : News h₀ L h8 ((r, listOf (List.toArray rv) nr) :: (pa, listOf (List.toArray pv) np) :: (du, listOf (List.toArray dv) nd) :: (177, tabObj ps) :: (to, tup2 ⟨#[97 + i]⟩ tp1 P u) :: (own ++ tail)) := News.sub N8 fun p hp => by
      rcases List.mem_cons.mp hp with rfl | hp
      · exact List.mem_cons_of_mem _ (List.mem_cons_of_mem _ mr)
      rcases List.mem_cons.mp hp with rfl | hp
      · exact List.mem_cons_of_mem _ (List.mem_cons_of_mem _ mp)
      rcases List.mem_cons.mp hp with rfl | hp
      · exact List.mem_cons_of_mem _ (List.mem_cons_of_mem _ md)
      rcases List.mem_cons.mp hp with rfl | hp
      · exact List.mem_cons_of_mem _ (List.mem_cons_of_mem _ m7)
      rcases List.mem_cons.mp hp with rfl | hp
      · exact List.mem_cons_self ..
      rcases List.mem_append.mp hp with hp | hp
      · exact List.mem_cons_of_mem _ (List.mem_cons_of_mem _ (List.mem_append_left _ hp))
      · exact List.mem_cons_of_mem _ (List.mem_cons_of_mem _ (mt p hp))
    have up : ∀ p ∈ tail, p ∈ (to, tup2 ⟨#[97 + i]⟩ tp1 P u) :: (own ++ tail) := fun p hp => List.mem_cons_of_mem _ (List.mem_append_right _ hp)
    have hpl : pd.length ≤ 1000 := by
      have := D4.pairs.length_eq
      have := D4.len
      omega
    have hrl : ri.length ≤ 1000 := by
      have h1 := D4.rows.length_eq
      rw [List.length_map] at h1
      have := D4.len
      omega
    have hdl : dv.length ≤ 5 := by
      have := hds.length
      have := D4.len
      omega
    -- the end of a turn that told
    have fin : ∀ (h' : Heap) (tk' : Nat) (a c' : Addr) (oc' : Obj) (cvs : Array Value) (ct t1 u1 : Tok) (m' : Str → Option Value) (tl2 : List (Addr × Obj)), Fr h₀ L h' m' → (∀ y, y ∉ turnNames → m' y = m y) →
        News h₀ L h' ((r, listOf (List.toArray (kl_ins rv (cR ri P) (.int P u))) (nr + 1)) :: (pa, listOf (List.toArray (kl_ins pv (cR (pd.map (·.2)) P) (.ref to))) (np + 1)) :: (du, listOf (List.toArray (dv ++ [.ref a])) (nd + 1)) :: (177, tabObj #[rawInt 124, rawInt 45, .ref c']) :: (tl2 ++ (a, tup2 ⟨#[97 + i]⟩ t1 P u1) :: (to, tup2 ⟨#[97 + i]⟩ tp1 P u) :: (own ++ tail))) →
        (∀ p ∈ tl2, NotRI p.2) → OffA r pa du tl2 → OffA r pa du [(a, tup2 ⟨#[97 + i]⟩ t1 P u1)] → (c', oc') ∈ tl2 ++ tail → oc'.data = .fields cvs → cvs[1]? = some (.str ((eL L fa).qual ++ Str.ofString "<lambda>") ct) →
        JEnd h₀ L (J4 ((eL L fa).qual ++ Str.ofString "<lambda>") r pa du m base (i + 1)) own { s with heap := h, toks := tk } { s with heap := h', toks := tk' } := by
      intro h' tk' a c' oc' cvs ct t1 u1 m' tl2 F' hm' N' hn2 ho2 hoa hc' hd' hv'
      have up2 : ∀ p ∈ tail, p ∈ tl2 ++ (a, tup2 ⟨#[97 + i]⟩ t1 P u1) :: (to, tup2 ⟨#[97 + i]⟩ tp1 P u) :: tail := fun p hp => List.mem_append_right _ (List.mem_cons_of_mem _ (List.mem_cons_of_mem _ hp))
      have ma : (a, tup2 ⟨#[97 + i]⟩ t1 P u1) ∈ tl2 ++ (a, tup2 ⟨#[97 + i]⟩ t1 P u1) :: (to, tup2 ⟨#[97 + i]⟩ tp1 P u) :: tail := List.mem_append_right _ (List.mem_cons_self ..)
      have mto : (to, tup2 ⟨#[97 + i]⟩ tp1 P u) ∈ tl2 ++ (a, tup2 ⟨#[97 + i]⟩ t1 P u1) :: (to, tup2 ⟨#[97 + i]⟩ tp1 P u) :: tail := List.mem_append_right _ (List.mem_cons_of_mem _ (List.mem_cons_self ..))
      refine JEnd.intro F' (News.sub N' fun p hp => ?_) ⟨_, _, _, insI ri P, insD pd (i, P), ds ++ [(i, P)], nr + 1, np + 1, nd + 1, _, tl2 ++ (a, tup2 ⟨#[97 + i]⟩ t1 P u1) :: (to, tup2 ⟨#[97 + i]⟩ tp1 P u) :: tail, rfl, ints_insI hri P u,
        HostsAre.ins (d := (i, P)) (hpd.mono up2) (by have := cR_le (pd.map (·.2)) P; rwa [List.length_map] at this) mto, HostsAre.snoc (d := (i, P)) (hds.mono up2) ma, D4.step hP0 hP1, ?_, ?_, fun p hp => up2 p (hbase p hp), .inr ⟨c', oc', cvs, ct, rfl, ?_, hd', hv'⟩, hm'⟩
      · rcases List.mem_append.mp hp with hp | hp
        · exact List.mem_cons_of_mem _ (List.mem_cons_of_mem _ (List.mem_cons_of_mem _ (List.mem_cons_of_mem _ (List.mem_append_right _ (List.mem_cons_of_mem _ (List.mem_cons_of_mem _ (List.mem_append_left _ hp)))))))
        rcases List.mem_cons.mp hp with rfl | hp
        · exact List.mem_cons_self ..
        rcases List.mem_cons.mp hp with rfl | hp
        · exact List.mem_cons_of_mem _ (List.mem_cons_self ..)
        rcases List.mem_cons.mp hp with rfl | hp
        · exact List.mem_cons_of_mem _ (List.mem_cons_of_mem _ (List.mem_cons_self ..))
        rcases List.mem_cons.mp hp with rfl | hp
        · exact List.mem_cons_of_mem _ (List.mem_cons_of_mem _ (List.mem_cons_of_mem _ (List.mem_cons_self ..)))
        refine List.mem_cons_of_mem _ (List.mem_cons_of_mem _ (List.mem_cons_of_mem _ (List.mem_cons_of_mem _ ?_)))
        rcases List.mem_append.mp hp with hp | hp
        · exact List.mem_append_left _ hp
        rcases List.mem_cons.mp hp with rfl | hp
        · exact List.mem_append_right _ (List.mem_cons_self ..)
        rcases List.mem_cons.mp hp with rfl | hp
        · exact List.mem_append_right _ (List.mem_cons_of_mem _ (List.mem_cons_self ..))
        exact List.mem_append_right _ (List.mem_cons_of_mem _ (List.mem_cons_of_mem _ (List.mem_append_right _ hp)))
      · intro p hp
        rcases List.mem_append.mp hp with hp | hp
        · exact ho2 p hp
        rcases List.mem_cons.mp hp with rfl | hp
        · exact hoa _ (List.mem_singleton.mpr rfl)
        rcases List.mem_cons.mp hp with rfl | hp
        · exact hto
        exact hoff p hp
      · intro p hp
        rcases List.mem_append.mp hp with hp | hp
        · exact hn2 p hp
        rcases List.mem_cons.mp hp with rfl | hp
        · exact notRI_seq rfl
        rcases List.mem_cons.mp hp with rfl | hp
        · exact notRI_seq rfl
        exact hnri p hp
      · rcases List.mem_append.mp hc' with hp | hp
        · exact List.mem_append_left _ hp
        · exact up2 _ hp
    rcases htab with rfl | ⟨cx, ox, vx, tx, rfl, hcx, hox, hvx⟩
    · refine bb8n (d := d) B F8 X T C hi hok N9 o1 o2 o3 o4 o5 o6 (fun p hp => (hrest p hp).1) (fun p hp => (hrest p hp).2.1) (fun p hp => (hrest p hp).2.2.1) (fun p hp => (hrest p hp).2.2.2) (by repeat' (first | with_reducible assumption | exact if_pos rfl | refine ifne (by decide) ?_)) (by repeat' (first | with_reducible assumption | exact if_pos rfl | refine ifne (by decide) ?_)) (by repeat' (first | with_reducible assumption | exact if_pos rfl | refine ifne (by decide) ?_)) (by repeat' (first | with_reducible assumption | exact if_pos rfl | refine ifne (by decide) ?_)) (by repeat' (first | with_reducible assumption | exact if_pos rfl | refine ifne (by decide) ?_)) (by repeat' (first | with_reducible assumption | exact if_pos rfl | refine ifne (by decide) ?_)) (by repeat' (first | with_reducible assumption | exact if_pos rfl | refine ifne (by decide) ?_)) (List.mem_cons_self ..) hri hrl D4.asc (HostsAre.pairs (hpd.mono up)) (by rw [List.length_map]; exact hpl) (lex_asc D4.lex) hdl
        fun h' tk' a c' oc' cvs ct t1 u1 F' N' hd' hv' n1 n2 n3 n4 n5 n6 n7 n8 => ?_
      refine wpAny_execs_nil ?_
      exact fin h' tk' a c' oc' cvs ct t1 u1 _ [(c', oc')] F' (fun y hy => keep _ _ _ _ _ _ _ _ y hy) N' (fun p hp => by rw [List.mem_singleton.mp hp]; exact notRI_code hd' hv') (fun p hp => by rw [List.mem_singleton.mp hp]; exact ⟨n1.symm, n2.symm, n3.symm, n4.symm⟩)
        (fun p hp => by rw [List.mem_singleton.mp hp]; exact ⟨n5.symm, n6.symm, n7.symm, n8.symm⟩) (List.mem_append_left _ (List.mem_singleton.mpr rfl)) hd' hv'
    · refine bb8h (d := d) B F8 X T C hi hok N9 (up _ hcx) hox hvx o1 o2 o3 o4 o5 o6 (fun p hp => (hrest p hp).1) (fun p hp => (hrest p hp).2.1) (fun p hp => (hrest p hp).2.2.1) (fun p hp => (hrest p hp).2.2.2) (by repeat' (first | with_reducible assumption | exact if_pos rfl | refine ifne (by decide) ?_)) (by repeat' (first | with_reducible assumption | exact if_pos rfl | refine ifne (by decide) ?_)) (by repeat' (first | with_reducible assumption | exact if_pos rfl | refine ifne (by decide) ?_)) (by repeat' (first | with_reducible assumption | exact if_pos rfl | refine ifne (by decide) ?_)) (by repeat' (first | with_reducible assumption | exact if_pos rfl | refine ifne (by decide) ?_)) (by repeat' (first | with_reducible assumption | exact if_pos rfl | refine ifne (by decide) ?_)) (by repeat' (first | with_reducible assumption | exact if_pos rfl | refine ifne (by decide) ?_)) (List.mem_cons_self ..) hri hrl D4.asc (HostsAre.pairs (hpd.mono up)) (by rw [List.length_map]; exact hpl) (lex_asc D4.lex) hdl
        fun h' tk' a t1 u1 F' N' n5 n6 n7 n8 => ?_
      refine wpAny_execs_nil ?_
      exact fin h' tk' a cx ox vx tx t1 u1 _ [] F' (fun y hy => keep _ _ _ _ _ _ _ _ y hy) N' (fun p hp => nomatch hp) (fun p hp => nomatch hp)
        (fun p hp => by rw [List.mem_singleton.mp hp]; exact ⟨n5.symm, n6.symm, n7.symm, n8.symm⟩) hcx hox hvx
end
end
end Mine
end
section
namespace Mine
section
open PySem PySem.W PySem.Calls PyProof.Rows PySem.Spec
set_option linter.all false
set_option maxRecDepth 100000
set_option maxHeartbeats 400000
theorem fill27 : WalkO qv looseL (XL qv []) (InK KF) row0.toRowW dLaw [] (fun f vs => PySem.call f vs) → True := by
  k_fill
  exact fun _ => trivial
section
variable {w : World} {pp : Program} {ll : List Str} {mean : ExcName → Option Value} {mg mb : Str → Option Value} {fa : Addr} {h₀ : Heap} {L : Addr} {m : Str → Option Value} {s : Shared} {Q : Flow → Shared → Prop} {E : Value → Shared → Prop} {news : List (Addr × Obj)}
variable {r pa du cl : Addr} {cv : List Value} {ci : List Int} {nc : Nat} {base : List (Addr × Obj)}
theorem st4 (hE : PassesOwn (model pw w) (AL L fa) (eL L fa) E) (B : Below callerA h₀ [] h₀) (F : Fr h₀ L s.heap m) (X : (KF w.params).In h₀) (T : Top pp ll mean mg mb h₀) (C : CodeHd h₀ 179 177)
    (N : News h₀ L s.heap ((r, listOf (List.toArray []) 0) :: (pa, listOf (List.toArray []) 0) :: (du, listOf (List.toArray []) 0) :: (177, tabObj #[]) :: base))
    (o1 : @Ne Nat r pa) (o2 : @Ne Nat r du) (o3 : @Ne Nat pa du) (o4 : @Ne Nat 177 r) (o5 : @Ne Nat 177 pa) (o6 : @Ne Nat 177 du) (hoff : OffA r pa du base) (hnri : ∀ p ∈ base, NotRI p.2)
    (hrow : m (Str.ofString "row") = some (.ref r)) (hpairs : m (Str.ofString "pairs") = some (.ref pa)) (hdue : m (Str.ofString "due") = some (.ref du)) (hcells : m (Str.ofString "cells") = some (.ref cl))
    (hmc : (cl, listOf cv.toArray nc) ∈ base) (hci : IntsAre cv ci) (hc10 : ci.length = 10)
    (hret : ∀ h' tk' m' nx, Fr h₀ L h' m' → News h₀ L h' nx → J4 ((eL L fa).qual ++ Str.ofString "<lambda>") r pa du m base 5 m' nx → Q .next { s with heap := h', toks := tk' }) :
    wpAny (model pw w) (AL L fa) (exec ls4.1 (eL L fa)) Q E s := by
  refine For_invV h₀ rfl rfl ?_ (hE := hE)
  iterate 7 walk1
  rename IsRange _ _ _ _ _ _ _ _ => hRg
  rename Fr h₀ L _ _ => kF
  rename News h₀ L _ _ => kN
  refine iter_rangeJ (n := 5) (J4 ((eL L fa).qual ++ Str.ofString "<lambda>") r pa du m base) rfl hRg (small_one (by decide) (by decide) (by decide) (by decide)) rfl kF kN ⟨[], [], [], [], [], [], 0, 0, 0, #[], base, rfl, .nil, ⟨rfl, fun i d h => by simp at h⟩, ⟨rfl, fun i d h => by simp at h⟩, Told.start, hoff, hnri, fun p hp => hp, .inl rfl, fun _ _ => rfl⟩ (fun i m nx hj => hj.notRI) ?_ ?_
  · intro i t m₁ nx h tk own hi hJ hown F₁ N₁
    exact st4_turn B X T C o1 o2 o3 o4 o5 o6 hrow hpairs hdue hcells hmc hci hc10 i t m₁ nx h tk own hi hJ hown F₁ N₁
  · intro m₁ nx h tk hJ F₁ N₁
    exact hret _ _ _ _ F₁ N₁ hJ
end
end
end Mine
end
section
namespace Mine
section
open PySem PySem.W PySem.Calls PyProof.Rows PySem.Spec
set_option linter.all false
set_option maxRecDepth 100000
set_option maxHeartbeats 4000000
open Classical in
/-- the ledger's lists and tuples -/
noncomputable def seqs (l : List (Addr × Obj)) : List (Addr × Obj) := l.filter fun p => decide (∃ xs n, p.2.data = .seq xs n)
open Classical in
theorem mem_seqs {l : List (Addr × Obj)} {a : Addr} {o : Obj} {xs : Array Value} {n : Nat} (h : (a, o) ∈ l) (hd : o.data = .seq xs n) : (a, o) ∈ seqs l :=
  List.mem_filter.mpr ⟨h, decide_eq_true ⟨xs, n, hd⟩⟩
theorem seqs_sub {l : List (Addr × Obj)} {p : Addr × Obj} (h : p ∈ seqs l) : p ∈ l := (List.mem_filter.mp h).1
open Classical in
theorem seqs_seq {l : List (Addr × Obj)} {p : Addr × Obj} (h : p ∈ seqs l) : ∃ xs n, p.2.data = .seq xs n := of_decide_eq_true (List.mem_filter.mp h).2
theorem HostsAre.seqs {l : List (Addr × Obj)} {vs : List Value} {ds : List (Nat × Int)} (h : HostsAre l vs ds) : HostsAre (seqs l) vs ds :=
  ⟨h.length, fun i d e => let ⟨x, tx, tk, e1, e2⟩ := h.get i d e; ⟨x, tx, tk, e1, mem_seqs e2 rfl⟩⟩
section
variable {w : World} {pp : Program} {ll : List Str} {mean : ExcName → Option Value} {mg mb : Str → Option Value} {fa : Addr} {h₀ : Heap} {L : Addr} {m : Str → Option Value} {s : Shared} {Q : Flow → Shared → Prop} {E : Value → Shared → Prop} {news : List (Addr × Obj)}
theorem law_body {l : Addr} {vs : List Value} {ns : List Int} {cS cP : Obj} {pv₀ : Option Value} (hE : PassesOwn (model pw w) (AL L fa) (eL L fa) E) (B : Below callerA h₀ [] h₀) (F : Fr h₀ L s.heap m) (X : (KF w.params).In h₀) (T : Top pp ll mean mg mb h₀) (C : CodeHd h₀ 179 177)
    (N : News h₀ L s.heap [(L + 1 + 1, cP), (L + 1, cS), (177, tabObj #[])]) (h177 : 177 < L) (hcS : cS.data = .cell (some (.ref l))) (hcP : cP.data = .cell pv₀) (hL : h₀.IsList l vs.toArray) (hI : IntsAre vs ns) (hlen : ns.length ≤ 63)
    (hret : ∀ h' tk' m' ps, Fr h₀ L h' m' → News h₀ L h' [(177, tabObj ps)] → Q (.ret (.bool true)) { s with heap := h', toks := tk' }) :
    wpAny (model pw w) (AL L fa) (execs [ls0.1, ls1.1, ls2.1, ls3.1, ls4.1, ls5.1, ls6.1, ls7.1, ls8.1, ls9.1, ls10.1, ls11.1, ls12.1, ls13.1, ls14.1, ls15.1, ls16.1] (eL L fa)) Q E s := by
  have c1 : (177 : Nat) ≠ L + 1 := by have : (177 : Nat) < L := h177; omega
  have c2 : (177 : Nat) ≠ L + 1 + 1 := by have : (177 : Nat) < L := h177; omega
  refine wpAny_execs_cons ?_
  refine st0 (news := [(L + 1 + 1, cP), (177, tabObj #[])]) B F X T hcS (News.sub N fun p hp => ?_) hL hI hlen fun h0 tk0 cl cv ci hci hc10 F0 N0 n0 n0' => ?_
  · rcases List.mem_cons.mp hp with rfl | hp
    · exact List.mem_cons_of_mem _ (List.mem_cons_self ..)
    rcases List.mem_cons.mp hp with rfl | hp
    · exact List.mem_cons_self ..
    exact List.mem_cons_of_mem _ (List.mem_cons_of_mem _ hp)
  refine wpAny_execs_cons ?_
  refine st1 B F0 X T N0 fun h1 tk1 r F1 N1 l1 => ?_
  refine wpAny_execs_cons ?_
  refine st2 B F1 X T N1 fun h2 tk2 pa F2 N2 l2 => ?_
  refine wpAny_execs_cons ?_
  refine st3 B F2 X T N2 fun h3 tk3 du F3 N3 l3 => ?_
  -- addresses
  have a1 : cl < r := l1 _ (List.mem_cons_self ..)
  have a2 : L + 1 < r := l1 _ (List.mem_cons_of_mem _ (List.mem_cons_self ..))
  have a3 : L + 1 + 1 < r := l1 _ (List.mem_cons_of_mem _ (List.mem_cons_of_mem _ (List.mem_cons_self ..)))
  have a4 : 177 < r := l1 _ (List.mem_cons_of_mem _ (List.mem_cons_of_mem _ (List.mem_cons_of_mem _ (List.mem_cons_self ..))))
  have b1 : r < pa := l2 _ (List.mem_cons_self ..)
  have b2 : pa < du := l3 _ (List.mem_cons_self ..)
  have c177 : (177 : Nat) ≠ cl := n0' _ (List.mem_cons_of_mem _ (List.mem_cons_self ..))
  refine wpAny_execs_cons ?_
  refine st4 (r := r) (pa := pa) (du := du) (cl := cl) (base := [(cl, listOf cv.toArray cv.length), (L + 1, cS), (L + 1 + 1, cP)]) hE B F3 X T C (News.sub N3 fun p hp => ?_) (Nat.ne_of_lt b1) (Nat.ne_of_lt (Nat.lt_trans b1 b2)) (Nat.ne_of_lt b2) (Nat.ne_of_lt a4) (Nat.ne_of_lt (Nat.lt_trans a4 b1)) (Nat.ne_of_lt (Nat.lt_trans a4 (Nat.lt_trans b1 b2))) ?_ ?_ (by repeat' (first | with_reducible assumption | exact if_pos rfl | refine ifne (by decide) ?_)) (by repeat' (first | with_reducible assumption | exact if_pos rfl | refine ifne (by decide) ?_)) (by repeat' (first | with_reducible assumption | exact if_pos rfl | refine ifne (by decide) ?_)) (by repeat' (first | with_reducible assumption | exact if_pos rfl | refine ifne (by decide) ?_)) (List.mem_cons_self ..) hci hc10 fun h4 tk4 m4 nx F4 N4 J => ?_
  · rcases List.mem_cons.mp hp with rfl | hp
    · exact List.mem_cons_of_mem _ (List.mem_cons_of_mem _ (List.mem_cons_self ..))
    rcases List.mem_cons.mp hp with rfl | hp
    · exact List.mem_cons_of_mem _ (List.mem_cons_self ..)
    rcases List.mem_cons.mp hp with rfl | hp
    · exact List.mem_cons_self ..
    rcases List.mem_cons.mp hp with rfl | hp
    · exact List.mem_cons_of_mem _ (List.mem_cons_of_mem _ (List.mem_cons_of_mem _ (List.mem_cons_of_mem _ (List.mem_cons_of_mem _ (List.mem_cons_of_mem _ (List.mem_cons_self ..))))))
    rcases List.mem_cons.mp hp with rfl | hp
    · exact List.mem_cons_of_mem _ (List.mem_cons_of_mem _ (List.mem_cons_of_mem _ (List.mem_cons_self ..)))
    rcases List.mem_cons.mp hp with rfl | hp
    · exact List.mem_cons_of_mem _ (List.mem_cons_of_mem _ (List.mem_cons_of_mem _ (List.mem_cons_of_mem _ (List.mem_cons_self ..))))
    rcases List.mem_cons.mp hp with rfl | hp
    · exact List.mem_cons_of_mem _ (List.mem_cons_of_mem _ (List.mem_cons_of_mem _ (List.mem_cons_of_mem _ (List.mem_cons_of_mem _ (List.mem_cons_self ..)))))
    exact nomatch hp
  · intro p hp
    have lt3 : ∀ {x : Addr}, x < r → x ≠ r ∧ x ≠ pa ∧ x ≠ du := fun hx => ⟨Nat.ne_of_lt hx, Nat.ne_of_lt (Nat.lt_trans hx b1), Nat.ne_of_lt (Nat.lt_trans hx (Nat.lt_trans b1 b2))⟩
    rcases List.mem_cons.mp hp with rfl | hp
    · exact ⟨(lt3 a1).1, (lt3 a1).2.1, (lt3 a1).2.2, Ne.symm c177⟩
    rcases List.mem_cons.mp hp with rfl | hp
    · exact ⟨(lt3 a2).1, (lt3 a2).2.1, (lt3 a2).2.2, Ne.symm c1⟩
    rcases List.mem_cons.mp hp with rfl | hp
    · exact ⟨(lt3 a3).1, (lt3 a3).2.1, (lt3 a3).2.2, Ne.symm c2⟩
    exact nomatch hp
  · intro p hp
    rcases List.mem_cons.mp hp with rfl | hp
    · exact notRI_seq rfl
    rcases List.mem_cons.mp hp with rfl | hp
    · exact fun x y z => .inl (by rw [hcS]; exact fun q => nomatch q)
    rcases List.mem_cons.mp hp with rfl | hp
    · exact fun x y z => .inl (by rw [hcP]; exact fun q => nomatch q)
    exact nomatch hp
  obtain ⟨rv, pv, dv, ri, pd, ds, nr, np, nd, ps, tail, rfl, hri, hpd, hds, D5, hoff, hnri, hbase, htab, hm4⟩ := J
  have hrow4 : m4 (Str.ofString "row") = some (.ref r) := (hm4 _ (by decide)).trans (by repeat' (first | with_reducible assumption | exact if_pos rfl | refine ifne (by decide) ?_))
  have hpairs4 : m4 (Str.ofString "pairs") = some (.ref pa) := (hm4 _ (by decide)).trans (by repeat' (first | with_reducible assumption | exact if_pos rfl | refine ifne (by decide) ?_))
  have hdue4 : m4 (Str.ofString "due") = some (.ref du) := (hm4 _ (by decide)).trans (by repeat' (first | with_reducible assumption | exact if_pos rfl | refine ifne (by decide) ?_))
  have hl5 : ds.length ≤ 5 := D5.len
  have hrl5 : ri.length ≤ 5 := by
    have := D5.rows.length_eq
    rw [List.length_map] at this
    omega
  have hrl : ri.length ≤ 1000 := by omega
  have mr : (r, listOf rv.toArray nr) ∈ (r, listOf rv.toArray nr) :: (pa, listOf pv.toArray np) :: (du, listOf dv.toArray nd) :: tail := List.mem_cons_self ..
  have mp : (pa, listOf pv.toArray np) ∈ (r, listOf rv.toArray nr) :: (pa, listOf pv.toArray np) :: (du, listOf dv.toArray nd) :: tail := List.mem_cons_of_mem _ (List.mem_cons_self ..)
  have md : (du, listOf dv.toArray nd) ∈ (r, listOf rv.toArray nr) :: (pa, listOf pv.toArray np) :: (du, listOf dv.toArray nd) :: tail := List.mem_cons_of_mem _ (List.mem_cons_of_mem _ (List.mem_cons_self ..))
  have mt : ∀ p ∈ tail, p ∈ (r, listOf rv.toArray nr) :: (pa, listOf pv.toArray np) :: (du, listOf dv.toArray nd) :: tail := fun p hp => List.mem_cons_of_mem _ (List.mem_cons_of_mem _ (List.mem_cons_of_mem _ hp))
  have N4' : News h₀ L h4 ((177, tabObj ps) :: (r, listOf rv.toArray nr) :: (pa, listOf pv.toArray np) :: (du, listOf dv.toArray nd) :: tail) := News.sub N4 fun p hp => by
    rcases List.mem_cons.mp hp with rfl | hp
    · exact List.mem_cons_of_mem _ (List.mem_cons_of_mem _ (List.mem_cons_of_mem _ (List.mem_cons_self ..)))
    rcases List.mem_cons.mp hp with rfl | hp
    · exact List.mem_cons_self ..
    rcases List.mem_cons.mp hp with rfl | hp
    · exact List.mem_cons_of_mem _ (List.mem_cons_self ..)
    rcases List.mem_cons.mp hp with rfl | hp
    · exact List.mem_cons_of_mem _ (List.mem_cons_of_mem _ (List.mem_cons_self ..))
    exact List.mem_cons_of_mem _ (List.mem_cons_of_mem _ (List.mem_cons_of_mem _ (List.mem_cons_of_mem _ hp)))
  have ft : ∀ p ∈ (r, listOf rv.toArray nr) :: (pa, listOf pv.toArray np) :: (du, listOf dv.toArray nd) :: tail, p.1 ≠ (177 : Nat) := fun p hp => by
    rcases List.mem_cons.mp hp with rfl | hp
    · exact Nat.ne_of_gt a4
    rcases List.mem_cons.mp hp with rfl | hp
    · exact Nat.ne_of_gt (Nat.lt_trans a4 b1)
    rcases List.mem_cons.mp hp with rfl | hp
    · exact Nat.ne_of_gt (Nat.lt_trans a4 (Nat.lt_trans b1 b2))
    exact (hoff p hp).2.2.2
  generalize hrest : (r, listOf rv.toArray nr) :: (pa, listOf pv.toArray np) :: (du, listOf dv.toArray nd) :: tail = rest at mr mp md mt N4' ft
  have mcP : (L + 1 + 1, cP) ∈ rest := mt _ (hbase _ (List.mem_cons_of_mem _ (List.mem_cons_of_mem _ (List.mem_cons_self ..))))
  have hpdr := hpd.mono mt
  have hdsr := hds.mono mt
  refine wpAny_execs_cons ?_
  have after5 : ∀ h' tk' ps', Fr h₀ L h' m4 → News h₀ L h' ((177, tabObj ps') :: rest) →
      wpAny (model pw w) (AL L fa) (execs [ls6.1, ls7.1, ls8.1, ls9.1, ls10.1, ls11.1, ls12.1, ls13.1, ls14.1, ls15.1, ls16.1] (eL L fa)) Q E { s with heap := h', toks := tk' } := by
    intro h5 tk5 ps' F5 N5
    have hS : NonNeg ri := D5.nonneg
    have hsum := D5.sum (Nat.le_refl 5)
    have N5' : News h₀ L h5 ((L + 1 + 1, cP) :: (177, tabObj ps') :: seqs rest) := News.sub N5 fun p hp => by
      rcases List.mem_cons.mp hp with rfl | hp
      · exact List.mem_cons_of_mem _ mcP
      rcases List.mem_cons.mp hp with rfl | hp
      · exact List.mem_cons_self ..
      exact List.mem_cons_of_mem _ (seqs_sub hp)
    have offP : ∀ p ∈ (177, tabObj ps') :: seqs rest, p.1 ≠ L + 1 + 1 := fun p hp => by
      rcases List.mem_cons.mp hp with rfl | hp
      · exact c2
      obtain ⟨xs, n, hx⟩ := seqs_seq hp
      exact ne_obj N5 (List.mem_cons_of_mem _ (seqs_sub hp)) (List.mem_cons_of_mem _ mcP) (fun q => by rw [q, hcP] at hx; cases hx)
    have riP : ∀ p ∈ (177, tabObj ps') :: seqs rest, NotRI p.2 := fun p hp => by
      rcases List.mem_cons.mp hp with rfl | hp
      · exact fun x y z => .inr fun q => nomatch q
      obtain ⟨xs, n, hx⟩ := seqs_seq hp
      exact notRI_seq hx
    have liP : ∀ p ∈ (177, tabObj ps') :: seqs rest, NotLI p.2 := fun p hp => by
      rcases List.mem_cons.mp hp with rfl | hp
      · exact .inr fun q => nomatch q
      obtain ⟨xs, n, hx⟩ := seqs_seq hp
      exact .inl fun fs q => by rw [hx] at q; cases q
    have mr' : (r, listOf rv.toArray nr) ∈ (177, tabObj ps') :: seqs rest := List.mem_cons_of_mem _ (mem_seqs mr rfl)
    have md' : (du, listOf dv.toArray nd) ∈ (177, tabObj ps') :: seqs rest := List.mem_cons_of_mem _ (mem_seqs md rfl)
    have hds' : HostsAre ((177, tabObj ps') :: seqs rest) dv ds := hdsr.seqs.mono fun p hp => List.mem_cons_of_mem _ hp
    generalize hnews : ((177 : Nat), tabObj ps') :: seqs rest = news at N5' offP riP liP mr' md' hds'
    have m177 : ((177 : Nat), tabObj ps') ∈ news := hnews ▸ List.mem_cons_self ..
    refine wpAny_execs_cons ?_
    refine st6 B F5 X T N5' fun h6 tk6 rs t6 F6 N6 l6 => ?_
    refine wpAny_execs_cons ?_
    refine st7 B F6 X T N6 (by repeat' (first | with_reducible assumption | exact if_pos rfl | refine ifne (by decide) ?_)) (List.mem_cons_of_mem _ (List.mem_cons_of_mem _ mr')) hri hrl D5.asc fun h7 tk7 t7 F7 N7 => ?_
    refine wpAny_execs_cons ?_
    refine st8 (Li := [0]) hE B F7 X T N7 (fun p hp => Nat.ne_of_lt (l6 p hp)) (by repeat' (first | with_reducible assumption | exact if_pos rfl | refine ifne (by decide) ?_)) (List.mem_cons_of_mem _ mr') hri hrl D5.asc hS hsum (by repeat' (first | with_reducible assumption | exact if_pos rfl | refine ifne (by decide) ?_)) (if_pos rfl) (IntsAre.cons _ _ .nil) (RInv.start hS) fun h8 tk8 m8 vL Li nL t8 F8 N8 hLi hR hstop hcount8 hm8 => ?_
    have hrow8 : m8 (Str.ofString "row") = some (.ref r) := (hm8 _ (by decide)).trans (by repeat' (first | with_reducible assumption | exact if_pos rfl | refine ifne (by decide) ?_))
    have hreach8 : m8 (Str.ofString "reaches") = some (.ref rs) := (hm8 _ (by decide)).trans (by repeat' (first | with_reducible assumption | exact if_pos rfl | refine ifne (by decide) ?_))
    have hdue8 : m8 (Str.ofString "due") = some (.ref du) := (hm8 _ (by decide)).trans (by repeat' (first | with_reducible assumption | exact if_pos rfl | refine ifne (by decide) ?_))
    have W := hR.whole D5.asc hS hstop
    have hpos := hR.pos
    have hsmall := hR.small
    have htop := hR.top
    have hnn : 0 ≤ lastI Li := hR.nonneg
    have hR2 : lastI Li ≤ 900 := Int.le_trans htop hsum
    have hLl : Li.length ≤ 1000 := by
      have e : lastI Li = Li.getD (Li.length - 1) 0 := rfl
      omega
    have riAll : NoRI ((rs, listOf vL.toArray nL) :: (L + 1 + 1, cP) :: news) := fun p hp => by
      rcases List.mem_cons.mp hp with rfl | hp
      · exact notRI_seq rfl
      rcases List.mem_cons.mp hp with rfl | hp
      · exact fun x y z => .inl (by rw [hcP]; exact fun q => nomatch q)
      exact riP p hp
    refine wpAny_execs_cons ?_
    refine st9 hE B F8 X T N8 riAll hreach8 (List.mem_cons_self ..) hLi hLl hR.grow fun h9 tk9 m9 F9 N9 hm9 => ?_
    have hrow9 : m9 (Str.ofString "row") = some (.ref r) := (hm9 _ (by decide)).trans hrow8
    have hreach9 : m9 (Str.ofString "reaches") = some (.ref rs) := (hm9 _ (by decide)).trans hreach8
    have hdue9 : m9 (Str.ofString "due") = some (.ref du) := (hm9 _ (by decide)).trans hdue8
    have hcount9 := (hm9 (Str.ofString "count") (by decide)).trans hcount8
    refine wpAny_execs_cons ?_
    refine st10 B F9 X T N9 fun h10 tk10 su t10 F10 N10 => ?_
    refine wpAny_execs_cons ?_
    refine st11 (sv := []) (t := t10) (ns := 0) (oc := cP) (v₀ := pv₀) (su := su) (news := (rs, listOf vL.toArray nL) :: news) hE B F10 X T (News.sub N10 fun p hp => ?_) hcP (fun p hp => ?_) (ne_obj N10 (List.mem_cons_self ..) (List.mem_cons_of_mem _ (List.mem_cons_of_mem _ (List.mem_cons_self ..))) (fun q => by have z := congrArg Obj.data q; rw [hcP] at z; cases z)) (fun p hp => ?_) (by repeat' (first | with_reducible assumption | exact if_pos rfl | refine ifne (by decide) ?_)) (List.mem_cons_of_mem _ md') (hds'.mono fun p hp => List.mem_cons_of_mem _ hp) hl5 (if_pos rfl) fun h11 tk11 m11 su' sv' n' oc' v' F11 N11 hoc' hsums11 hsv hm11 => ?_
    · rcases List.mem_cons.mp hp with rfl | hp
      · exact List.mem_cons_of_mem _ (List.mem_cons_of_mem _ (List.mem_cons_self ..))
      rcases List.mem_cons.mp hp with rfl | hp
      · exact List.mem_cons_self ..
      rcases List.mem_cons.mp hp with rfl | hp
      · exact List.mem_cons_of_mem _ (List.mem_cons_self ..)
      exact List.mem_cons_of_mem _ (List.mem_cons_of_mem _ (List.mem_cons_of_mem _ hp))
    · rcases List.mem_cons.mp hp with rfl | hp
      · exact Nat.ne_of_gt (l6 _ (List.mem_cons_self ..))
      exact offP p hp
    · rcases List.mem_cons.mp hp with rfl | hp
      · exact .inl fun fs q => nomatch q
      exact liP p hp
    have hrow11 : m11 (Str.ofString "row") = some (.ref r) := (hm11 _ (by decide)).trans (by repeat' (first | with_reducible assumption | exact if_pos rfl | refine ifne (by decide) ?_))
    have hreach11 : m11 (Str.ofString "reaches") = some (.ref rs) := (hm11 _ (by decide)).trans (by repeat' (first | with_reducible assumption | exact if_pos rfl | refine ifne (by decide) ?_))
    have hcount11 := (hm11 (Str.ofString "count") (by decide)).trans (ifne (by decide) hcount9)
    refine wpAny_execs_cons ?_
    refine st12 B F11 X T N11 fun h12 tk12 t12 F12 N12 => ?_
    have hpay : ∀ x, x ∈ sumsL [0] (ds.map (·.2)) ↔ Pay ri x := fun x => by rw [mem_sums0]; exact (Pay.perm D5.rows x).symm
    have hslen : (sumsL [0] (ds.map (·.2))).length ≤ 1000 := by
      rw [sumsL_length, List.length_map]
      have q := Nat.pow_le_pow_right (n := 2) (by decide) hl5
      simp only [List.length_singleton]
      omega
    refine wpAny_execs_cons ?_
    refine st13 (R := lastI Li) hE B F12 X T N12 (by repeat' (first | with_reducible assumption | exact if_pos rfl | refine ifne (by decide) ?_)) (List.mem_cons_of_mem _ (List.mem_cons_self ..)) hsv hslen (if_pos rfl) hnn hR2 (fun p h1 h2 => (hpay p).mpr (W.pays (by omega) h2)) (fun q => W.not ((hpay _).mp q)) fun h13 tk13 m13 t13 F13 N13 hprice13 hm13 => ?_
    have hrow13 : m13 (Str.ofString "row") = some (.ref r) := (hm13 _ (by decide)).trans (by repeat' (first | with_reducible assumption | exact if_pos rfl | refine ifne (by decide) ?_))
    have hreach13 : m13 (Str.ofString "reaches") = some (.ref rs) := (hm13 _ (by decide)).trans (by repeat' (first | with_reducible assumption | exact if_pos rfl | refine ifne (by decide) ?_))
    have hcount13 := (hm13 (Str.ofString "count") (by decide)).trans (ifne (by decide) hcount11)
    have mrs : (rs, listOf vL.toArray nL) ∈ (L + 1 + 1, oc') :: (su', listOf (List.toArray sv') n') :: (rs, listOf vL.toArray nL) :: news := List.mem_cons_of_mem _ (List.mem_cons_of_mem _ (List.mem_cons_self ..))
    refine wpAny_execs_cons ?_
    refine st14 B F13 X T N13 hreach13 mrs hLi hLl hpos hprice13 fun h14 tk14 F14 N14 => ?_
    have riAll2 : NoRI ((L + 1 + 1, oc') :: (su', listOf (List.toArray sv') n') :: (rs, listOf vL.toArray nL) :: news) := fun p hp => by
      rcases List.mem_cons.mp hp with rfl | hp
      · exact fun x y z => .inl (by rw [hoc']; exact fun q => nomatch q)
      rcases List.mem_cons.mp hp with rfl | hp
      · exact notRI_seq rfl
      rcases List.mem_cons.mp hp with rfl | hp
      · exact notRI_seq rfl
      exact riP p hp
    refine wpAny_execs_cons ?_
    refine st15 (Li := Li) hE B F14 X T N14 riAll2 hrow13 (List.mem_cons_of_mem _ (List.mem_cons_of_mem _ (List.mem_cons_of_mem _ mr'))) hri hrl D5.asc W hR2 hnn hreach13 mrs hLi hLl hpos hcount13 fun h15 tk15 m15 F15 N15 => ?_
    refine wpAny_execs_cons ?_
    refine st16 B F15 X T N15 fun tk16 => ?_
    exact hret h15 tk16 m15 ps' F15 (News.sub N15 fun p hp => by
      rw [List.mem_singleton.mp hp]
      exact List.mem_cons_of_mem _ (List.mem_cons_of_mem _ (List.mem_cons_of_mem _ m177)))
  have hl5' : (ds.map (·.2)).length ≤ 5 := by rw [List.length_map]; exact hl5
  rcases htab with rfl | ⟨cx, ox, vx, tx, rfl, hcx, hox, hvx⟩
  · exact st5n B F4 X T C N4' ft hrow4 hpairs4 hdue4 mr mp md hri hpdr hdsr D5 D5.asc D5.rows hl5 hl5' after5
  · exact st5h B F4 X T C N4' ft hrow4 hpairs4 hdue4 mr mp md hri hpdr hdsr D5 D5.asc D5.rows hl5 hl5' after5
end
end
end Mine
end
section
namespace Mine
section
open PySem PySem.W PySem.Calls PyProof.Rows
set_option linter.all false
set_option maxRecDepth 100000
set_option maxHeartbeats 4000000
theorem walk : WalkO qv looseL (XL qv []) (InK KF) row0.toRowW dLaw [] (fun f vs => PySem.call f vs) := by
  delta row0 rw0
  delta dLaw fd_law
  dsimp -zeta only
  k_fill
  intro w s₀ s₁ mg mb G Y fa o pm cd doc dV kV ho hd hcd hD hmg hg args vals as hpre hlay hrd hwl hlo
  have KX : (KF w.params).In s₁.heap := Y
  dsimp only at hd hcd hD hmg
  k_behind G ho hd hcd hD hmg hpre hlay hrd hwl hlo cd
  all_goals try k_fold
  rename IntsAre _ _ => hIa
  rename (¬ (_ < _)) => hcond
  rename (_ < _) => hl177
  rename News _ _ _ _ => hN
  rename Fr _ _ _ _ => hF
  rename Below _ _ _ _ => hB
  rename Top _ _ _ _ _ (ghostOf _ _) => hT
  rename (KF w.params).In (ghostOf _ _) => hX
  rename CodeHd _ _ _ => hC
  rename Heap.IsList (ghostOf _ _) _ _ => hL
  rename_i c1 c2 e1 e2 xx
  refine law_body (pv₀ := none) ?hE hB hF hX hT hC hN hl177 ?e2 ?e1 hL hIa (by omega) ?hret
  case e1 => exact e1
  case e2 => exact e2
  case hE => with_unfolding_all passes_own
  case hret =>
    intro h' tk' m' ps F1 N1
    refine ⟨?_, ?_⟩
    · exact goodW_bool F1 hg (by intro cls; rfl) (by wrow_post) rfl
    · exact ⟨GrownAt.of N1 (List.mem_cons_self ..), True.intro⟩
end
end Mine
end
section
namespace Mine
section
open PySem PySem.W PySem.Calls PyProof.Rows
set_option linter.all false
set_option maxRecDepth 100000
theorem row_holds (said : row0.wellSaid = true) (hw : row0.toRowW.promised) (call : WalkO qv looseL (XL qv []) YF row0.toRowW dLaw [] (fun f vs => PySem.call f vs)) : row0.Holds := by
  obtain ⟨ok, k5⟩ := Bool.and_eq_true_iff.mp ok_law
  obtain ⟨hch, o1⟩ := Bool.and_eq_true_iff.mp ok
  obtain ⟨k5, k6⟩ := Bool.and_eq_true_iff.mp k5
  obtain ⟨hsame, hu, ha, hap, hm⟩ := frees_parts k5
  refine ⟨said, hw, ⟨bare_law, o1, rfl⟩, hw.witness, fun w => ⟨(behind w).1, fun s' hs' => ?_⟩⟩
  obtain ⟨s₀, hf, hg0, s, hT, hz, hgens, hg, G0, y⟩ := (behind w).2 s' hs'
  have RF : RecFacts row0.toRowW.records s.heap := recFacts_nil rfl
  have G : Ground qv looseL row0.toRowW.records (XL qv []) w s (s.heap.nsMap mainGlobals) (s.heap.nsMap builtinsNs) s.heap := RF.ground G0
  refine ⟨s₀, hf, hg0, s, hT, fun n hn => ?_, RF.1, RF.2.1, ?_⟩
  · obtain rfl : n = row0.name := by
      have : n ∈ [row0.name] := hn
      exact List.mem_singleton.mp this
    exact pinned_of_view hg G0 def_law the_law kw_law
  · show ClaimW.CallFrom (fun vs => ⟨do match ← nsGet mainNs row0.name with
      | some f => do ret (← PySem.call f vs)
      | none => unsupported "claim.caller:no-such-global", .builtin "claim.caller" {}, default, []⟩) _ _ _ _ _ _
    refine ClaimW.callFrom_of_specG (c := row0.toRowW.claim) hz hgens fun args hpre hlay ord hord => ?_
    obtain ⟨⟨vs, s₁⟩, hlaid⟩ := Option.isSome_iff_exists.mp (layAllW_isSome (P := w.params) (ord := ord) G.has args row0.toRowW.args s (pre_splitW hpre).1)
    have keeps := layAllW_keeps _ _ _ hlaid
    have hal := layAllW_rest _ _ _ hlaid
    obtain ⟨as, hrd, hin, hold⟩ := reads_layAllW hord _ _ _ hlaid hlay s₁.heap (fun _ _ e => e)
    have L : Laid row0.toRowW.records w s s₁ args vs as := ⟨⟨ord, hord, hlaid⟩, hrd, hin, hold, keeps, hal.1.trans hgens, hal.2.2.1⟩
    have G₁ := G.keeps XL.keeps keeps
    obtain ⟨a, o, pm, cd, doc, dV, kV, h1, h2, h3, h4, h5⟩ := G₁.fn def_law
    have h := call w s s₁ _ _ G₁ (YF.keeps _ _ _ y keeps) a o pm cd doc dV kV h2 h3 h4 h5 (defOf_name def_law ▸ h1) L.gens args vs as hpre hlay L.reads L.well (L.low G.low)
    have hi := ident_freeW hu ha hap
    have hwi : row0.toRowW.claim.within = [] := List.isEmpty_iff.mp k6
    refine ⟨vs, s₁, hlaid, wpAny_bind (wpAny_nsGet G₁.T.g ?_)⟩
    rw [h1]
    refine wpAny_bind (wpAny_mono h (fun v s' g => wpAny_pure ⟨_, rfl, ?_⟩) fun e s' g => ?_)
    · have z := g.laid (c := row0.toRowW.claim) hsame hwi hi L
      exact ⟨z.1, z.2.1, z.2.2, fun q => nomatch q⟩
    · have z := g.laid (c := row0.toRowW.claim) hsame hwi hi L
      exact ⟨z.1, z.2.1, z.2.2, fun q => nomatch q⟩
theorem promised0 : PySem.Challenge.rw_ux0031_01.row.toRowW.promised := ⟨[.list []], by decide +kernel, by decide +kernel⟩
theorem seen_said : @OpenLaw.wellSaid = @PySem.W.Fast.tw9446332074065402090 := PySem.W.Fast.te9446332074065402090
theorem said0 : PySem.Challenge.rw_ux0031_01.wellSaid = true := by
  rw [seen_said]
  kernel_rfl
theorem hd (call : WalkO qv looseL (XL qv []) YF row0.toRowW dLaw [] (fun f vs => PySem.call f vs)) : PySem.Challenge.rw_ux0031_01.Holds :=
  holds_law said0 fun said => row_holds said promised0 call
end
end Mine
end
theorem PySem.Challenge.cw_ux0031_01_holds : PySem.Challenge.rw_ux0031_01.Holds :=
  Mine.hd Mine.walk
