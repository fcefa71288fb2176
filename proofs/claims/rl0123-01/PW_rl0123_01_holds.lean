import PyProof.Rows.All
import Wide.All
import OpenK.AllK
import Wide.FinOn
import Lean
import PySem.Challenge.RW_rl0123_01
set_option Elab.async false
-- part HeadEv
section
namespace Mine
open PySem PySem.W PySem.Calls PyProof.Rows

/-- one tree run to its end over a heap kept as a tree of objects; `call` runs a code -/
def evA (call : Ctx → Pos → SharedT → Option (Result × SharedT)) (p : Program) (w : World) (Γ : Ctx) {α : Type} : Sem α → Pos → SharedT → Option (Except Value α × Pos × SharedT)
  | .pure a, q, s => some (.ok a, q, s)
  | .raise e, q, s => some (.error e, q, s)
  | .rule _ k, q, s => evA call p w Γ (k ()) q s
  | .at q k, _, s => evA call p w Γ (k ()) q s
  | .point _ k, q, s => evA call p w Γ (k ()) q s
  | .load a _ k, q, s => match Nat.blt a s.n with
    | true => match s.tree.get a with
      | some o => match alive o with
        | some o' => evA call p w Γ (k o') q s
        | none => none
      | none => none
    | false => none
  | .update a _ f k, q, s => match Nat.blt a s.n with
    | true => match s.tree.get a with
      | some o => match alive o with
        | some _ => evA call p w Γ (k ()) q ⟨s.tree.set a f, s.n, s.life, s.gens, s.drawn, s.toks, s.os⟩
        | none => none
      | none => none
    | false => none
  | .alloc o k, q, s => match ((s.tree.ins s.n o).get s.n).isSome with
    | true => evA call p w Γ (k s.n) q ⟨s.tree.ins s.n o, s.n + 1, s.life, s.gens, s.drawn, s.toks, s.os⟩
    | false => none
  | .loadIfAlive a k, q, s => match Nat.blt a s.n with
    | true => match s.tree.get a with
      | some o => evA call p w Γ (k (alive o)) q s
      | none => none
    | false => evA call p w Γ (k none) q s
  | .fresh k, q, s => evA call p w Γ (k s.toks) q ⟨s.tree, s.n, s.life, s.gens, s.drawn, s.toks + 1, s.os⟩
  | .ask k, q, s => evA call p w Γ (k ⟨p, w.params⟩) q s
  | .handled own k, q, s => evA call p w Γ (k (if own then Γ.own else Γ.handled)) q s
  | .stack k, q, s => evA call p w Γ (k ((Γ.code, q) :: Γ.below)) q s
  | .call c h _ _ k, q, s => match call (Γ.enter c h q) q s with
    | some (r, s') => evA call p w Γ (k r) q s'
    | none => none
  | _, _, _ => none

/-- a code run to its end -/
def evC (den : Code → Sem Fin) (p : Program) (w : World) : Nat → Ctx → Pos → SharedT → Option (Result × SharedT)
  | 0, _, _, _ => none
  | n + 1, Γ, q, s => match evA (evC den p w n) p w Γ (den Γ.code) q s with
    | some (.ok (.done f), _, s') => some (.ok f, s')
    | some (.ok (.again c), q', s') => match c.quiet with
      | true => evC den p w n (Γ.goto c) q' s'
      | false => none
    | some (.error e, _, s') => some (.error e, s')
    | none => none

theorem evA_sound {M : Model} {call : Ctx → Pos → SharedT → Option (Result × SharedT)}
    (hc : ∀ Γ q s r s', call Γ q s = some (r, s') → Returns M Γ q s.abs r s'.abs) (Γ : Ctx) {α : Type} :
    ∀ (t : Sem α) (q : Pos) (s : SharedT) (x : Except Value α) (q' : Pos) (s' : SharedT), evA call M.prog M.w Γ t q s = some (x, q', s') →
    ∀ (Q : α → Pos → Shared → Prop) (E : Value → Pos → Shared → Prop), (∀ a, x = .ok a → Q a q' s'.abs) → (∀ e, x = .error e → E e q' s'.abs) → Sem.wp M Γ t Q E q s.abs := by
  intro t
  induction t with
  | pure a => intro q s x q' s' h Q E hQ hE; simp only [evA, Option.some.injEq, Prod.mk.injEq] at h; obtain ⟨rfl, rfl, rfl⟩ := h; rw [Sem.wp]; exact hQ a rfl
  | raise e => intro q s x q' s' h Q E hQ hE; simp only [evA, Option.some.injEq, Prod.mk.injEq] at h; obtain ⟨rfl, rfl, rfl⟩ := h; rw [Sem.wp]; exact hE e rfl
  | rule tag k ih => intro q s x q' s' h Q E hQ hE; rw [Sem.wp]; exact ih () q s x q' s' h Q E hQ hE
  | «at» p k ih => intro q s x q' s' h Q E hQ hE; rw [Sem.wp]; exact ih () p s x q' s' h Q E hQ hE
  | point l k ih => intro q s x q' s' h Q E hQ hE; rw [Sem.wp]; exact ih () q s x q' s' h Q E hQ hE
  | load a part k ih =>
    intro q s x q' s' h Q E hQ hE
    simp only [evA] at h
    split at h
    · rename_i hb
      split at h
      · rename_i o ho
        split at h
        · rename_i o' ha
          rw [Sem.wp]
          refine ⟨o', ?_, ih o' q s x q' s' h Q E hQ hE⟩
          rw [← ha]; exact abs_get (Nat.le_of_ble_eq_true hb) ho
        · cases h
      · cases h
    · cases h
  | update a part f k ih =>
    intro q s x q' s' h Q E hQ hE
    simp only [evA] at h
    split at h
    · rename_i hb
      split at h
      · rename_i o ho
        split at h
        · rename_i o' ha
          rw [Sem.wp]
          have g : (absHeap s.tree s.n s.life).get? a = some o' := by rw [← ha]; exact abs_get (Nat.le_of_ble_eq_true hb) ho
          refine ⟨by show ((absHeap s.tree s.n s.life).get? a).isSome = true; rw [g]; rfl, ?_⟩
          have z := ih () q _ x q' s' h Q E hQ hE
          have e : ({ s.abs with heap := s.abs.heap.update a f } : Shared) = SharedT.abs ⟨s.tree.set a f, s.n, s.life, s.gens, s.drawn, s.toks, s.os⟩ := by
            show (⟨(absHeap s.tree s.n s.life).update a f, _, _, _, _⟩ : Shared) = ⟨absHeap (s.tree.set a f) s.n s.life, _, _, _, _⟩
            rw [absHeap_set ho]; rfl
          rw [e]; exact z
        · cases h
      · cases h
    · cases h
  | alloc o k ih =>
    intro q s x q' s' h Q E hQ hE
    simp only [evA] at h
    split at h
    · rename_i hb
      rw [Sem.wp]
      have z := ih s.n q _ x q' s' h Q E hQ hE
      have e : ({ s.abs with heap := s.abs.heap.push o } : Shared) = SharedT.abs ⟨s.tree.ins s.n o, s.n + 1, s.life, s.gens, s.drawn, s.toks, s.os⟩ := by
        show (⟨(absHeap s.tree s.n s.life).push o, _, _, _, _⟩ : Shared) = ⟨absHeap (s.tree.ins s.n o) (s.n + 1) s.life, _, _, _, _⟩
        rw [absHeap_ins hb]; rfl
      rw [e]
      have e2 : s.abs.heap.objs.size = s.n := absHeap_size _ _ _
      rw [e2]; exact z
    · cases h
  | loadIfAlive a k ih =>
    intro q s x q' s' h Q E hQ hE
    simp only [evA] at h
    split at h
    · rename_i hb
      split at h
      · rename_i o ho
        rw [Sem.wp]
        have g : s.abs.heap.get? a = alive o := abs_get (Nat.le_of_ble_eq_true hb) ho
        rw [g]; exact ih _ q s x q' s' h Q E hQ hE
      · cases h
    · rename_i hb
      rw [Sem.wp]
      have g : s.abs.heap.get? a = none := abs_get_none (by
        intro hlt
        have := Nat.ble_eq_true_of_le hlt
        have hb' : Nat.blt a s.n = false := hb
        unfold Nat.blt at hb'
        rw [hb'] at this; cases this)
      rw [g]; exact ih _ q s x q' s' h Q E hQ hE
  | fresh k ih => intro q s x q' s' h Q E hQ hE; rw [Sem.wp]; exact ih _ q _ x q' s' h Q E hQ hE
  | ask k ih => intro q s x q' s' h Q E hQ hE; rw [Sem.wp]; exact ih _ q s x q' s' h Q E hQ hE
  | handled own k ih => intro q s x q' s' h Q E hQ hE; rw [Sem.wp]; exact ih _ q s x q' s' h Q E hQ hE
  | stack k ih => intro q s x q' s' h Q E hQ hE; rw [Sem.wp]; exact ih _ q s x q' s' h Q E hQ hE
  | call c hd g l k ih =>
    intro q s x q' s' h Q E hQ hE
    simp only [evA] at h
    split at h
    · rename_i r s₁ hr
      rw [Sem.wp]
      exact ⟨r, s₁.abs, hc _ _ _ _ _ hr, ih r q s₁ x q' s' h Q E hQ hE⟩
    · cases h
  | _ => intro q s x q' s' h; simp only [evA] at h; cases h

theorem evC_sound {M : Model} {den : Code → Sem Fin} (hM : M.den = den) : ∀ (n : Nat) (Γ : Ctx) (q : Pos) (s : SharedT) (r : Result) (s' : SharedT), evC den M.prog M.w n Γ q s = some (r, s') → Returns M Γ q s.abs r s'.abs
  | 0, _, _, _, _, _, h => by cases h
  | n + 1, Γ, q, s, r, s', h => by
    have ih := evC_sound hM n
    unfold evC at h
    have key : wpCode M Γ (fun r₁ s₁ => r₁ = r ∧ s₁ = s'.abs) q s.abs := by
      rw [wpCode_iff_wp]
      rw [hM]
      split at h
      · rename_i f q' s₁ he
        cases h
        exact evA_sound (M := M) ih Γ _ _ _ _ _ _ he _ _ (fun a ha => by cases ha; exact ⟨rfl, rfl⟩) (fun e he => by cases he)
      · rename_i c q' s₁ he
        split at h
        · rename_i hq
          have z := ih _ _ _ _ _ h
          exact evA_sound (M := M) ih Γ _ _ _ _ _ _ he _ _ (fun a ha => by cases ha; exact ⟨hq, _, _, z, rfl, rfl⟩) (fun e he => by cases he)
        · cases h
      · rename_i e q' s₁ he
        cases h
        exact evA_sound (M := M) ih Γ _ _ _ _ _ _ he _ _ (fun a ha => by cases ha) (fun e he => by cases he; exact ⟨rfl, rfl⟩)
      · cases h
    obtain ⟨r₁, s₁, hr, rfl, rfl⟩ := key
    exact hr
end Mine
end

-- part HeadS
section
set_option maxRecDepth 100000
set_option linter.unusedVariables false
namespace Mine
open PySem PySem.W PySem.Calls PyProof.Rows
abbrev pw : Program := PySem.Challenge.pw_rl0123_01
def pDef (i : Nat) : Arguments × List Stmt × Scope := match pw.main.body[i]? with
  | some (.FunctionDef _ a b _ _ _ sc _ _ _) => (a, b, sc)
  | _ => (⟨[], [], none, [], [], none, []⟩, [], default)
def pMeth (i j : Nat) : Arguments × List Stmt × Scope := match pw.main.body[i]? with
  | some (.ClassDef _ _ _ body _ _ _ _ _ _ _) => (match body[j]? with
    | some (.FunctionDef _ a b _ _ _ sc _ _ _) => (a, b, sc)
    | _ => (⟨[], [], none, [], [], none, []⟩, [], default))
  | _ => (⟨[], [], none, [], [], none, []⟩, [], default)
noncomputable def t_s0 (P : Params) : BT := (.node (boot_o_0 P) (.node (boot_o_1 P) (.node (boot_o_3 P) (.node (boot_o_7 P) .nil .nil) .nil) (.node (boot_o_5 P) (.node (boot_o_9 P) .nil .nil) .nil)) (.node (boot_o_2 P) (.node (boot_o_4 P) (.node (boot_o_8 P) .nil .nil) .nil) (.node (boot_o_6 P) (.node (boot_o_10 P) .nil .nil) .nil)))
noncomputable def s_s0 (w : World) (os : OsState) : SharedT := ⟨t_s0 w.params, 11, (boot_heap w.params).life, #[], boot_drawn, 181, os⟩
noncomputable def o11_pre (P : Params) : Obj := ⟨(.type "tuple"), none, (.seq ⟨[]⟩ 0), ⟨[]⟩⟩
noncomputable def o12_pre (P : Params) : Obj := ⟨.none, none, (.fields ⟨[]⟩), ⟨[]⟩⟩
noncomputable def o13_pre (P : Params) : Obj := ⟨(.type "code"), none, (.fields ⟨[(.str (Str.ofString "<module>") 182), (.str (Str.ofString "<module>") 183), (.str (Str.ofString "/claim/cut.py") 184), (.int 1 0), (.int 0 0), (.int 0 0), (.int 0 0), (.int 0 0), (.ref 11), (.bool false), (.int 181 0), (.ref 12), .none, .none, .none, .none, (.int 185 0), (.int 1 0), (.str (Str.ofString "/claim/cut.py") 186)]⟩), ⟨[]⟩⟩
noncomputable def o14_pre (P : Params) : Obj := ⟨(.type "frame"), none, .plain, ⟨[(some (.ref 13)), (some (.ref 3)), (some (.ref 3)), none, (some (.str (Str.ofString "__main__") 164)), none, (some (.ref 0))]⟩⟩
noncomputable def t_pre (P : Params) : BT := (.node (boot_o_0 P) (.node (boot_o_1 P) (.node (boot_o_3 P) (.node (boot_o_7 P) .nil .nil) (.node (o11_pre P) .nil .nil)) (.node (boot_o_5 P) (.node (boot_o_9 P) .nil .nil) (.node (o13_pre P) .nil .nil))) (.node (boot_o_2 P) (.node (boot_o_4 P) (.node (boot_o_8 P) .nil .nil) (.node (o12_pre P) .nil .nil)) (.node (boot_o_6 P) (.node (boot_o_10 P) .nil .nil) (.node (o14_pre P) .nil .nil))))
noncomputable def s_pre (w : World) (os : OsState) : SharedT := ⟨t_pre w.params, 15, (boot_heap w.params).life, #[], boot_drawn, 187, os⟩
noncomputable def o3_p0 (P : Params) : Obj := ⟨(.type "dict"), none, (.dict ⟨[⟨PyData.keyHash P (Str.ofString "__name__"), (.str (Str.ofString "__name__") 165), (.str (Str.ofString "__main__") 164)⟩, ⟨PyData.keyHash P (Str.ofString "__doc__"), (.str (Str.ofString "__doc__") 166), .none⟩, ⟨PyData.keyHash P (Str.ofString "__package__"), (.str (Str.ofString "__package__") 167), .none⟩, ⟨PyData.keyHash P (Str.ofString "__loader__"), (.str (Str.ofString "__loader__") 168), (.builtin "__main__.__loader__#opaque")⟩, ⟨PyData.keyHash P (Str.ofString "__spec__"), (.str (Str.ofString "__spec__") 169), .none⟩, ⟨PyData.keyHash P (Str.ofString "__annotations__"), (.str (Str.ofString "__annotations__") 170), (.ref 6)⟩, ⟨PyData.keyHash P (Str.ofString "__builtins__"), (.str (Str.ofString "__builtins__") 171), (.ref 4)⟩, ⟨PyData.keyHash P (Str.ofString "__file__"), (.str (Str.ofString "__file__") 173), (.str (Str.ofString "/claim/cut.py") 172)⟩, ⟨PyData.keyHash P (Str.ofString "__cached__"), (.str (Str.ofString "__cached__") 174), .none⟩, ⟨PyData.keyHash P (Str.ofString "_wall"), (.str (Str.ofString "_wall") 193), (.ref 21)⟩]⟩ 10), ⟨[]⟩⟩
noncomputable def o12_p0 (P : Params) : Obj := ⟨.none, none, (.fields ⟨[(.int 1 0), (.int 0 0), (.ref 20)]⟩), ⟨[]⟩⟩
noncomputable def o15_p0 (P : Params) : Obj := ⟨(.type "tuple"), none, (.seq ⟨[]⟩ 0), ⟨[]⟩⟩
noncomputable def o16_p0 (P : Params) : Obj := ⟨.none, none, (.fields ⟨[]⟩), ⟨[]⟩⟩
noncomputable def o17_p0 (P : Params) : Obj := ⟨(.type "tuple"), none, (.seq ⟨[(.str (Str.ofString "k") 190)]⟩ 0), ⟨[]⟩⟩
noncomputable def o18_p0 (P : Params) : Obj := ⟨(.type "tuple"), none, (.seq ⟨[]⟩ 0), ⟨[]⟩⟩
noncomputable def o19_p0 (P : Params) : Obj := ⟨.none, none, (.func { name := (Str.ofString "_wall"), qualname := (Str.ofString "_wall"), params := (pDef 0).1, body := .stmts (pDef 0).2.1, scope := (pDef 0).2.2, globals := 0, closure := [], defaults := .none, kwdefaults := .none, doc := .none, pyModule := .none, annotations := none, code := .none, closureTuple := .none, builtins := 0 }), ⟨[]⟩⟩
noncomputable def o20_p0 (P : Params) : Obj := ⟨(.type "code"), none, (.fields ⟨[(.str (Str.ofString "_wall") 187), (.str (Str.ofString "_wall") 188), (.str (Str.ofString "/claim/cut.py") 189), (.int 1 0), (.int 1 0), (.int 0 0), (.int 0 0), (.int 3 0), (.ref 15), (.bool true), (.int 181 0), (.ref 16), .none, (.ref 17), (.ref 18), (.ref 19), (.int 191 0), (.int 1 0), (.str (Str.ofString "/claim/cut.py") 192)]⟩), ⟨[]⟩⟩
noncomputable def o21_p0 (P : Params) : Obj := ⟨(.type "function"), none, (.func { name := (Str.ofString "_wall"), qualname := (Str.ofString "_wall"), params := (pDef 0).1, body := .stmts (pDef 0).2.1, scope := (pDef 0).2.2, globals := 3, closure := [], defaults := .none, kwdefaults := .none, doc := .none, pyModule := (.str (Str.ofString "__main__") 164), annotations := none, code := (.ref 20), closureTuple := .none, builtins := 0 }), ⟨[]⟩⟩
noncomputable def t_p0 (P : Params) : BT := (.node (boot_o_0 P) (.node (boot_o_1 P) (.node (o3_p0 P) (.node (boot_o_7 P) (.node (o15_p0 P) .nil .nil) .nil) (.node (o11_pre P) (.node (o19_p0 P) .nil .nil) .nil)) (.node (boot_o_5 P) (.node (boot_o_9 P) (.node (o17_p0 P) .nil .nil) .nil) (.node (o13_pre P) (.node (o21_p0 P) .nil .nil) .nil))) (.node (boot_o_2 P) (.node (boot_o_4 P) (.node (boot_o_8 P) (.node (o16_p0 P) .nil .nil) .nil) (.node (o12_p0 P) (.node (o20_p0 P) .nil .nil) .nil)) (.node (boot_o_6 P) (.node (boot_o_10 P) (.node (o18_p0 P) .nil .nil) .nil) (.node (o14_pre P) .nil .nil))))
noncomputable def s_p0 (w : World) (os : OsState) : SharedT := ⟨t_p0 w.params, 22, (boot_heap w.params).life, #[], boot_drawn, 194, os⟩
noncomputable def o3_p1 (P : Params) : Obj := ⟨(.type "dict"), none, (.dict ⟨[⟨PyData.keyHash P (Str.ofString "__name__"), (.str (Str.ofString "__name__") 165), (.str (Str.ofString "cpy313.dis") 194)⟩, ⟨PyData.keyHash P (Str.ofString "__doc__"), (.str (Str.ofString "__doc__") 166), .none⟩, ⟨PyData.keyHash P (Str.ofString "__package__"), (.str (Str.ofString "__package__") 167), .none⟩, ⟨PyData.keyHash P (Str.ofString "__loader__"), (.str (Str.ofString "__loader__") 168), (.builtin "__main__.__loader__#opaque")⟩, ⟨PyData.keyHash P (Str.ofString "__spec__"), (.str (Str.ofString "__spec__") 169), .none⟩, ⟨PyData.keyHash P (Str.ofString "__annotations__"), (.str (Str.ofString "__annotations__") 170), (.ref 6)⟩, ⟨PyData.keyHash P (Str.ofString "__builtins__"), (.str (Str.ofString "__builtins__") 171), (.ref 4)⟩, ⟨PyData.keyHash P (Str.ofString "__file__"), (.str (Str.ofString "__file__") 173), (.str (Str.ofString "/claim/cut.py") 172)⟩, ⟨PyData.keyHash P (Str.ofString "__cached__"), (.str (Str.ofString "__cached__") 174), .none⟩, ⟨PyData.keyHash P (Str.ofString "_wall"), (.str (Str.ofString "_wall") 193), (.ref 21)⟩]⟩ 10), ⟨[]⟩⟩
noncomputable def t_p1 (P : Params) : BT := (.node (boot_o_0 P) (.node (boot_o_1 P) (.node (o3_p1 P) (.node (boot_o_7 P) (.node (o15_p0 P) .nil .nil) .nil) (.node (o11_pre P) (.node (o19_p0 P) .nil .nil) .nil)) (.node (boot_o_5 P) (.node (boot_o_9 P) (.node (o17_p0 P) .nil .nil) .nil) (.node (o13_pre P) (.node (o21_p0 P) .nil .nil) .nil))) (.node (boot_o_2 P) (.node (boot_o_4 P) (.node (boot_o_8 P) (.node (o16_p0 P) .nil .nil) .nil) (.node (o12_p0 P) (.node (o20_p0 P) .nil .nil) .nil)) (.node (boot_o_6 P) (.node (boot_o_10 P) (.node (o18_p0 P) .nil .nil) .nil) (.node (o14_pre P) .nil .nil))))
noncomputable def s_p1 (w : World) (os : OsState) : SharedT := ⟨t_p1 w.params, 22, (boot_heap w.params).life, #[], boot_drawn, 196, os⟩
noncomputable def o3_p2 (P : Params) : Obj := ⟨(.type "dict"), none, (.dict ⟨[⟨PyData.keyHash P (Str.ofString "__name__"), (.str (Str.ofString "__name__") 165), (.str (Str.ofString "cpy313.dis") 194)⟩, ⟨PyData.keyHash P (Str.ofString "__doc__"), (.str (Str.ofString "__doc__") 166), .none⟩, ⟨PyData.keyHash P (Str.ofString "__package__"), (.str (Str.ofString "__package__") 167), .none⟩, ⟨PyData.keyHash P (Str.ofString "__loader__"), (.str (Str.ofString "__loader__") 168), (.builtin "__main__.__loader__#opaque")⟩, ⟨PyData.keyHash P (Str.ofString "__spec__"), (.str (Str.ofString "__spec__") 169), .none⟩, ⟨PyData.keyHash P (Str.ofString "__annotations__"), (.str (Str.ofString "__annotations__") 170), (.ref 6)⟩, ⟨PyData.keyHash P (Str.ofString "__builtins__"), (.str (Str.ofString "__builtins__") 171), (.ref 4)⟩, ⟨PyData.keyHash P (Str.ofString "__file__"), (.str (Str.ofString "__file__") 173), (.str (Str.ofString "/claim/cut.py") 172)⟩, ⟨PyData.keyHash P (Str.ofString "__cached__"), (.str (Str.ofString "__cached__") 174), .none⟩, ⟨PyData.keyHash P (Str.ofString "_wall"), (.str (Str.ofString "_wall") 193), (.ref 21)⟩, ⟨PyData.keyHash P (Str.ofString "_parse_varint"), (.str (Str.ofString "_parse_varint") 204), (.ref 28)⟩]⟩ 11), ⟨[]⟩⟩
noncomputable def o12_p2 (P : Params) : Obj := ⟨.none, none, (.fields ⟨[(.int 1 0), (.int 0 0), (.ref 20), (.int 5 0), (.int 0 0), (.ref 27)]⟩), ⟨[]⟩⟩
noncomputable def o22_p2 (P : Params) : Obj := ⟨(.type "tuple"), none, (.seq ⟨[]⟩ 0), ⟨[]⟩⟩
noncomputable def o23_p2 (P : Params) : Obj := ⟨.none, none, (.fields ⟨[]⟩), ⟨[]⟩⟩
noncomputable def o24_p2 (P : Params) : Obj := ⟨(.type "tuple"), none, (.seq ⟨[(.str (Str.ofString "iterator") 199), (.str (Str.ofString "b") 200), (.str (Str.ofString "val") 201)]⟩ 0), ⟨[]⟩⟩
noncomputable def o25_p2 (P : Params) : Obj := ⟨(.type "tuple"), none, (.seq ⟨[]⟩ 0), ⟨[]⟩⟩
noncomputable def o26_p2 (P : Params) : Obj := ⟨.none, none, (.func { name := (Str.ofString "_parse_varint"), qualname := (Str.ofString "_parse_varint"), params := (pDef 2).1, body := .stmts (pDef 2).2.1, scope := (pDef 2).2.2, globals := 0, closure := [], defaults := .none, kwdefaults := .none, doc := .none, pyModule := .none, annotations := none, code := .none, closureTuple := .none, builtins := 0 }), ⟨[]⟩⟩
noncomputable def o27_p2 (P : Params) : Obj := ⟨(.type "code"), none, (.fields ⟨[(.str (Str.ofString "_parse_varint") 196), (.str (Str.ofString "_parse_varint") 197), (.str (Str.ofString "/claim/cut.py") 198), (.int 5 0), (.int 1 0), (.int 0 0), (.int 0 0), (.int 3 0), (.ref 22), (.bool true), (.int 181 0), (.ref 23), .none, (.ref 24), (.ref 25), (.ref 26), (.int 202 0), (.int 5 0), (.str (Str.ofString "/claim/cut.py") 203)]⟩), ⟨[]⟩⟩
noncomputable def o28_p2 (P : Params) : Obj := ⟨(.type "function"), none, (.func { name := (Str.ofString "_parse_varint"), qualname := (Str.ofString "_parse_varint"), params := (pDef 2).1, body := .stmts (pDef 2).2.1, scope := (pDef 2).2.2, globals := 3, closure := [], defaults := .none, kwdefaults := .none, doc := .none, pyModule := (.str (Str.ofString "cpy313.dis") 194), annotations := none, code := (.ref 27), closureTuple := .none, builtins := 0 }), ⟨[]⟩⟩
noncomputable def t_p2 (P : Params) : BT := (.node (boot_o_0 P) (.node (boot_o_1 P) (.node (o3_p2 P) (.node (boot_o_7 P) (.node (o15_p0 P) .nil .nil) (.node (o23_p2 P) .nil .nil)) (.node (o11_pre P) (.node (o19_p0 P) .nil .nil) (.node (o27_p2 P) .nil .nil))) (.node (boot_o_5 P) (.node (boot_o_9 P) (.node (o17_p0 P) .nil .nil) (.node (o25_p2 P) .nil .nil)) (.node (o13_pre P) (.node (o21_p0 P) .nil .nil) .nil))) (.node (boot_o_2 P) (.node (boot_o_4 P) (.node (boot_o_8 P) (.node (o16_p0 P) .nil .nil) (.node (o24_p2 P) .nil .nil)) (.node (o12_p2 P) (.node (o20_p0 P) .nil .nil) (.node (o28_p2 P) .nil .nil))) (.node (boot_o_6 P) (.node (boot_o_10 P) (.node (o18_p0 P) .nil .nil) (.node (o26_p2 P) .nil .nil)) (.node (o14_pre P) (.node (o22_p2 P) .nil .nil) .nil))))
noncomputable def s_p2 (w : World) (os : OsState) : SharedT := ⟨t_p2 w.params, 29, (boot_heap w.params).life, #[], boot_drawn, 205, os⟩
noncomputable def o3_p3 (P : Params) : Obj := ⟨(.type "dict"), none, (.dict ⟨[⟨PyData.keyHash P (Str.ofString "__name__"), (.str (Str.ofString "__name__") 165), (.str (Str.ofString "cpy313.stringprep") 205)⟩, ⟨PyData.keyHash P (Str.ofString "__doc__"), (.str (Str.ofString "__doc__") 166), .none⟩, ⟨PyData.keyHash P (Str.ofString "__package__"), (.str (Str.ofString "__package__") 167), .none⟩, ⟨PyData.keyHash P (Str.ofString "__loader__"), (.str (Str.ofString "__loader__") 168), (.builtin "__main__.__loader__#opaque")⟩, ⟨PyData.keyHash P (Str.ofString "__spec__"), (.str (Str.ofString "__spec__") 169), .none⟩, ⟨PyData.keyHash P (Str.ofString "__annotations__"), (.str (Str.ofString "__annotations__") 170), (.ref 6)⟩, ⟨PyData.keyHash P (Str.ofString "__builtins__"), (.str (Str.ofString "__builtins__") 171), (.ref 4)⟩, ⟨PyData.keyHash P (Str.ofString "__file__"), (.str (Str.ofString "__file__") 173), (.str (Str.ofString "/claim/cut.py") 172)⟩, ⟨PyData.keyHash P (Str.ofString "__cached__"), (.str (Str.ofString "__cached__") 174), .none⟩, ⟨PyData.keyHash P (Str.ofString "_wall"), (.str (Str.ofString "_wall") 193), (.ref 21)⟩, ⟨PyData.keyHash P (Str.ofString "_parse_varint"), (.str (Str.ofString "_parse_varint") 204), (.ref 28)⟩]⟩ 11), ⟨[]⟩⟩
noncomputable def t_p3 (P : Params) : BT := (.node (boot_o_0 P) (.node (boot_o_1 P) (.node (o3_p3 P) (.node (boot_o_7 P) (.node (o15_p0 P) .nil .nil) (.node (o23_p2 P) .nil .nil)) (.node (o11_pre P) (.node (o19_p0 P) .nil .nil) (.node (o27_p2 P) .nil .nil))) (.node (boot_o_5 P) (.node (boot_o_9 P) (.node (o17_p0 P) .nil .nil) (.node (o25_p2 P) .nil .nil)) (.node (o13_pre P) (.node (o21_p0 P) .nil .nil) .nil))) (.node (boot_o_2 P) (.node (boot_o_4 P) (.node (boot_o_8 P) (.node (o16_p0 P) .nil .nil) (.node (o24_p2 P) .nil .nil)) (.node (o12_p2 P) (.node (o20_p0 P) .nil .nil) (.node (o28_p2 P) .nil .nil))) (.node (boot_o_6 P) (.node (boot_o_10 P) (.node (o18_p0 P) .nil .nil) (.node (o26_p2 P) .nil .nil)) (.node (o14_pre P) (.node (o22_p2 P) .nil .nil) .nil))))
noncomputable def s_p3 (w : World) (os : OsState) : SharedT := ⟨t_p3 w.params, 29, (boot_heap w.params).life, #[], boot_drawn, 207, os⟩
noncomputable def o3_p4 (P : Params) : Obj := ⟨(.type "dict"), none, (.dict ⟨[⟨PyData.keyHash P (Str.ofString "__name__"), (.str (Str.ofString "__name__") 165), (.str (Str.ofString "cpy313.stringprep") 205)⟩, ⟨PyData.keyHash P (Str.ofString "__doc__"), (.str (Str.ofString "__doc__") 166), .none⟩, ⟨PyData.keyHash P (Str.ofString "__package__"), (.str (Str.ofString "__package__") 167), .none⟩, ⟨PyData.keyHash P (Str.ofString "__loader__"), (.str (Str.ofString "__loader__") 168), (.builtin "__main__.__loader__#opaque")⟩, ⟨PyData.keyHash P (Str.ofString "__spec__"), (.str (Str.ofString "__spec__") 169), .none⟩, ⟨PyData.keyHash P (Str.ofString "__annotations__"), (.str (Str.ofString "__annotations__") 170), (.ref 6)⟩, ⟨PyData.keyHash P (Str.ofString "__builtins__"), (.str (Str.ofString "__builtins__") 171), (.ref 4)⟩, ⟨PyData.keyHash P (Str.ofString "__file__"), (.str (Str.ofString "__file__") 173), (.str (Str.ofString "/claim/cut.py") 172)⟩, ⟨PyData.keyHash P (Str.ofString "__cached__"), (.str (Str.ofString "__cached__") 174), .none⟩, ⟨PyData.keyHash P (Str.ofString "_wall"), (.str (Str.ofString "_wall") 193), (.ref 21)⟩, ⟨PyData.keyHash P (Str.ofString "_parse_varint"), (.str (Str.ofString "_parse_varint") 204), (.ref 28)⟩, ⟨PyData.keyHash P (Str.ofString "b1_set"), (.str (Str.ofString "b1_set") 266), (.ref 36)⟩]⟩ 12), ⟨[]⟩⟩
noncomputable def o29_p4 (P : Params) : Obj := ⟨(.type "list"), none, (.seq ⟨[(.int 173 207), (.int 847 208), (.int 6150 209), (.int 6155 210), (.int 6156 211), (.int 6157 212), (.int 8203 213), (.int 8204 214), (.int 8205 215), (.int 8288 216), (.int 65279 217)]⟩ 0), ⟨[]⟩⟩
noncomputable def o30_p4 (P : Params) : Obj := ⟨(.type "range"), none, (.fields ⟨[(.int 65024 218), (.int 65040 219), (.int 1 220)]⟩), ⟨[]⟩⟩
noncomputable def o31_p4 (P : Params) : Obj := ⟨(.type "list"), none, (.seq ⟨[(.int 65024 223), (.int 65025 224), (.int 65026 225), (.int 65027 226), (.int 65028 227), (.int 65029 228), (.int 65030 229), (.int 65031 230), (.int 65032 231), (.int 65033 232), (.int 65034 233), (.int 65035 234), (.int 65036 235), (.int 65037 236), (.int 65038 237), (.int 65039 238)]⟩ 18), ⟨[]⟩⟩
noncomputable def o32_p4 (P : Params) : Obj := ⟨(.type "range_iterator"), none, (.fields ⟨[(.int 65040 0), (.int 0 0), (.int 1 0)]⟩), ⟨[]⟩⟩
noncomputable def o33_p4 (P : Params) : Obj := ⟨(.type "tuple"), none, (.seq ⟨[]⟩ 0), ⟨[]⟩⟩
noncomputable def o34_p4 (P : Params) : Obj := ⟨(.type "StopIteration"), none, (.fields ⟨[(.ref 33), .none, .none, .none, (.bool false), .none]⟩), ⟨[]⟩⟩
noncomputable def o35_p4 (P : Params) : Obj := ⟨(.type "list"), none, (.seq ⟨[(.int 173 207), (.int 847 208), (.int 6150 209), (.int 6155 210), (.int 6156 211), (.int 6157 212), (.int 8203 213), (.int 8204 214), (.int 8205 215), (.int 8288 216), (.int 65279 217), (.int 65024 223), (.int 65025 224), (.int 65026 225), (.int 65027 226), (.int 65028 227), (.int 65029 228), (.int 65030 229), (.int 65031 230), (.int 65032 231), (.int 65033 232), (.int 65034 233), (.int 65035 234), (.int 65036 235), (.int 65037 236), (.int 65038 237), (.int 65039 238)]⟩ 0), ⟨[]⟩⟩
noncomputable def o36_p4 (P : Params) : Obj := ⟨(.type "set"), none, (.set ⟨[(65024, (.int 65024 223)), (65025, (.int 65025 224)), (65026, (.int 65026 225)), (65027, (.int 65027 226)), (65028, (.int 65028 227)), (65029, (.int 65029 228)), (6150, (.int 6150 209)), (65030, (.int 65030 229)), (65031, (.int 65031 230)), (65032, (.int 65032 231)), (65033, (.int 65033 232)), (6155, (.int 6155 210)), (6156, (.int 6156 211)), (6157, (.int 6157 212)), (8203, (.int 8203 213)), (8204, (.int 8204 214)), (8205, (.int 8205 215)), (65034, (.int 65034 233)), (65035, (.int 65035 234)), (65036, (.int 65036 235)), (65037, (.int 65037 236)), (65038, (.int 65038 237)), (65039, (.int 65039 238)), (173, (.int 173 207)), (847, (.int 847 208)), (8288, (.int 8288 216)), (65279, (.int 65279 217))]⟩ 29 ⟨127, ⟨[0, 1, 2, 3, 4, 5, 6, 7, 8, 9, 10, 11, 12, 13, 14, 15, 16, 17, 18, 19, 20, 21, 22, 45, 79, 96, 127]⟩, ⟨[]⟩, 0, (!P.followText "set-order"), 2, true⟩), ⟨[]⟩⟩
noncomputable def o37_p4 (P : Params) : Obj := ⟨(.type "list_iterator"), none, (.fields ⟨[.none, (.int 27 0)]⟩), ⟨[]⟩⟩
noncomputable def o38_p4 (P : Params) : Obj := ⟨(.type "tuple"), none, (.seq ⟨[]⟩ 0), ⟨[]⟩⟩
noncomputable def o39_p4 (P : Params) : Obj := ⟨(.type "StopIteration"), none, (.fields ⟨[(.ref 38), .none, .none, .none, (.bool false), .none]⟩), ⟨[]⟩⟩
noncomputable def t_p4 (P : Params) : BT := (.node (boot_o_0 P) (.node (boot_o_1 P) (.node (o3_p4 P) (.node (boot_o_7 P) (.node (o15_p0 P) (.node (o31_p4 P) .nil .nil) .nil) (.node (o23_p2 P) (.node (o39_p4 P) .nil .nil) .nil)) (.node (o11_pre P) (.node (o19_p0 P) (.node (o35_p4 P) .nil .nil) .nil) (.node (o27_p2 P) .nil .nil))) (.node (boot_o_5 P) (.node (boot_o_9 P) (.node (o17_p0 P) (.node (o33_p4 P) .nil .nil) .nil) (.node (o25_p2 P) .nil .nil)) (.node (o13_pre P) (.node (o21_p0 P) (.node (o37_p4 P) .nil .nil) .nil) (.node (o29_p4 P) .nil .nil)))) (.node (boot_o_2 P) (.node (boot_o_4 P) (.node (boot_o_8 P) (.node (o16_p0 P) (.node (o32_p4 P) .nil .nil) .nil) (.node (o24_p2 P) .nil .nil)) (.node (o12_p2 P) (.node (o20_p0 P) (.node (o36_p4 P) .nil .nil) .nil) (.node (o28_p2 P) .nil .nil))) (.node (boot_o_6 P) (.node (boot_o_10 P) (.node (o18_p0 P) (.node (o34_p4 P) .nil .nil) .nil) (.node (o26_p2 P) .nil .nil)) (.node (o14_pre P) (.node (o22_p2 P) (.node (o38_p4 P) .nil .nil) .nil) (.node (o30_p4 P) .nil .nil)))))
noncomputable def s_p4 (w : World) (os : OsState) : SharedT := ⟨t_p4 w.params, 40, (boot_heap w.params).life, #[], boot_drawn, 267, os⟩
noncomputable def o3_p5 (P : Params) : Obj := ⟨(.type "dict"), none, (.dict ⟨[⟨PyData.keyHash P (Str.ofString "__name__"), (.str (Str.ofString "__name__") 165), (.str (Str.ofString "cpy313.stringprep") 205)⟩, ⟨PyData.keyHash P (Str.ofString "__doc__"), (.str (Str.ofString "__doc__") 166), .none⟩, ⟨PyData.keyHash P (Str.ofString "__package__"), (.str (Str.ofString "__package__") 167), .none⟩, ⟨PyData.keyHash P (Str.ofString "__loader__"), (.str (Str.ofString "__loader__") 168), (.builtin "__main__.__loader__#opaque")⟩, ⟨PyData.keyHash P (Str.ofString "__spec__"), (.str (Str.ofString "__spec__") 169), .none⟩, ⟨PyData.keyHash P (Str.ofString "__annotations__"), (.str (Str.ofString "__annotations__") 170), (.ref 6)⟩, ⟨PyData.keyHash P (Str.ofString "__builtins__"), (.str (Str.ofString "__builtins__") 171), (.ref 4)⟩, ⟨PyData.keyHash P (Str.ofString "__file__"), (.str (Str.ofString "__file__") 173), (.str (Str.ofString "/claim/cut.py") 172)⟩, ⟨PyData.keyHash P (Str.ofString "__cached__"), (.str (Str.ofString "__cached__") 174), .none⟩, ⟨PyData.keyHash P (Str.ofString "_wall"), (.str (Str.ofString "_wall") 193), (.ref 21)⟩, ⟨PyData.keyHash P (Str.ofString "_parse_varint"), (.str (Str.ofString "_parse_varint") 204), (.ref 28)⟩, ⟨PyData.keyHash P (Str.ofString "b1_set"), (.str (Str.ofString "b1_set") 266), (.ref 36)⟩, ⟨PyData.keyHash P (Str.ofString "in_table_b1"), (.str (Str.ofString "in_table_b1") 273), (.ref 46)⟩]⟩ 13), ⟨[]⟩⟩
noncomputable def o12_p5 (P : Params) : Obj := ⟨.none, none, (.fields ⟨[(.int 1 0), (.int 0 0), (.ref 20), (.int 5 0), (.int 0 0), (.ref 27), (.int 15 0), (.int 0 0), (.ref 45)]⟩), ⟨[]⟩⟩
noncomputable def o40_p5 (P : Params) : Obj := ⟨(.type "tuple"), none, (.seq ⟨[]⟩ 0), ⟨[]⟩⟩
noncomputable def o41_p5 (P : Params) : Obj := ⟨.none, none, (.fields ⟨[]⟩), ⟨[]⟩⟩
noncomputable def o42_p5 (P : Params) : Obj := ⟨(.type "tuple"), none, (.seq ⟨[(.str (Str.ofString "code") 270)]⟩ 0), ⟨[]⟩⟩
noncomputable def o43_p5 (P : Params) : Obj := ⟨(.type "tuple"), none, (.seq ⟨[]⟩ 0), ⟨[]⟩⟩
noncomputable def o44_p5 (P : Params) : Obj := ⟨.none, none, (.func { name := (Str.ofString "in_table_b1"), qualname := (Str.ofString "in_table_b1"), params := (pDef 5).1, body := .stmts (pDef 5).2.1, scope := (pDef 5).2.2, globals := 0, closure := [], defaults := .none, kwdefaults := .none, doc := .none, pyModule := .none, annotations := none, code := .none, closureTuple := .none, builtins := 0 }), ⟨[]⟩⟩
noncomputable def o45_p5 (P : Params) : Obj := ⟨(.type "code"), none, (.fields ⟨[(.str (Str.ofString "in_table_b1") 267), (.str (Str.ofString "in_table_b1") 268), (.str (Str.ofString "/claim/cut.py") 269), (.int 15 0), (.int 1 0), (.int 0 0), (.int 0 0), (.int 3 0), (.ref 40), (.bool true), (.int 181 0), (.ref 41), .none, (.ref 42), (.ref 43), (.ref 44), (.int 271 0), (.int 15 0), (.str (Str.ofString "/claim/cut.py") 272)]⟩), ⟨[]⟩⟩
noncomputable def o46_p5 (P : Params) : Obj := ⟨(.type "function"), none, (.func { name := (Str.ofString "in_table_b1"), qualname := (Str.ofString "in_table_b1"), params := (pDef 5).1, body := .stmts (pDef 5).2.1, scope := (pDef 5).2.2, globals := 3, closure := [], defaults := .none, kwdefaults := .none, doc := .none, pyModule := (.str (Str.ofString "cpy313.stringprep") 205), annotations := none, code := (.ref 45), closureTuple := .none, builtins := 0 }), ⟨[]⟩⟩
noncomputable def t_p5 (P : Params) : BT := (.node (boot_o_0 P) (.node (boot_o_1 P) (.node (o3_p5 P) (.node (boot_o_7 P) (.node (o15_p0 P) (.node (o31_p4 P) .nil .nil) .nil) (.node (o23_p2 P) (.node (o39_p4 P) .nil .nil) .nil)) (.node (o11_pre P) (.node (o19_p0 P) (.node (o35_p4 P) .nil .nil) .nil) (.node (o27_p2 P) (.node (o43_p5 P) .nil .nil) .nil))) (.node (boot_o_5 P) (.node (boot_o_9 P) (.node (o17_p0 P) (.node (o33_p4 P) .nil .nil) .nil) (.node (o25_p2 P) (.node (o41_p5 P) .nil .nil) .nil)) (.node (o13_pre P) (.node (o21_p0 P) (.node (o37_p4 P) .nil .nil) .nil) (.node (o29_p4 P) (.node (o45_p5 P) .nil .nil) .nil)))) (.node (boot_o_2 P) (.node (boot_o_4 P) (.node (boot_o_8 P) (.node (o16_p0 P) (.node (o32_p4 P) .nil .nil) .nil) (.node (o24_p2 P) (.node (o40_p5 P) .nil .nil) .nil)) (.node (o12_p5 P) (.node (o20_p0 P) (.node (o36_p4 P) .nil .nil) .nil) (.node (o28_p2 P) (.node (o44_p5 P) .nil .nil) .nil))) (.node (boot_o_6 P) (.node (boot_o_10 P) (.node (o18_p0 P) (.node (o34_p4 P) .nil .nil) .nil) (.node (o26_p2 P) (.node (o42_p5 P) .nil .nil) .nil)) (.node (o14_pre P) (.node (o22_p2 P) (.node (o38_p4 P) .nil .nil) .nil) (.node (o30_p4 P) (.node (o46_p5 P) .nil .nil) .nil)))))
noncomputable def s_p5 (w : World) (os : OsState) : SharedT := ⟨t_p5 w.params, 47, (boot_heap w.params).life, #[], boot_drawn, 274, os⟩
noncomputable def o3_p6 (P : Params) : Obj := ⟨(.type "dict"), none, (.dict ⟨[⟨PyData.keyHash P (Str.ofString "__name__"), (.str (Str.ofString "__name__") 165), (.str (Str.ofString "cpy313.stringprep") 205)⟩, ⟨PyData.keyHash P (Str.ofString "__doc__"), (.str (Str.ofString "__doc__") 166), .none⟩, ⟨PyData.keyHash P (Str.ofString "__package__"), (.str (Str.ofString "__package__") 167), .none⟩, ⟨PyData.keyHash P (Str.ofString "__loader__"), (.str (Str.ofString "__loader__") 168), (.builtin "__main__.__loader__#opaque")⟩, ⟨PyData.keyHash P (Str.ofString "__spec__"), (.str (Str.ofString "__spec__") 169), .none⟩, ⟨PyData.keyHash P (Str.ofString "__annotations__"), (.str (Str.ofString "__annotations__") 170), (.ref 6)⟩, ⟨PyData.keyHash P (Str.ofString "__builtins__"), (.str (Str.ofString "__builtins__") 171), (.ref 4)⟩, ⟨PyData.keyHash P (Str.ofString "__file__"), (.str (Str.ofString "__file__") 173), (.str (Str.ofString "/claim/cut.py") 172)⟩, ⟨PyData.keyHash P (Str.ofString "__cached__"), (.str (Str.ofString "__cached__") 174), .none⟩, ⟨PyData.keyHash P (Str.ofString "_wall"), (.str (Str.ofString "_wall") 193), (.ref 21)⟩, ⟨PyData.keyHash P (Str.ofString "_parse_varint"), (.str (Str.ofString "_parse_varint") 204), (.ref 28)⟩, ⟨PyData.keyHash P (Str.ofString "b1_set"), (.str (Str.ofString "b1_set") 266), (.ref 36)⟩, ⟨PyData.keyHash P (Str.ofString "in_table_b1"), (.str (Str.ofString "in_table_b1") 273), (.ref 46)⟩, ⟨PyData.keyHash P (Str.ofString "b3_exceptions"), (.str (Str.ofString "b3_exceptions") 2224), (.ref 47)⟩]⟩ 14), ⟨[]⟩⟩
noncomputable def t_p6 (X : Nat → Obj) (P : Params) : BT := (.node (boot_o_0 P) (.node (boot_o_1 P) (.node (o3_p6 P) (.node (boot_o_7 P) (.node (o15_p0 P) (.node (o31_p4 P) (.node (X 63) .nil .nil) .nil) (.node (X 47) (.node (X 79) .nil .nil) .nil)) (.node (o23_p2 P) (.node (o39_p4 P) (.node (X 71) .nil .nil) .nil) (.node (X 55) .nil .nil))) (.node (o11_pre P) (.node (o19_p0 P) (.node (o35_p4 P) (.node (X 67) .nil .nil) .nil) (.node (X 51) (.node (X 83) .nil .nil) .nil)) (.node (o27_p2 P) (.node (o43_p5 P) (.node (X 75) .nil .nil) .nil) (.node (X 59) .nil .nil)))) (.node (boot_o_5 P) (.node (boot_o_9 P) (.node (o17_p0 P) (.node (o33_p4 P) (.node (X 65) .nil .nil) .nil) (.node (X 49) (.node (X 81) .nil .nil) .nil)) (.node (o25_p2 P) (.node (o41_p5 P) (.node (X 73) .nil .nil) .nil) (.node (X 57) .nil .nil))) (.node (o13_pre P) (.node (o21_p0 P) (.node (o37_p4 P) (.node (X 69) .nil .nil) .nil) (.node (X 53) (.node (X 85) .nil .nil) .nil)) (.node (o29_p4 P) (.node (o45_p5 P) (.node (X 77) .nil .nil) .nil) (.node (X 61) .nil .nil))))) (.node (boot_o_2 P) (.node (boot_o_4 P) (.node (boot_o_8 P) (.node (o16_p0 P) (.node (o32_p4 P) (.node (X 64) .nil .nil) .nil) (.node (X 48) (.node (X 80) .nil .nil) .nil)) (.node (o24_p2 P) (.node (o40_p5 P) (.node (X 72) .nil .nil) .nil) (.node (X 56) .nil .nil))) (.node (o12_p5 P) (.node (o20_p0 P) (.node (o36_p4 P) (.node (X 68) .nil .nil) .nil) (.node (X 52) (.node (X 84) .nil .nil) .nil)) (.node (o28_p2 P) (.node (o44_p5 P) (.node (X 76) .nil .nil) .nil) (.node (X 60) .nil .nil)))) (.node (boot_o_6 P) (.node (boot_o_10 P) (.node (o18_p0 P) (.node (o34_p4 P) (.node (X 66) .nil .nil) .nil) (.node (X 50) (.node (X 82) .nil .nil) .nil)) (.node (o26_p2 P) (.node (o42_p5 P) (.node (X 74) .nil .nil) .nil) (.node (X 58) .nil .nil))) (.node (o14_pre P) (.node (o22_p2 P) (.node (o38_p4 P) (.node (X 70) .nil .nil) .nil) (.node (X 54) .nil .nil)) (.node (o30_p4 P) (.node (o46_p5 P) (.node (X 78) .nil .nil) .nil) (.node (X 62) .nil .nil))))))
noncomputable def s_p6 (X : Nat → Obj) (L : Life) (w : World) (os : OsState) : SharedT := ⟨t_p6 X w.params, 86, L, #[], boot_drawn, 2225, os⟩
noncomputable def o3_p7 (P : Params) : Obj := ⟨(.type "dict"), none, (.dict ⟨[⟨PyData.keyHash P (Str.ofString "__name__"), (.str (Str.ofString "__name__") 165), (.str (Str.ofString "cpy313.stringprep") 205)⟩, ⟨PyData.keyHash P (Str.ofString "__doc__"), (.str (Str.ofString "__doc__") 166), .none⟩, ⟨PyData.keyHash P (Str.ofString "__package__"), (.str (Str.ofString "__package__") 167), .none⟩, ⟨PyData.keyHash P (Str.ofString "__loader__"), (.str (Str.ofString "__loader__") 168), (.builtin "__main__.__loader__#opaque")⟩, ⟨PyData.keyHash P (Str.ofString "__spec__"), (.str (Str.ofString "__spec__") 169), .none⟩, ⟨PyData.keyHash P (Str.ofString "__annotations__"), (.str (Str.ofString "__annotations__") 170), (.ref 6)⟩, ⟨PyData.keyHash P (Str.ofString "__builtins__"), (.str (Str.ofString "__builtins__") 171), (.ref 4)⟩, ⟨PyData.keyHash P (Str.ofString "__file__"), (.str (Str.ofString "__file__") 173), (.str (Str.ofString "/claim/cut.py") 172)⟩, ⟨PyData.keyHash P (Str.ofString "__cached__"), (.str (Str.ofString "__cached__") 174), .none⟩, ⟨PyData.keyHash P (Str.ofString "_wall"), (.str (Str.ofString "_wall") 193), (.ref 21)⟩, ⟨PyData.keyHash P (Str.ofString "_parse_varint"), (.str (Str.ofString "_parse_varint") 204), (.ref 28)⟩, ⟨PyData.keyHash P (Str.ofString "b1_set"), (.str (Str.ofString "b1_set") 266), (.ref 36)⟩, ⟨PyData.keyHash P (Str.ofString "in_table_b1"), (.str (Str.ofString "in_table_b1") 273), (.ref 46)⟩, ⟨PyData.keyHash P (Str.ofString "b3_exceptions"), (.str (Str.ofString "b3_exceptions") 2224), (.ref 47)⟩, ⟨PyData.keyHash P (Str.ofString "map_table_b3"), (.str (Str.ofString "map_table_b3") 2232), (.ref 92)⟩]⟩ 15), ⟨[]⟩⟩
noncomputable def o12_p7 (P : Params) : Obj := ⟨.none, none, (.fields ⟨[(.int 1 0), (.int 0 0), (.ref 20), (.int 5 0), (.int 0 0), (.ref 27), (.int 15 0), (.int 0 0), (.ref 45), (.int 18 0), (.int 0 0), (.ref 91)]⟩), ⟨[]⟩⟩
noncomputable def o86_p7 (P : Params) : Obj := ⟨(.type "tuple"), none, (.seq ⟨[]⟩ 0), ⟨[]⟩⟩
noncomputable def o87_p7 (P : Params) : Obj := ⟨.none, none, (.fields ⟨[]⟩), ⟨[]⟩⟩
noncomputable def o88_p7 (P : Params) : Obj := ⟨(.type "tuple"), none, (.seq ⟨[(.str (Str.ofString "code") 2228), (.str (Str.ofString "r") 2229)]⟩ 0), ⟨[]⟩⟩
noncomputable def o89_p7 (P : Params) : Obj := ⟨(.type "tuple"), none, (.seq ⟨[]⟩ 0), ⟨[]⟩⟩
noncomputable def o90_p7 (P : Params) : Obj := ⟨.none, none, (.func { name := (Str.ofString "map_table_b3"), qualname := (Str.ofString "map_table_b3"), params := (pDef 7).1, body := .stmts (pDef 7).2.1, scope := (pDef 7).2.2, globals := 0, closure := [], defaults := .none, kwdefaults := .none, doc := .none, pyModule := .none, annotations := none, code := .none, closureTuple := .none, builtins := 0 }), ⟨[]⟩⟩
noncomputable def o91_p7 (P : Params) : Obj := ⟨(.type "code"), none, (.fields ⟨[(.str (Str.ofString "map_table_b3") 2225), (.str (Str.ofString "map_table_b3") 2226), (.str (Str.ofString "/claim/cut.py") 2227), (.int 18 0), (.int 1 0), (.int 0 0), (.int 0 0), (.int 3 0), (.ref 86), (.bool true), (.int 181 0), (.ref 87), .none, (.ref 88), (.ref 89), (.ref 90), (.int 2230 0), (.int 18 0), (.str (Str.ofString "/claim/cut.py") 2231)]⟩), ⟨[]⟩⟩
noncomputable def o92_p7 (P : Params) : Obj := ⟨(.type "function"), none, (.func { name := (Str.ofString "map_table_b3"), qualname := (Str.ofString "map_table_b3"), params := (pDef 7).1, body := .stmts (pDef 7).2.1, scope := (pDef 7).2.2, globals := 3, closure := [], defaults := .none, kwdefaults := .none, doc := .none, pyModule := (.str (Str.ofString "cpy313.stringprep") 205), annotations := none, code := (.ref 91), closureTuple := .none, builtins := 0 }), ⟨[]⟩⟩
noncomputable def t_p7 (X : Nat → Obj) (P : Params) : BT := (.node (boot_o_0 P) (.node (boot_o_1 P) (.node (o3_p7 P) (.node (boot_o_7 P) (.node (o15_p0 P) (.node (o31_p4 P) (.node (X 63) .nil .nil) .nil) (.node (X 47) (.node (X 79) .nil .nil) .nil)) (.node (o23_p2 P) (.node (o39_p4 P) (.node (X 71) .nil .nil) .nil) (.node (X 55) (.node (o87_p7 P) .nil .nil) .nil))) (.node (o11_pre P) (.node (o19_p0 P) (.node (o35_p4 P) (.node (X 67) .nil .nil) .nil) (.node (X 51) (.node (X 83) .nil .nil) .nil)) (.node (o27_p2 P) (.node (o43_p5 P) (.node (X 75) .nil .nil) .nil) (.node (X 59) (.node (o91_p7 P) .nil .nil) .nil)))) (.node (boot_o_5 P) (.node (boot_o_9 P) (.node (o17_p0 P) (.node (o33_p4 P) (.node (X 65) .nil .nil) .nil) (.node (X 49) (.node (X 81) .nil .nil) .nil)) (.node (o25_p2 P) (.node (o41_p5 P) (.node (X 73) .nil .nil) .nil) (.node (X 57) (.node (o89_p7 P) .nil .nil) .nil))) (.node (o13_pre P) (.node (o21_p0 P) (.node (o37_p4 P) (.node (X 69) .nil .nil) .nil) (.node (X 53) (.node (X 85) .nil .nil) .nil)) (.node (o29_p4 P) (.node (o45_p5 P) (.node (X 77) .nil .nil) .nil) (.node (X 61) .nil .nil))))) (.node (boot_o_2 P) (.node (boot_o_4 P) (.node (boot_o_8 P) (.node (o16_p0 P) (.node (o32_p4 P) (.node (X 64) .nil .nil) .nil) (.node (X 48) (.node (X 80) .nil .nil) .nil)) (.node (o24_p2 P) (.node (o40_p5 P) (.node (X 72) .nil .nil) .nil) (.node (X 56) (.node (o88_p7 P) .nil .nil) .nil))) (.node (o12_p7 P) (.node (o20_p0 P) (.node (o36_p4 P) (.node (X 68) .nil .nil) .nil) (.node (X 52) (.node (X 84) .nil .nil) .nil)) (.node (o28_p2 P) (.node (o44_p5 P) (.node (X 76) .nil .nil) .nil) (.node (X 60) (.node (o92_p7 P) .nil .nil) .nil)))) (.node (boot_o_6 P) (.node (boot_o_10 P) (.node (o18_p0 P) (.node (o34_p4 P) (.node (X 66) .nil .nil) .nil) (.node (X 50) (.node (X 82) .nil .nil) .nil)) (.node (o26_p2 P) (.node (o42_p5 P) (.node (X 74) .nil .nil) .nil) (.node (X 58) (.node (o90_p7 P) .nil .nil) .nil))) (.node (o14_pre P) (.node (o22_p2 P) (.node (o38_p4 P) (.node (X 70) .nil .nil) .nil) (.node (X 54) (.node (o86_p7 P) .nil .nil) .nil)) (.node (o30_p4 P) (.node (o46_p5 P) (.node (X 78) .nil .nil) .nil) (.node (X 62) .nil .nil))))))
noncomputable def s_p7 (X : Nat → Obj) (L : Life) (w : World) (os : OsState) : SharedT := ⟨t_p7 X w.params, 93, L, #[], boot_drawn, 2233, os⟩
noncomputable def o3_p8 (P : Params) : Obj := ⟨(.type "dict"), none, (.dict ⟨[⟨PyData.keyHash P (Str.ofString "__name__"), (.str (Str.ofString "__name__") 165), (.str (Str.ofString "cpy313.tabnanny") 2233)⟩, ⟨PyData.keyHash P (Str.ofString "__doc__"), (.str (Str.ofString "__doc__") 166), .none⟩, ⟨PyData.keyHash P (Str.ofString "__package__"), (.str (Str.ofString "__package__") 167), .none⟩, ⟨PyData.keyHash P (Str.ofString "__loader__"), (.str (Str.ofString "__loader__") 168), (.builtin "__main__.__loader__#opaque")⟩, ⟨PyData.keyHash P (Str.ofString "__spec__"), (.str (Str.ofString "__spec__") 169), .none⟩, ⟨PyData.keyHash P (Str.ofString "__annotations__"), (.str (Str.ofString "__annotations__") 170), (.ref 6)⟩, ⟨PyData.keyHash P (Str.ofString "__builtins__"), (.str (Str.ofString "__builtins__") 171), (.ref 4)⟩, ⟨PyData.keyHash P (Str.ofString "__file__"), (.str (Str.ofString "__file__") 173), (.str (Str.ofString "/claim/cut.py") 172)⟩, ⟨PyData.keyHash P (Str.ofString "__cached__"), (.str (Str.ofString "__cached__") 174), .none⟩, ⟨PyData.keyHash P (Str.ofString "_wall"), (.str (Str.ofString "_wall") 193), (.ref 21)⟩, ⟨PyData.keyHash P (Str.ofString "_parse_varint"), (.str (Str.ofString "_parse_varint") 204), (.ref 28)⟩, ⟨PyData.keyHash P (Str.ofString "b1_set"), (.str (Str.ofString "b1_set") 266), (.ref 36)⟩, ⟨PyData.keyHash P (Str.ofString "in_table_b1"), (.str (Str.ofString "in_table_b1") 273), (.ref 46)⟩, ⟨PyData.keyHash P (Str.ofString "b3_exceptions"), (.str (Str.ofString "b3_exceptions") 2224), (.ref 47)⟩, ⟨PyData.keyHash P (Str.ofString "map_table_b3"), (.str (Str.ofString "map_table_b3") 2232), (.ref 92)⟩]⟩ 15), ⟨[]⟩⟩
noncomputable def t_p8 (X : Nat → Obj) (P : Params) : BT := (.node (boot_o_0 P) (.node (boot_o_1 P) (.node (o3_p8 P) (.node (boot_o_7 P) (.node (o15_p0 P) (.node (o31_p4 P) (.node (X 63) .nil .nil) .nil) (.node (X 47) (.node (X 79) .nil .nil) .nil)) (.node (o23_p2 P) (.node (o39_p4 P) (.node (X 71) .nil .nil) .nil) (.node (X 55) (.node (o87_p7 P) .nil .nil) .nil))) (.node (o11_pre P) (.node (o19_p0 P) (.node (o35_p4 P) (.node (X 67) .nil .nil) .nil) (.node (X 51) (.node (X 83) .nil .nil) .nil)) (.node (o27_p2 P) (.node (o43_p5 P) (.node (X 75) .nil .nil) .nil) (.node (X 59) (.node (o91_p7 P) .nil .nil) .nil)))) (.node (boot_o_5 P) (.node (boot_o_9 P) (.node (o17_p0 P) (.node (o33_p4 P) (.node (X 65) .nil .nil) .nil) (.node (X 49) (.node (X 81) .nil .nil) .nil)) (.node (o25_p2 P) (.node (o41_p5 P) (.node (X 73) .nil .nil) .nil) (.node (X 57) (.node (o89_p7 P) .nil .nil) .nil))) (.node (o13_pre P) (.node (o21_p0 P) (.node (o37_p4 P) (.node (X 69) .nil .nil) .nil) (.node (X 53) (.node (X 85) .nil .nil) .nil)) (.node (o29_p4 P) (.node (o45_p5 P) (.node (X 77) .nil .nil) .nil) (.node (X 61) .nil .nil))))) (.node (boot_o_2 P) (.node (boot_o_4 P) (.node (boot_o_8 P) (.node (o16_p0 P) (.node (o32_p4 P) (.node (X 64) .nil .nil) .nil) (.node (X 48) (.node (X 80) .nil .nil) .nil)) (.node (o24_p2 P) (.node (o40_p5 P) (.node (X 72) .nil .nil) .nil) (.node (X 56) (.node (o88_p7 P) .nil .nil) .nil))) (.node (o12_p7 P) (.node (o20_p0 P) (.node (o36_p4 P) (.node (X 68) .nil .nil) .nil) (.node (X 52) (.node (X 84) .nil .nil) .nil)) (.node (o28_p2 P) (.node (o44_p5 P) (.node (X 76) .nil .nil) .nil) (.node (X 60) (.node (o92_p7 P) .nil .nil) .nil)))) (.node (boot_o_6 P) (.node (boot_o_10 P) (.node (o18_p0 P) (.node (o34_p4 P) (.node (X 66) .nil .nil) .nil) (.node (X 50) (.node (X 82) .nil .nil) .nil)) (.node (o26_p2 P) (.node (o42_p5 P) (.node (X 74) .nil .nil) .nil) (.node (X 58) (.node (o90_p7 P) .nil .nil) .nil))) (.node (o14_pre P) (.node (o22_p2 P) (.node (o38_p4 P) (.node (X 70) .nil .nil) .nil) (.node (X 54) (.node (o86_p7 P) .nil .nil) .nil)) (.node (o30_p4 P) (.node (o46_p5 P) (.node (X 78) .nil .nil) .nil) (.node (X 62) .nil .nil))))))
noncomputable def s_p8 (X : Nat → Obj) (L : Life) (w : World) (os : OsState) : SharedT := ⟨t_p8 X w.params, 93, L, #[], boot_drawn, 2235, os⟩
noncomputable def o3_p9 (P : Params) : Obj := ⟨(.type "dict"), none, (.dict ⟨[⟨PyData.keyHash P (Str.ofString "__name__"), (.str (Str.ofString "__name__") 165), (.str (Str.ofString "cpy313.tabnanny") 2233)⟩, ⟨PyData.keyHash P (Str.ofString "__doc__"), (.str (Str.ofString "__doc__") 166), .none⟩, ⟨PyData.keyHash P (Str.ofString "__package__"), (.str (Str.ofString "__package__") 167), .none⟩, ⟨PyData.keyHash P (Str.ofString "__loader__"), (.str (Str.ofString "__loader__") 168), (.builtin "__main__.__loader__#opaque")⟩, ⟨PyData.keyHash P (Str.ofString "__spec__"), (.str (Str.ofString "__spec__") 169), .none⟩, ⟨PyData.keyHash P (Str.ofString "__annotations__"), (.str (Str.ofString "__annotations__") 170), (.ref 6)⟩, ⟨PyData.keyHash P (Str.ofString "__builtins__"), (.str (Str.ofString "__builtins__") 171), (.ref 4)⟩, ⟨PyData.keyHash P (Str.ofString "__file__"), (.str (Str.ofString "__file__") 173), (.str (Str.ofString "/claim/cut.py") 172)⟩, ⟨PyData.keyHash P (Str.ofString "__cached__"), (.str (Str.ofString "__cached__") 174), .none⟩, ⟨PyData.keyHash P (Str.ofString "_wall"), (.str (Str.ofString "_wall") 193), (.ref 21)⟩, ⟨PyData.keyHash P (Str.ofString "_parse_varint"), (.str (Str.ofString "_parse_varint") 204), (.ref 28)⟩, ⟨PyData.keyHash P (Str.ofString "b1_set"), (.str (Str.ofString "b1_set") 266), (.ref 36)⟩, ⟨PyData.keyHash P (Str.ofString "in_table_b1"), (.str (Str.ofString "in_table_b1") 273), (.ref 46)⟩, ⟨PyData.keyHash P (Str.ofString "b3_exceptions"), (.str (Str.ofString "b3_exceptions") 2224), (.ref 47)⟩, ⟨PyData.keyHash P (Str.ofString "map_table_b3"), (.str (Str.ofString "map_table_b3") 2232), (.ref 92)⟩, ⟨PyData.keyHash P (Str.ofString "Whitespace"), (.str (Str.ofString "Whitespace") 2326), (.ref 154)⟩]⟩ 16), ⟨[]⟩⟩
noncomputable def o12_p9 (P : Params) : Obj := ⟨.none, none, (.fields ⟨[(.int 1 0), (.int 0 0), (.ref 20), (.int 5 0), (.int 0 0), (.ref 27), (.int 15 0), (.int 0 0), (.ref 45), (.int 18 0), (.int 0 0), (.ref 91), (.int 24 0), (.int 0 0), (.ref 98)]⟩), ⟨[]⟩⟩
noncomputable def o93_p9 (P : Params) : Obj := ⟨(.type "tuple"), none, (.seq ⟨[]⟩ 0), ⟨[]⟩⟩
noncomputable def o94_p9 (P : Params) : Obj := ⟨(.type "builtin_function_or_method"), none, (.fields ⟨[(.builtin "type.__prepare__"), (.type "type")]⟩), ⟨[]⟩⟩
noncomputable def o95_p9 (P : Params) : Obj := ⟨(.type "dict"), none, (.dict ⟨[⟨PyData.keyHash P (Str.ofString "__module__"), (.str (Str.ofString "__module__") 2242), (.str (Str.ofString "cpy313.tabnanny") 2233)⟩, ⟨PyData.keyHash P (Str.ofString "__qualname__"), (.str (Str.ofString "__qualname__") 2244), (.str (Str.ofString "Whitespace") 2243)⟩, ⟨PyData.keyHash P (Str.ofString "__firstlineno__"), (.str (Str.ofString "__firstlineno__") 2246), (.int 24 2245)⟩, ⟨PyData.keyHash P (Str.ofString "S"), (.str (Str.ofString "S") 2250), (.str (Str.ofString " ") 2248)⟩, ⟨PyData.keyHash P (Str.ofString "T"), (.str (Str.ofString "T") 2251), (.str (Str.ofString "\t") 2249)⟩, ⟨PyData.keyHash P (Str.ofString "__init__"), (.str (Str.ofString "__init__") 2266), (.ref 109)⟩, ⟨PyData.keyHash P (Str.ofString "longest_run_of_spaces"), (.str (Str.ofString "longest_run_of_spaces") 2273), (.ref 116)⟩, ⟨PyData.keyHash P (Str.ofString "indent_level"), (.str (Str.ofString "indent_level") 2281), (.ref 123)⟩, ⟨PyData.keyHash P (Str.ofString "equal"), (.str (Str.ofString "equal") 2289), (.ref 130)⟩, ⟨PyData.keyHash P (Str.ofString "not_equal_witness"), (.str (Str.ofString "not_equal_witness") 2297), (.ref 137)⟩, ⟨PyData.keyHash P (Str.ofString "less"), (.str (Str.ofString "less") 2305), (.ref 144)⟩, ⟨PyData.keyHash P (Str.ofString "not_less_witness"), (.str (Str.ofString "not_less_witness") 2313), (.ref 151)⟩, ⟨PyData.keyHash P (Str.ofString "__static_attributes__"), (.str (Str.ofString "__static_attributes__") 2319), (.ref 152)⟩]⟩ 13), ⟨[]⟩⟩
noncomputable def o96_p9 (P : Params) : Obj := ⟨(.type "tuple"), none, (.seq ⟨[]⟩ 0), ⟨[]⟩⟩
noncomputable def o97_p9 (P : Params) : Obj := ⟨.none, none, (.fields ⟨[(.int 27 0), (.int 4 0), (.ref 108), (.int 50 0), (.int 4 0), (.ref 115), (.int 53 0), (.int 4 0), (.ref 122), (.int 56 0), (.int 4 0), (.ref 129), (.int 59 0), (.int 4 0), (.ref 136), (.int 62 0), (.int 4 0), (.ref 143), (.int 65 0), (.int 4 0), (.ref 150)]⟩), ⟨[]⟩⟩
noncomputable def o98_p9 (P : Params) : Obj := ⟨(.type "code"), none, (.fields ⟨[(.str (Str.ofString "Whitespace") 2237), (.str (Str.ofString "Whitespace") 2238), (.str (Str.ofString "/claim/cut.py") 2239), (.int 24 0), (.int 0 0), (.int 0 0), (.int 0 0), (.int 0 0), (.ref 96), (.bool false), (.int 181 0), (.ref 97), .none, .none, .none, .none, (.int 2240 0), (.int 24 0), (.str (Str.ofString "/claim/cut.py") 2241)]⟩), ⟨[]⟩⟩
noncomputable def o99_p9 (P : Params) : Obj := ⟨(.type "frame"), none, .plain, ⟨[(some (.ref 98)), (some (.ref 3)), (some (.ref 95)), none, (some (.str (Str.ofString "cpy313.tabnanny") 2233)), none, (some (.ref 0))]⟩⟩
noncomputable def o100_p9 (P : Params) : Obj := ⟨(.type "str_ascii_iterator"), none, (.fields ⟨[.none, (.int 2 0)]⟩), ⟨[]⟩⟩
noncomputable def o101_p9 (P : Params) : Obj := ⟨(.type "tuple"), none, (.seq ⟨[]⟩ 0), ⟨[]⟩⟩
noncomputable def o102_p9 (P : Params) : Obj := ⟨(.type "StopIteration"), none, (.fields ⟨[(.ref 101), .none, .none, .none, (.bool false), .none]⟩), ⟨[]⟩⟩
noncomputable def o103_p9 (P : Params) : Obj := ⟨(.type "tuple"), none, (.seq ⟨[]⟩ 0), ⟨[]⟩⟩
noncomputable def o104_p9 (P : Params) : Obj := ⟨.none, none, (.fields ⟨[]⟩), ⟨[]⟩⟩
noncomputable def o105_p9 (P : Params) : Obj := ⟨(.type "tuple"), none, (.seq ⟨[(.str (Str.ofString "self") 2255), (.str (Str.ofString "ws") 2256), (.str (Str.ofString "S") 2257), (.str (Str.ofString "T") 2258), (.str (Str.ofString "count") 2259), (.str (Str.ofString "b") 2260), (.str (Str.ofString "n") 2261), (.str (Str.ofString "nt") 2262), (.str (Str.ofString "ch") 2263)]⟩ 0), ⟨[]⟩⟩
noncomputable def o106_p9 (P : Params) : Obj := ⟨(.type "tuple"), none, (.seq ⟨[]⟩ 0), ⟨[]⟩⟩
noncomputable def o107_p9 (P : Params) : Obj := ⟨.none, none, (.func { name := (Str.ofString "__init__"), qualname := (Str.ofString "Whitespace.__init__"), params := (pMeth 9 1).1, body := .stmts (pMeth 9 1).2.1, scope := (pMeth 9 1).2.2, globals := 0, closure := [], defaults := .none, kwdefaults := .none, doc := .none, pyModule := .none, annotations := none, code := .none, closureTuple := .none, builtins := 0 }), ⟨[]⟩⟩
noncomputable def o108_p9 (P : Params) : Obj := ⟨(.type "code"), none, (.fields ⟨[(.str (Str.ofString "__init__") 2252), (.str (Str.ofString "Whitespace.__init__") 2253), (.str (Str.ofString "/claim/cut.py") 2254), (.int 27 0), (.int 2 0), (.int 0 0), (.int 0 0), (.int 3 0), (.ref 103), (.bool true), (.int 181 0), (.ref 104), .none, (.ref 105), (.ref 106), (.ref 107), (.int 2264 0), (.int 27 0), (.str (Str.ofString "/claim/cut.py") 2265)]⟩), ⟨[]⟩⟩
noncomputable def o109_p9 (P : Params) : Obj := ⟨(.type "function"), none, (.func { name := (Str.ofString "__init__"), qualname := (Str.ofString "Whitespace.__init__"), params := (pMeth 9 1).1, body := .stmts (pMeth 9 1).2.1, scope := (pMeth 9 1).2.2, globals := 3, closure := [], defaults := .none, kwdefaults := .none, doc := .none, pyModule := (.str (Str.ofString "cpy313.tabnanny") 2233), annotations := none, code := (.ref 108), closureTuple := .none, builtins := 0 }), ⟨[]⟩⟩
noncomputable def o110_p9 (P : Params) : Obj := ⟨(.type "tuple"), none, (.seq ⟨[]⟩ 0), ⟨[]⟩⟩
noncomputable def o111_p9 (P : Params) : Obj := ⟨.none, none, (.fields ⟨[]⟩), ⟨[]⟩⟩
noncomputable def o112_p9 (P : Params) : Obj := ⟨(.type "tuple"), none, (.seq ⟨[(.str (Str.ofString "self") 2270)]⟩ 0), ⟨[]⟩⟩
noncomputable def o113_p9 (P : Params) : Obj := ⟨(.type "tuple"), none, (.seq ⟨[]⟩ 0), ⟨[]⟩⟩
noncomputable def o114_p9 (P : Params) : Obj := ⟨.none, none, (.func { name := (Str.ofString "longest_run_of_spaces"), qualname := (Str.ofString "Whitespace.longest_run_of_spaces"), params := (pMeth 9 2).1, body := .stmts (pMeth 9 2).2.1, scope := (pMeth 9 2).2.2, globals := 0, closure := [], defaults := .none, kwdefaults := .none, doc := .none, pyModule := .none, annotations := none, code := .none, closureTuple := .none, builtins := 0 }), ⟨[]⟩⟩
noncomputable def o115_p9 (P : Params) : Obj := ⟨(.type "code"), none, (.fields ⟨[(.str (Str.ofString "longest_run_of_spaces") 2267), (.str (Str.ofString "Whitespace.longest_run_of_spaces") 2268), (.str (Str.ofString "/claim/cut.py") 2269), (.int 50 0), (.int 1 0), (.int 0 0), (.int 0 0), (.int 3 0), (.ref 110), (.bool true), (.int 181 0), (.ref 111), .none, (.ref 112), (.ref 113), (.ref 114), (.int 2271 0), (.int 50 0), (.str (Str.ofString "/claim/cut.py") 2272)]⟩), ⟨[]⟩⟩
noncomputable def o116_p9 (P : Params) : Obj := ⟨(.type "function"), none, (.func { name := (Str.ofString "longest_run_of_spaces"), qualname := (Str.ofString "Whitespace.longest_run_of_spaces"), params := (pMeth 9 2).1, body := .stmts (pMeth 9 2).2.1, scope := (pMeth 9 2).2.2, globals := 3, closure := [], defaults := .none, kwdefaults := .none, doc := .none, pyModule := (.str (Str.ofString "cpy313.tabnanny") 2233), annotations := none, code := (.ref 115), closureTuple := .none, builtins := 0 }), ⟨[]⟩⟩
noncomputable def o117_p9 (P : Params) : Obj := ⟨(.type "tuple"), none, (.seq ⟨[]⟩ 0), ⟨[]⟩⟩
noncomputable def o118_p9 (P : Params) : Obj := ⟨.none, none, (.fields ⟨[]⟩), ⟨[]⟩⟩
noncomputable def o119_p9 (P : Params) : Obj := ⟨(.type "tuple"), none, (.seq ⟨[(.str (Str.ofString "self") 2277), (.str (Str.ofString "tabsize") 2278)]⟩ 0), ⟨[]⟩⟩
noncomputable def o120_p9 (P : Params) : Obj := ⟨(.type "tuple"), none, (.seq ⟨[]⟩ 0), ⟨[]⟩⟩
noncomputable def o121_p9 (P : Params) : Obj := ⟨.none, none, (.func { name := (Str.ofString "indent_level"), qualname := (Str.ofString "Whitespace.indent_level"), params := (pMeth 9 3).1, body := .stmts (pMeth 9 3).2.1, scope := (pMeth 9 3).2.2, globals := 0, closure := [], defaults := .none, kwdefaults := .none, doc := .none, pyModule := .none, annotations := none, code := .none, closureTuple := .none, builtins := 0 }), ⟨[]⟩⟩
noncomputable def o122_p9 (P : Params) : Obj := ⟨(.type "code"), none, (.fields ⟨[(.str (Str.ofString "indent_level") 2274), (.str (Str.ofString "Whitespace.indent_level") 2275), (.str (Str.ofString "/claim/cut.py") 2276), (.int 53 0), (.int 2 0), (.int 0 0), (.int 0 0), (.int 3 0), (.ref 117), (.bool true), (.int 181 0), (.ref 118), .none, (.ref 119), (.ref 120), (.ref 121), (.int 2279 0), (.int 53 0), (.str (Str.ofString "/claim/cut.py") 2280)]⟩), ⟨[]⟩⟩
noncomputable def o123_p9 (P : Params) : Obj := ⟨(.type "function"), none, (.func { name := (Str.ofString "indent_level"), qualname := (Str.ofString "Whitespace.indent_level"), params := (pMeth 9 3).1, body := .stmts (pMeth 9 3).2.1, scope := (pMeth 9 3).2.2, globals := 3, closure := [], defaults := .none, kwdefaults := .none, doc := .none, pyModule := (.str (Str.ofString "cpy313.tabnanny") 2233), annotations := none, code := (.ref 122), closureTuple := .none, builtins := 0 }), ⟨[]⟩⟩
noncomputable def o124_p9 (P : Params) : Obj := ⟨(.type "tuple"), none, (.seq ⟨[]⟩ 0), ⟨[]⟩⟩
noncomputable def o125_p9 (P : Params) : Obj := ⟨.none, none, (.fields ⟨[]⟩), ⟨[]⟩⟩
noncomputable def o126_p9 (P : Params) : Obj := ⟨(.type "tuple"), none, (.seq ⟨[(.str (Str.ofString "self") 2285), (.str (Str.ofString "other") 2286)]⟩ 0), ⟨[]⟩⟩
noncomputable def o127_p9 (P : Params) : Obj := ⟨(.type "tuple"), none, (.seq ⟨[]⟩ 0), ⟨[]⟩⟩
noncomputable def o128_p9 (P : Params) : Obj := ⟨.none, none, (.func { name := (Str.ofString "equal"), qualname := (Str.ofString "Whitespace.equal"), params := (pMeth 9 4).1, body := .stmts (pMeth 9 4).2.1, scope := (pMeth 9 4).2.2, globals := 0, closure := [], defaults := .none, kwdefaults := .none, doc := .none, pyModule := .none, annotations := none, code := .none, closureTuple := .none, builtins := 0 }), ⟨[]⟩⟩
noncomputable def o129_p9 (P : Params) : Obj := ⟨(.type "code"), none, (.fields ⟨[(.str (Str.ofString "equal") 2282), (.str (Str.ofString "Whitespace.equal") 2283), (.str (Str.ofString "/claim/cut.py") 2284), (.int 56 0), (.int 2 0), (.int 0 0), (.int 0 0), (.int 3 0), (.ref 124), (.bool true), (.int 181 0), (.ref 125), .none, (.ref 126), (.ref 127), (.ref 128), (.int 2287 0), (.int 56 0), (.str (Str.ofString "/claim/cut.py") 2288)]⟩), ⟨[]⟩⟩
noncomputable def o130_p9 (P : Params) : Obj := ⟨(.type "function"), none, (.func { name := (Str.ofString "equal"), qualname := (Str.ofString "Whitespace.equal"), params := (pMeth 9 4).1, body := .stmts (pMeth 9 4).2.1, scope := (pMeth 9 4).2.2, globals := 3, closure := [], defaults := .none, kwdefaults := .none, doc := .none, pyModule := (.str (Str.ofString "cpy313.tabnanny") 2233), annotations := none, code := (.ref 129), closureTuple := .none, builtins := 0 }), ⟨[]⟩⟩
noncomputable def o131_p9 (P : Params) : Obj := ⟨(.type "tuple"), none, (.seq ⟨[]⟩ 0), ⟨[]⟩⟩
noncomputable def o132_p9 (P : Params) : Obj := ⟨.none, none, (.fields ⟨[]⟩), ⟨[]⟩⟩
noncomputable def o133_p9 (P : Params) : Obj := ⟨(.type "tuple"), none, (.seq ⟨[(.str (Str.ofString "self") 2293), (.str (Str.ofString "other") 2294)]⟩ 0), ⟨[]⟩⟩
noncomputable def o134_p9 (P : Params) : Obj := ⟨(.type "tuple"), none, (.seq ⟨[]⟩ 0), ⟨[]⟩⟩
noncomputable def o135_p9 (P : Params) : Obj := ⟨.none, none, (.func { name := (Str.ofString "not_equal_witness"), qualname := (Str.ofString "Whitespace.not_equal_witness"), params := (pMeth 9 5).1, body := .stmts (pMeth 9 5).2.1, scope := (pMeth 9 5).2.2, globals := 0, closure := [], defaults := .none, kwdefaults := .none, doc := .none, pyModule := .none, annotations := none, code := .none, closureTuple := .none, builtins := 0 }), ⟨[]⟩⟩
noncomputable def o136_p9 (P : Params) : Obj := ⟨(.type "code"), none, (.fields ⟨[(.str (Str.ofString "not_equal_witness") 2290), (.str (Str.ofString "Whitespace.not_equal_witness") 2291), (.str (Str.ofString "/claim/cut.py") 2292), (.int 59 0), (.int 2 0), (.int 0 0), (.int 0 0), (.int 3 0), (.ref 131), (.bool true), (.int 181 0), (.ref 132), .none, (.ref 133), (.ref 134), (.ref 135), (.int 2295 0), (.int 59 0), (.str (Str.ofString "/claim/cut.py") 2296)]⟩), ⟨[]⟩⟩
noncomputable def o137_p9 (P : Params) : Obj := ⟨(.type "function"), none, (.func { name := (Str.ofString "not_equal_witness"), qualname := (Str.ofString "Whitespace.not_equal_witness"), params := (pMeth 9 5).1, body := .stmts (pMeth 9 5).2.1, scope := (pMeth 9 5).2.2, globals := 3, closure := [], defaults := .none, kwdefaults := .none, doc := .none, pyModule := (.str (Str.ofString "cpy313.tabnanny") 2233), annotations := none, code := (.ref 136), closureTuple := .none, builtins := 0 }), ⟨[]⟩⟩
noncomputable def o138_p9 (P : Params) : Obj := ⟨(.type "tuple"), none, (.seq ⟨[]⟩ 0), ⟨[]⟩⟩
noncomputable def o139_p9 (P : Params) : Obj := ⟨.none, none, (.fields ⟨[]⟩), ⟨[]⟩⟩
noncomputable def o140_p9 (P : Params) : Obj := ⟨(.type "tuple"), none, (.seq ⟨[(.str (Str.ofString "self") 2301), (.str (Str.ofString "other") 2302)]⟩ 0), ⟨[]⟩⟩
noncomputable def o141_p9 (P : Params) : Obj := ⟨(.type "tuple"), none, (.seq ⟨[]⟩ 0), ⟨[]⟩⟩
noncomputable def o142_p9 (P : Params) : Obj := ⟨.none, none, (.func { name := (Str.ofString "less"), qualname := (Str.ofString "Whitespace.less"), params := (pMeth 9 6).1, body := .stmts (pMeth 9 6).2.1, scope := (pMeth 9 6).2.2, globals := 0, closure := [], defaults := .none, kwdefaults := .none, doc := .none, pyModule := .none, annotations := none, code := .none, closureTuple := .none, builtins := 0 }), ⟨[]⟩⟩
noncomputable def o143_p9 (P : Params) : Obj := ⟨(.type "code"), none, (.fields ⟨[(.str (Str.ofString "less") 2298), (.str (Str.ofString "Whitespace.less") 2299), (.str (Str.ofString "/claim/cut.py") 2300), (.int 62 0), (.int 2 0), (.int 0 0), (.int 0 0), (.int 3 0), (.ref 138), (.bool true), (.int 181 0), (.ref 139), .none, (.ref 140), (.ref 141), (.ref 142), (.int 2303 0), (.int 62 0), (.str (Str.ofString "/claim/cut.py") 2304)]⟩), ⟨[]⟩⟩
noncomputable def o144_p9 (P : Params) : Obj := ⟨(.type "function"), none, (.func { name := (Str.ofString "less"), qualname := (Str.ofString "Whitespace.less"), params := (pMeth 9 6).1, body := .stmts (pMeth 9 6).2.1, scope := (pMeth 9 6).2.2, globals := 3, closure := [], defaults := .none, kwdefaults := .none, doc := .none, pyModule := (.str (Str.ofString "cpy313.tabnanny") 2233), annotations := none, code := (.ref 143), closureTuple := .none, builtins := 0 }), ⟨[]⟩⟩
noncomputable def o145_p9 (P : Params) : Obj := ⟨(.type "tuple"), none, (.seq ⟨[]⟩ 0), ⟨[]⟩⟩
noncomputable def o146_p9 (P : Params) : Obj := ⟨.none, none, (.fields ⟨[]⟩), ⟨[]⟩⟩
noncomputable def o147_p9 (P : Params) : Obj := ⟨(.type "tuple"), none, (.seq ⟨[(.str (Str.ofString "self") 2309), (.str (Str.ofString "other") 2310)]⟩ 0), ⟨[]⟩⟩
noncomputable def o148_p9 (P : Params) : Obj := ⟨(.type "tuple"), none, (.seq ⟨[]⟩ 0), ⟨[]⟩⟩
noncomputable def o149_p9 (P : Params) : Obj := ⟨.none, none, (.func { name := (Str.ofString "not_less_witness"), qualname := (Str.ofString "Whitespace.not_less_witness"), params := (pMeth 9 7).1, body := .stmts (pMeth 9 7).2.1, scope := (pMeth 9 7).2.2, globals := 0, closure := [], defaults := .none, kwdefaults := .none, doc := .none, pyModule := .none, annotations := none, code := .none, closureTuple := .none, builtins := 0 }), ⟨[]⟩⟩
noncomputable def o150_p9 (P : Params) : Obj := ⟨(.type "code"), none, (.fields ⟨[(.str (Str.ofString "not_less_witness") 2306), (.str (Str.ofString "Whitespace.not_less_witness") 2307), (.str (Str.ofString "/claim/cut.py") 2308), (.int 65 0), (.int 2 0), (.int 0 0), (.int 0 0), (.int 3 0), (.ref 145), (.bool true), (.int 181 0), (.ref 146), .none, (.ref 147), (.ref 148), (.ref 149), (.int 2311 0), (.int 65 0), (.str (Str.ofString "/claim/cut.py") 2312)]⟩), ⟨[]⟩⟩
noncomputable def o151_p9 (P : Params) : Obj := ⟨(.type "function"), none, (.func { name := (Str.ofString "not_less_witness"), qualname := (Str.ofString "Whitespace.not_less_witness"), params := (pMeth 9 7).1, body := .stmts (pMeth 9 7).2.1, scope := (pMeth 9 7).2.2, globals := 3, closure := [], defaults := .none, kwdefaults := .none, doc := .none, pyModule := (.str (Str.ofString "cpy313.tabnanny") 2233), annotations := none, code := (.ref 150), closureTuple := .none, builtins := 0 }), ⟨[]⟩⟩
noncomputable def o152_p9 (P : Params) : Obj := ⟨(.type "tuple"), none, (.seq ⟨[(.str (Str.ofString "is_simple") 2314), (.str (Str.ofString "n") 2315), (.str (Str.ofString "norm") 2316), (.str (Str.ofString "nt") 2317), (.str (Str.ofString "raw") 2318)]⟩ 0), ⟨[]⟩⟩
noncomputable def o153_p9 (P : Params) : Obj := ⟨(.type "dict"), none, (.dict ⟨[⟨PyData.keyHash P (Str.ofString "__module__"), (.str (Str.ofString "__module__") 2242), (.str (Str.ofString "cpy313.tabnanny") 2233)⟩, ⟨PyData.keyHash P (Str.ofString "__firstlineno__"), (.str (Str.ofString "__firstlineno__") 2246), (.int 24 2245)⟩, ⟨PyData.keyHash P (Str.ofString "S"), (.str (Str.ofString "S") 2250), (.str (Str.ofString " ") 2248)⟩, ⟨PyData.keyHash P (Str.ofString "T"), (.str (Str.ofString "T") 2251), (.str (Str.ofString "\t") 2249)⟩, ⟨PyData.keyHash P (Str.ofString "__init__"), (.str (Str.ofString "__init__") 2266), (.ref 109)⟩, ⟨PyData.keyHash P (Str.ofString "longest_run_of_spaces"), (.str (Str.ofString "longest_run_of_spaces") 2273), (.ref 116)⟩, ⟨PyData.keyHash P (Str.ofString "indent_level"), (.str (Str.ofString "indent_level") 2281), (.ref 123)⟩, ⟨PyData.keyHash P (Str.ofString "equal"), (.str (Str.ofString "equal") 2289), (.ref 130)⟩, ⟨PyData.keyHash P (Str.ofString "not_equal_witness"), (.str (Str.ofString "not_equal_witness") 2297), (.ref 137)⟩, ⟨PyData.keyHash P (Str.ofString "less"), (.str (Str.ofString "less") 2305), (.ref 144)⟩, ⟨PyData.keyHash P (Str.ofString "not_less_witness"), (.str (Str.ofString "not_less_witness") 2313), (.ref 151)⟩, ⟨PyData.keyHash P (Str.ofString "__static_attributes__"), (.str (Str.ofString "__static_attributes__") 2319), (.ref 152)⟩, ⟨PyData.keyHash P (Str.ofString "__dict__"), (.str (Str.ofString "__dict__") 2321), (.ref 155)⟩, ⟨PyData.keyHash P (Str.ofString "__weakref__"), (.str (Str.ofString "__weakref__") 2323), (.ref 156)⟩, ⟨PyData.keyHash P (Str.ofString "__doc__"), (.str (Str.ofString "__doc__") 2324), .none⟩]⟩ 4), ⟨[]⟩⟩
noncomputable def o154_p9 (P : Params) : Obj := ⟨(.type "type"), none, (.cls { name := (Str.ofString "Whitespace"), bases := [(.type "object")], mro := [(.ref 154), (.type "object")], ns := 153, qualname := (Str.ofString "Whitespace"), hasDict := true, slotNames := [], subclasses := [], abstract := false, collection := none, hasDel := false }), ⟨[none, none, (some (.str (Str.ofString "Whitespace") 2235)), (some (.str (Str.ofString "Whitespace") 2243)), (some (.builtin "object.__new__")), (some (.bool true))]⟩⟩
noncomputable def o155_p9 (P : Params) : Obj := ⟨(.type "getset_descriptor"), none, (.fields ⟨[(.str (Str.ofString "__dict__") 2320), (.ref 154), (.builtin "function.__dict__"), (.builtin "function.__dict__#set")]⟩), ⟨[]⟩⟩
noncomputable def o156_p9 (P : Params) : Obj := ⟨(.type "getset_descriptor"), none, (.fields ⟨[(.str (Str.ofString "__weakref__") 2322), (.ref 154), (.builtin "ExceptionGroup.__weakref__"), .none]⟩), ⟨[]⟩⟩
noncomputable def o157_p9 (P : Params) : Obj := ⟨(.type "super"), none, (.fields ⟨[(.ref 154), (.ref 154), (.ref 154)]⟩), ⟨[]⟩⟩
noncomputable def o158_p9 (P : Params) : Obj := ⟨(.type "builtin_function_or_method"), none, (.fields ⟨[(.builtin "object.__init_subclass__"), (.ref 154)]⟩), ⟨[]⟩⟩
noncomputable def t_p9 (X : Nat → Obj) (P : Params) : BT := (.node (boot_o_0 P) (.node (boot_o_1 P) (.node (o3_p9 P) (.node (boot_o_7 P) (.node (o15_p0 P) (.node (o31_p4 P) (.node (X 63) (.node (o127_p9 P) .nil .nil) .nil) (.node (o95_p9 P) .nil .nil)) (.node (X 47) (.node (X 79) (.node (o143_p9 P) .nil .nil) .nil) (.node (o111_p9 P) .nil .nil))) (.node (o23_p2 P) (.node (o39_p4 P) (.node (X 71) (.node (o135_p9 P) .nil .nil) .nil) (.node (o103_p9 P) .nil .nil)) (.node (X 55) (.node (o87_p7 P) (.node (o151_p9 P) .nil .nil) .nil) (.node (o119_p9 P) .nil .nil)))) (.node (o11_pre P) (.node (o19_p0 P) (.node (o35_p4 P) (.node (X 67) (.node (o131_p9 P) .nil .nil) .nil) (.node (o99_p9 P) .nil .nil)) (.node (X 51) (.node (X 83) (.node (o147_p9 P) .nil .nil) .nil) (.node (o115_p9 P) .nil .nil))) (.node (o27_p2 P) (.node (o43_p5 P) (.node (X 75) (.node (o139_p9 P) .nil .nil) .nil) (.node (o107_p9 P) .nil .nil)) (.node (X 59) (.node (o91_p7 P) (.node (o155_p9 P) .nil .nil) .nil) (.node (o123_p9 P) .nil .nil))))) (.node (boot_o_5 P) (.node (boot_o_9 P) (.node (o17_p0 P) (.node (o33_p4 P) (.node (X 65) (.node (o129_p9 P) .nil .nil) .nil) (.node (o97_p9 P) .nil .nil)) (.node (X 49) (.node (X 81) (.node (o145_p9 P) .nil .nil) .nil) (.node (o113_p9 P) .nil .nil))) (.node (o25_p2 P) (.node (o41_p5 P) (.node (X 73) (.node (o137_p9 P) .nil .nil) .nil) (.node (o105_p9 P) .nil .nil)) (.node (X 57) (.node (o89_p7 P) (.node (o153_p9 P) .nil .nil) .nil) (.node (o121_p9 P) .nil .nil)))) (.node (o13_pre P) (.node (o21_p0 P) (.node (o37_p4 P) (.node (X 69) (.node (o133_p9 P) .nil .nil) .nil) (.node (o101_p9 P) .nil .nil)) (.node (X 53) (.node (X 85) (.node (o149_p9 P) .nil .nil) .nil) (.node (o117_p9 P) .nil .nil))) (.node (o29_p4 P) (.node (o45_p5 P) (.node (X 77) (.node (o141_p9 P) .nil .nil) .nil) (.node (o109_p9 P) .nil .nil)) (.node (X 61) (.node (o93_p9 P) (.node (o157_p9 P) .nil .nil) .nil) (.node (o125_p9 P) .nil .nil)))))) (.node (boot_o_2 P) (.node (boot_o_4 P) (.node (boot_o_8 P) (.node (o16_p0 P) (.node (o32_p4 P) (.node (X 64) (.node (o128_p9 P) .nil .nil) .nil) (.node (o96_p9 P) .nil .nil)) (.node (X 48) (.node (X 80) (.node (o144_p9 P) .nil .nil) .nil) (.node (o112_p9 P) .nil .nil))) (.node (o24_p2 P) (.node (o40_p5 P) (.node (X 72) (.node (o136_p9 P) .nil .nil) .nil) (.node (o104_p9 P) .nil .nil)) (.node (X 56) (.node (o88_p7 P) (.node (o152_p9 P) .nil .nil) .nil) (.node (o120_p9 P) .nil .nil)))) (.node (o12_p9 P) (.node (o20_p0 P) (.node (o36_p4 P) (.node (X 68) (.node (o132_p9 P) .nil .nil) .nil) (.node (o100_p9 P) .nil .nil)) (.node (X 52) (.node (X 84) (.node (o148_p9 P) .nil .nil) .nil) (.node (o116_p9 P) .nil .nil))) (.node (o28_p2 P) (.node (o44_p5 P) (.node (X 76) (.node (o140_p9 P) .nil .nil) .nil) (.node (o108_p9 P) .nil .nil)) (.node (X 60) (.node (o92_p7 P) (.node (o156_p9 P) .nil .nil) .nil) (.node (o124_p9 P) .nil .nil))))) (.node (boot_o_6 P) (.node (boot_o_10 P) (.node (o18_p0 P) (.node (o34_p4 P) (.node (X 66) (.node (o130_p9 P) .nil .nil) .nil) (.node (o98_p9 P) .nil .nil)) (.node (X 50) (.node (X 82) (.node (o146_p9 P) .nil .nil) .nil) (.node (o114_p9 P) .nil .nil))) (.node (o26_p2 P) (.node (o42_p5 P) (.node (X 74) (.node (o138_p9 P) .nil .nil) .nil) (.node (o106_p9 P) .nil .nil)) (.node (X 58) (.node (o90_p7 P) (.node (o154_p9 P) .nil .nil) .nil) (.node (o122_p9 P) .nil .nil)))) (.node (o14_pre P) (.node (o22_p2 P) (.node (o38_p4 P) (.node (X 70) (.node (o134_p9 P) .nil .nil) .nil) (.node (o102_p9 P) .nil .nil)) (.node (X 54) (.node (o86_p7 P) (.node (o150_p9 P) .nil .nil) .nil) (.node (o118_p9 P) .nil .nil))) (.node (o30_p4 P) (.node (o46_p5 P) (.node (X 78) (.node (o142_p9 P) .nil .nil) .nil) (.node (o110_p9 P) .nil .nil)) (.node (X 62) (.node (o94_p9 P) (.node (o158_p9 P) .nil .nil) .nil) (.node (o126_p9 P) .nil .nil)))))))
noncomputable def s_p9 (X : Nat → Obj) (L : Life) (w : World) (os : OsState) : SharedT := ⟨t_p9 X w.params, 159, L, #[], boot_drawn, 2327, os⟩
noncomputable def o3_p10 (P : Params) : Obj := ⟨(.type "dict"), none, (.dict ⟨[⟨PyData.keyHash P (Str.ofString "__name__"), (.str (Str.ofString "__name__") 165), (.str (Str.ofString "law_rl0123_01") 2327)⟩, ⟨PyData.keyHash P (Str.ofString "__doc__"), (.str (Str.ofString "__doc__") 166), .none⟩, ⟨PyData.keyHash P (Str.ofString "__package__"), (.str (Str.ofString "__package__") 167), .none⟩, ⟨PyData.keyHash P (Str.ofString "__loader__"), (.str (Str.ofString "__loader__") 168), (.builtin "__main__.__loader__#opaque")⟩, ⟨PyData.keyHash P (Str.ofString "__spec__"), (.str (Str.ofString "__spec__") 169), .none⟩, ⟨PyData.keyHash P (Str.ofString "__annotations__"), (.str (Str.ofString "__annotations__") 170), (.ref 6)⟩, ⟨PyData.keyHash P (Str.ofString "__builtins__"), (.str (Str.ofString "__builtins__") 171), (.ref 4)⟩, ⟨PyData.keyHash P (Str.ofString "__file__"), (.str (Str.ofString "__file__") 173), (.str (Str.ofString "/claim/cut.py") 172)⟩, ⟨PyData.keyHash P (Str.ofString "__cached__"), (.str (Str.ofString "__cached__") 174), .none⟩, ⟨PyData.keyHash P (Str.ofString "_wall"), (.str (Str.ofString "_wall") 193), (.ref 21)⟩, ⟨PyData.keyHash P (Str.ofString "_parse_varint"), (.str (Str.ofString "_parse_varint") 204), (.ref 28)⟩, ⟨PyData.keyHash P (Str.ofString "b1_set"), (.str (Str.ofString "b1_set") 266), (.ref 36)⟩, ⟨PyData.keyHash P (Str.ofString "in_table_b1"), (.str (Str.ofString "in_table_b1") 273), (.ref 46)⟩, ⟨PyData.keyHash P (Str.ofString "b3_exceptions"), (.str (Str.ofString "b3_exceptions") 2224), (.ref 47)⟩, ⟨PyData.keyHash P (Str.ofString "map_table_b3"), (.str (Str.ofString "map_table_b3") 2232), (.ref 92)⟩, ⟨PyData.keyHash P (Str.ofString "Whitespace"), (.str (Str.ofString "Whitespace") 2326), (.ref 154)⟩]⟩ 16), ⟨[]⟩⟩
noncomputable def t_p10 (X : Nat → Obj) (P : Params) : BT := (.node (boot_o_0 P) (.node (boot_o_1 P) (.node (o3_p10 P) (.node (boot_o_7 P) (.node (o15_p0 P) (.node (o31_p4 P) (.node (X 63) (.node (o127_p9 P) .nil .nil) .nil) (.node (o95_p9 P) .nil .nil)) (.node (X 47) (.node (X 79) (.node (o143_p9 P) .nil .nil) .nil) (.node (o111_p9 P) .nil .nil))) (.node (o23_p2 P) (.node (o39_p4 P) (.node (X 71) (.node (o135_p9 P) .nil .nil) .nil) (.node (o103_p9 P) .nil .nil)) (.node (X 55) (.node (o87_p7 P) (.node (o151_p9 P) .nil .nil) .nil) (.node (o119_p9 P) .nil .nil)))) (.node (o11_pre P) (.node (o19_p0 P) (.node (o35_p4 P) (.node (X 67) (.node (o131_p9 P) .nil .nil) .nil) (.node (o99_p9 P) .nil .nil)) (.node (X 51) (.node (X 83) (.node (o147_p9 P) .nil .nil) .nil) (.node (o115_p9 P) .nil .nil))) (.node (o27_p2 P) (.node (o43_p5 P) (.node (X 75) (.node (o139_p9 P) .nil .nil) .nil) (.node (o107_p9 P) .nil .nil)) (.node (X 59) (.node (o91_p7 P) (.node (o155_p9 P) .nil .nil) .nil) (.node (o123_p9 P) .nil .nil))))) (.node (boot_o_5 P) (.node (boot_o_9 P) (.node (o17_p0 P) (.node (o33_p4 P) (.node (X 65) (.node (o129_p9 P) .nil .nil) .nil) (.node (o97_p9 P) .nil .nil)) (.node (X 49) (.node (X 81) (.node (o145_p9 P) .nil .nil) .nil) (.node (o113_p9 P) .nil .nil))) (.node (o25_p2 P) (.node (o41_p5 P) (.node (X 73) (.node (o137_p9 P) .nil .nil) .nil) (.node (o105_p9 P) .nil .nil)) (.node (X 57) (.node (o89_p7 P) (.node (o153_p9 P) .nil .nil) .nil) (.node (o121_p9 P) .nil .nil)))) (.node (o13_pre P) (.node (o21_p0 P) (.node (o37_p4 P) (.node (X 69) (.node (o133_p9 P) .nil .nil) .nil) (.node (o101_p9 P) .nil .nil)) (.node (X 53) (.node (X 85) (.node (o149_p9 P) .nil .nil) .nil) (.node (o117_p9 P) .nil .nil))) (.node (o29_p4 P) (.node (o45_p5 P) (.node (X 77) (.node (o141_p9 P) .nil .nil) .nil) (.node (o109_p9 P) .nil .nil)) (.node (X 61) (.node (o93_p9 P) (.node (o157_p9 P) .nil .nil) .nil) (.node (o125_p9 P) .nil .nil)))))) (.node (boot_o_2 P) (.node (boot_o_4 P) (.node (boot_o_8 P) (.node (o16_p0 P) (.node (o32_p4 P) (.node (X 64) (.node (o128_p9 P) .nil .nil) .nil) (.node (o96_p9 P) .nil .nil)) (.node (X 48) (.node (X 80) (.node (o144_p9 P) .nil .nil) .nil) (.node (o112_p9 P) .nil .nil))) (.node (o24_p2 P) (.node (o40_p5 P) (.node (X 72) (.node (o136_p9 P) .nil .nil) .nil) (.node (o104_p9 P) .nil .nil)) (.node (X 56) (.node (o88_p7 P) (.node (o152_p9 P) .nil .nil) .nil) (.node (o120_p9 P) .nil .nil)))) (.node (o12_p9 P) (.node (o20_p0 P) (.node (o36_p4 P) (.node (X 68) (.node (o132_p9 P) .nil .nil) .nil) (.node (o100_p9 P) .nil .nil)) (.node (X 52) (.node (X 84) (.node (o148_p9 P) .nil .nil) .nil) (.node (o116_p9 P) .nil .nil))) (.node (o28_p2 P) (.node (o44_p5 P) (.node (X 76) (.node (o140_p9 P) .nil .nil) .nil) (.node (o108_p9 P) .nil .nil)) (.node (X 60) (.node (o92_p7 P) (.node (o156_p9 P) .nil .nil) .nil) (.node (o124_p9 P) .nil .nil))))) (.node (boot_o_6 P) (.node (boot_o_10 P) (.node (o18_p0 P) (.node (o34_p4 P) (.node (X 66) (.node (o130_p9 P) .nil .nil) .nil) (.node (o98_p9 P) .nil .nil)) (.node (X 50) (.node (X 82) (.node (o146_p9 P) .nil .nil) .nil) (.node (o114_p9 P) .nil .nil))) (.node (o26_p2 P) (.node (o42_p5 P) (.node (X 74) (.node (o138_p9 P) .nil .nil) .nil) (.node (o106_p9 P) .nil .nil)) (.node (X 58) (.node (o90_p7 P) (.node (o154_p9 P) .nil .nil) .nil) (.node (o122_p9 P) .nil .nil)))) (.node (o14_pre P) (.node (o22_p2 P) (.node (o38_p4 P) (.node (X 70) (.node (o134_p9 P) .nil .nil) .nil) (.node (o102_p9 P) .nil .nil)) (.node (X 54) (.node (o86_p7 P) (.node (o150_p9 P) .nil .nil) .nil) (.node (o118_p9 P) .nil .nil))) (.node (o30_p4 P) (.node (o46_p5 P) (.node (X 78) (.node (o142_p9 P) .nil .nil) .nil) (.node (o110_p9 P) .nil .nil)) (.node (X 62) (.node (o94_p9 P) (.node (o158_p9 P) .nil .nil) .nil) (.node (o126_p9 P) .nil .nil)))))))
noncomputable def s_p10 (X : Nat → Obj) (L : Life) (w : World) (os : OsState) : SharedT := ⟨t_p10 X w.params, 159, L, #[], boot_drawn, 2329, os⟩
noncomputable def o3_p11 (P : Params) : Obj := ⟨(.type "dict"), none, (.dict ⟨[⟨PyData.keyHash P (Str.ofString "__name__"), (.str (Str.ofString "__name__") 165), (.str (Str.ofString "law_rl0123_01") 2327)⟩, ⟨PyData.keyHash P (Str.ofString "__doc__"), (.str (Str.ofString "__doc__") 166), .none⟩, ⟨PyData.keyHash P (Str.ofString "__package__"), (.str (Str.ofString "__package__") 167), .none⟩, ⟨PyData.keyHash P (Str.ofString "__loader__"), (.str (Str.ofString "__loader__") 168), (.builtin "__main__.__loader__#opaque")⟩, ⟨PyData.keyHash P (Str.ofString "__spec__"), (.str (Str.ofString "__spec__") 169), .none⟩, ⟨PyData.keyHash P (Str.ofString "__annotations__"), (.str (Str.ofString "__annotations__") 170), (.ref 6)⟩, ⟨PyData.keyHash P (Str.ofString "__builtins__"), (.str (Str.ofString "__builtins__") 171), (.ref 4)⟩, ⟨PyData.keyHash P (Str.ofString "__file__"), (.str (Str.ofString "__file__") 173), (.str (Str.ofString "/claim/cut.py") 172)⟩, ⟨PyData.keyHash P (Str.ofString "__cached__"), (.str (Str.ofString "__cached__") 174), .none⟩, ⟨PyData.keyHash P (Str.ofString "_wall"), (.str (Str.ofString "_wall") 193), (.ref 21)⟩, ⟨PyData.keyHash P (Str.ofString "_parse_varint"), (.str (Str.ofString "_parse_varint") 204), (.ref 28)⟩, ⟨PyData.keyHash P (Str.ofString "b1_set"), (.str (Str.ofString "b1_set") 266), (.ref 36)⟩, ⟨PyData.keyHash P (Str.ofString "in_table_b1"), (.str (Str.ofString "in_table_b1") 273), (.ref 46)⟩, ⟨PyData.keyHash P (Str.ofString "b3_exceptions"), (.str (Str.ofString "b3_exceptions") 2224), (.ref 47)⟩, ⟨PyData.keyHash P (Str.ofString "map_table_b3"), (.str (Str.ofString "map_table_b3") 2232), (.ref 92)⟩, ⟨PyData.keyHash P (Str.ofString "Whitespace"), (.str (Str.ofString "Whitespace") 2326), (.ref 154)⟩, ⟨PyData.keyHash P (Str.ofString "_law_sign"), (.str (Str.ofString "_law_sign") 2340), (.ref 165)⟩]⟩ 17), ⟨[]⟩⟩
noncomputable def o12_p11 (P : Params) : Obj := ⟨.none, none, (.fields ⟨[(.int 1 0), (.int 0 0), (.ref 20), (.int 5 0), (.int 0 0), (.ref 27), (.int 15 0), (.int 0 0), (.ref 45), (.int 18 0), (.int 0 0), (.ref 91), (.int 24 0), (.int 0 0), (.ref 98), (.int 68 0), (.int 0 0), (.ref 164)]⟩), ⟨[]⟩⟩
noncomputable def o159_p11 (P : Params) : Obj := ⟨(.type "tuple"), none, (.seq ⟨[]⟩ 0), ⟨[]⟩⟩
noncomputable def o160_p11 (P : Params) : Obj := ⟨.none, none, (.fields ⟨[]⟩), ⟨[]⟩⟩
noncomputable def o161_p11 (P : Params) : Obj := ⟨(.type "tuple"), none, (.seq ⟨[(.str (Str.ofString "x") 2332), (.str (Str.ofString "kinds") 2333), (.str (Str.ofString "unseen") 2334), (.str (Str.ofString "shown") 2335), (.str (Str.ofString "code") 2336), (.str (Str.ofString "plain") 2337)]⟩ 0), ⟨[]⟩⟩
noncomputable def o162_p11 (P : Params) : Obj := ⟨(.type "tuple"), none, (.seq ⟨[]⟩ 0), ⟨[]⟩⟩
noncomputable def o163_p11 (P : Params) : Obj := ⟨.none, none, (.func { name := (Str.ofString "_law_sign"), qualname := (Str.ofString "_law_sign"), params := (pDef 11).1, body := .stmts (pDef 11).2.1, scope := (pDef 11).2.2, globals := 0, closure := [], defaults := .none, kwdefaults := .none, doc := .none, pyModule := .none, annotations := none, code := .none, closureTuple := .none, builtins := 0 }), ⟨[]⟩⟩
noncomputable def o164_p11 (P : Params) : Obj := ⟨(.type "code"), none, (.fields ⟨[(.str (Str.ofString "_law_sign") 2329), (.str (Str.ofString "_law_sign") 2330), (.str (Str.ofString "/claim/cut.py") 2331), (.int 68 0), (.int 2 0), (.int 0 0), (.int 0 0), (.int 3 0), (.ref 159), (.bool true), (.int 181 0), (.ref 160), .none, (.ref 161), (.ref 162), (.ref 163), (.int 2338 0), (.int 68 0), (.str (Str.ofString "/claim/cut.py") 2339)]⟩), ⟨[]⟩⟩
noncomputable def o165_p11 (P : Params) : Obj := ⟨(.type "function"), none, (.func { name := (Str.ofString "_law_sign"), qualname := (Str.ofString "_law_sign"), params := (pDef 11).1, body := .stmts (pDef 11).2.1, scope := (pDef 11).2.2, globals := 3, closure := [], defaults := .none, kwdefaults := .none, doc := .none, pyModule := (.str (Str.ofString "law_rl0123_01") 2327), annotations := none, code := (.ref 164), closureTuple := .none, builtins := 0 }), ⟨[]⟩⟩
noncomputable def t_p11 (X : Nat → Obj) (P : Params) : BT := (.node (boot_o_0 P) (.node (boot_o_1 P) (.node (o3_p11 P) (.node (boot_o_7 P) (.node (o15_p0 P) (.node (o31_p4 P) (.node (X 63) (.node (o127_p9 P) .nil .nil) .nil) (.node (o95_p9 P) (.node (o159_p11 P) .nil .nil) .nil)) (.node (X 47) (.node (X 79) (.node (o143_p9 P) .nil .nil) .nil) (.node (o111_p9 P) .nil .nil))) (.node (o23_p2 P) (.node (o39_p4 P) (.node (X 71) (.node (o135_p9 P) .nil .nil) .nil) (.node (o103_p9 P) .nil .nil)) (.node (X 55) (.node (o87_p7 P) (.node (o151_p9 P) .nil .nil) .nil) (.node (o119_p9 P) .nil .nil)))) (.node (o11_pre P) (.node (o19_p0 P) (.node (o35_p4 P) (.node (X 67) (.node (o131_p9 P) .nil .nil) .nil) (.node (o99_p9 P) (.node (o163_p11 P) .nil .nil) .nil)) (.node (X 51) (.node (X 83) (.node (o147_p9 P) .nil .nil) .nil) (.node (o115_p9 P) .nil .nil))) (.node (o27_p2 P) (.node (o43_p5 P) (.node (X 75) (.node (o139_p9 P) .nil .nil) .nil) (.node (o107_p9 P) .nil .nil)) (.node (X 59) (.node (o91_p7 P) (.node (o155_p9 P) .nil .nil) .nil) (.node (o123_p9 P) .nil .nil))))) (.node (boot_o_5 P) (.node (boot_o_9 P) (.node (o17_p0 P) (.node (o33_p4 P) (.node (X 65) (.node (o129_p9 P) .nil .nil) .nil) (.node (o97_p9 P) (.node (o161_p11 P) .nil .nil) .nil)) (.node (X 49) (.node (X 81) (.node (o145_p9 P) .nil .nil) .nil) (.node (o113_p9 P) .nil .nil))) (.node (o25_p2 P) (.node (o41_p5 P) (.node (X 73) (.node (o137_p9 P) .nil .nil) .nil) (.node (o105_p9 P) .nil .nil)) (.node (X 57) (.node (o89_p7 P) (.node (o153_p9 P) .nil .nil) .nil) (.node (o121_p9 P) .nil .nil)))) (.node (o13_pre P) (.node (o21_p0 P) (.node (o37_p4 P) (.node (X 69) (.node (o133_p9 P) .nil .nil) .nil) (.node (o101_p9 P) (.node (o165_p11 P) .nil .nil) .nil)) (.node (X 53) (.node (X 85) (.node (o149_p9 P) .nil .nil) .nil) (.node (o117_p9 P) .nil .nil))) (.node (o29_p4 P) (.node (o45_p5 P) (.node (X 77) (.node (o141_p9 P) .nil .nil) .nil) (.node (o109_p9 P) .nil .nil)) (.node (X 61) (.node (o93_p9 P) (.node (o157_p9 P) .nil .nil) .nil) (.node (o125_p9 P) .nil .nil)))))) (.node (boot_o_2 P) (.node (boot_o_4 P) (.node (boot_o_8 P) (.node (o16_p0 P) (.node (o32_p4 P) (.node (X 64) (.node (o128_p9 P) .nil .nil) .nil) (.node (o96_p9 P) (.node (o160_p11 P) .nil .nil) .nil)) (.node (X 48) (.node (X 80) (.node (o144_p9 P) .nil .nil) .nil) (.node (o112_p9 P) .nil .nil))) (.node (o24_p2 P) (.node (o40_p5 P) (.node (X 72) (.node (o136_p9 P) .nil .nil) .nil) (.node (o104_p9 P) .nil .nil)) (.node (X 56) (.node (o88_p7 P) (.node (o152_p9 P) .nil .nil) .nil) (.node (o120_p9 P) .nil .nil)))) (.node (o12_p11 P) (.node (o20_p0 P) (.node (o36_p4 P) (.node (X 68) (.node (o132_p9 P) .nil .nil) .nil) (.node (o100_p9 P) (.node (o164_p11 P) .nil .nil) .nil)) (.node (X 52) (.node (X 84) (.node (o148_p9 P) .nil .nil) .nil) (.node (o116_p9 P) .nil .nil))) (.node (o28_p2 P) (.node (o44_p5 P) (.node (X 76) (.node (o140_p9 P) .nil .nil) .nil) (.node (o108_p9 P) .nil .nil)) (.node (X 60) (.node (o92_p7 P) (.node (o156_p9 P) .nil .nil) .nil) (.node (o124_p9 P) .nil .nil))))) (.node (boot_o_6 P) (.node (boot_o_10 P) (.node (o18_p0 P) (.node (o34_p4 P) (.node (X 66) (.node (o130_p9 P) .nil .nil) .nil) (.node (o98_p9 P) (.node (o162_p11 P) .nil .nil) .nil)) (.node (X 50) (.node (X 82) (.node (o146_p9 P) .nil .nil) .nil) (.node (o114_p9 P) .nil .nil))) (.node (o26_p2 P) (.node (o42_p5 P) (.node (X 74) (.node (o138_p9 P) .nil .nil) .nil) (.node (o106_p9 P) .nil .nil)) (.node (X 58) (.node (o90_p7 P) (.node (o154_p9 P) .nil .nil) .nil) (.node (o122_p9 P) .nil .nil)))) (.node (o14_pre P) (.node (o22_p2 P) (.node (o38_p4 P) (.node (X 70) (.node (o134_p9 P) .nil .nil) .nil) (.node (o102_p9 P) .nil .nil)) (.node (X 54) (.node (o86_p7 P) (.node (o150_p9 P) .nil .nil) .nil) (.node (o118_p9 P) .nil .nil))) (.node (o30_p4 P) (.node (o46_p5 P) (.node (X 78) (.node (o142_p9 P) .nil .nil) .nil) (.node (o110_p9 P) .nil .nil)) (.node (X 62) (.node (o94_p9 P) (.node (o158_p9 P) .nil .nil) .nil) (.node (o126_p9 P) .nil .nil)))))))
noncomputable def s_p11 (X : Nat → Obj) (L : Life) (w : World) (os : OsState) : SharedT := ⟨t_p11 X w.params, 166, L, #[], boot_drawn, 2341, os⟩
noncomputable def o3_p12 (P : Params) : Obj := ⟨(.type "dict"), none, (.dict ⟨[⟨PyData.keyHash P (Str.ofString "__name__"), (.str (Str.ofString "__name__") 165), (.str (Str.ofString "law_rl0123_01") 2327)⟩, ⟨PyData.keyHash P (Str.ofString "__doc__"), (.str (Str.ofString "__doc__") 166), .none⟩, ⟨PyData.keyHash P (Str.ofString "__package__"), (.str (Str.ofString "__package__") 167), .none⟩, ⟨PyData.keyHash P (Str.ofString "__loader__"), (.str (Str.ofString "__loader__") 168), (.builtin "__main__.__loader__#opaque")⟩, ⟨PyData.keyHash P (Str.ofString "__spec__"), (.str (Str.ofString "__spec__") 169), .none⟩, ⟨PyData.keyHash P (Str.ofString "__annotations__"), (.str (Str.ofString "__annotations__") 170), (.ref 6)⟩, ⟨PyData.keyHash P (Str.ofString "__builtins__"), (.str (Str.ofString "__builtins__") 171), (.ref 4)⟩, ⟨PyData.keyHash P (Str.ofString "__file__"), (.str (Str.ofString "__file__") 173), (.str (Str.ofString "/claim/cut.py") 172)⟩, ⟨PyData.keyHash P (Str.ofString "__cached__"), (.str (Str.ofString "__cached__") 174), .none⟩, ⟨PyData.keyHash P (Str.ofString "_wall"), (.str (Str.ofString "_wall") 193), (.ref 21)⟩, ⟨PyData.keyHash P (Str.ofString "_parse_varint"), (.str (Str.ofString "_parse_varint") 204), (.ref 28)⟩, ⟨PyData.keyHash P (Str.ofString "b1_set"), (.str (Str.ofString "b1_set") 266), (.ref 36)⟩, ⟨PyData.keyHash P (Str.ofString "in_table_b1"), (.str (Str.ofString "in_table_b1") 273), (.ref 46)⟩, ⟨PyData.keyHash P (Str.ofString "b3_exceptions"), (.str (Str.ofString "b3_exceptions") 2224), (.ref 47)⟩, ⟨PyData.keyHash P (Str.ofString "map_table_b3"), (.str (Str.ofString "map_table_b3") 2232), (.ref 92)⟩, ⟨PyData.keyHash P (Str.ofString "Whitespace"), (.str (Str.ofString "Whitespace") 2326), (.ref 154)⟩, ⟨PyData.keyHash P (Str.ofString "_law_sign"), (.str (Str.ofString "_law_sign") 2340), (.ref 165)⟩, ⟨PyData.keyHash P (Str.ofString "_law_prepared"), (.str (Str.ofString "_law_prepared") 2350), (.ref 172)⟩]⟩ 18), ⟨[]⟩⟩
noncomputable def o12_p12 (P : Params) : Obj := ⟨.none, none, (.fields ⟨[(.int 1 0), (.int 0 0), (.ref 20), (.int 5 0), (.int 0 0), (.ref 27), (.int 15 0), (.int 0 0), (.ref 45), (.int 18 0), (.int 0 0), (.ref 91), (.int 24 0), (.int 0 0), (.ref 98), (.int 68 0), (.int 0 0), (.ref 164), (.int 77 0), (.int 0 0), (.ref 171)]⟩), ⟨[]⟩⟩
noncomputable def o166_p12 (P : Params) : Obj := ⟨(.type "tuple"), none, (.seq ⟨[]⟩ 0), ⟨[]⟩⟩
noncomputable def o167_p12 (P : Params) : Obj := ⟨.none, none, (.fields ⟨[]⟩), ⟨[]⟩⟩
noncomputable def o168_p12 (P : Params) : Obj := ⟨(.type "tuple"), none, (.seq ⟨[(.str (Str.ofString "signs") 2344), (.str (Str.ofString "kept") 2345), (.str (Str.ofString "sign") 2346), (.str (Str.ofString "held") 2347)]⟩ 0), ⟨[]⟩⟩
noncomputable def o169_p12 (P : Params) : Obj := ⟨(.type "tuple"), none, (.seq ⟨[]⟩ 0), ⟨[]⟩⟩
noncomputable def o170_p12 (P : Params) : Obj := ⟨.none, none, (.func { name := (Str.ofString "_law_prepared"), qualname := (Str.ofString "_law_prepared"), params := (pDef 12).1, body := .stmts (pDef 12).2.1, scope := (pDef 12).2.2, globals := 0, closure := [], defaults := .none, kwdefaults := .none, doc := .none, pyModule := .none, annotations := none, code := .none, closureTuple := .none, builtins := 0 }), ⟨[]⟩⟩
noncomputable def o171_p12 (P : Params) : Obj := ⟨(.type "code"), none, (.fields ⟨[(.str (Str.ofString "_law_prepared") 2341), (.str (Str.ofString "_law_prepared") 2342), (.str (Str.ofString "/claim/cut.py") 2343), (.int 77 0), (.int 1 0), (.int 0 0), (.int 0 0), (.int 3 0), (.ref 166), (.bool true), (.int 181 0), (.ref 167), .none, (.ref 168), (.ref 169), (.ref 170), (.int 2348 0), (.int 77 0), (.str (Str.ofString "/claim/cut.py") 2349)]⟩), ⟨[]⟩⟩
noncomputable def o172_p12 (P : Params) : Obj := ⟨(.type "function"), none, (.func { name := (Str.ofString "_law_prepared"), qualname := (Str.ofString "_law_prepared"), params := (pDef 12).1, body := .stmts (pDef 12).2.1, scope := (pDef 12).2.2, globals := 3, closure := [], defaults := .none, kwdefaults := .none, doc := .none, pyModule := (.str (Str.ofString "law_rl0123_01") 2327), annotations := none, code := (.ref 171), closureTuple := .none, builtins := 0 }), ⟨[]⟩⟩
noncomputable def t_p12 (X : Nat → Obj) (P : Params) : BT := (.node (boot_o_0 P) (.node (boot_o_1 P) (.node (o3_p12 P) (.node (boot_o_7 P) (.node (o15_p0 P) (.node (o31_p4 P) (.node (X 63) (.node (o127_p9 P) .nil .nil) .nil) (.node (o95_p9 P) (.node (o159_p11 P) .nil .nil) .nil)) (.node (X 47) (.node (X 79) (.node (o143_p9 P) .nil .nil) .nil) (.node (o111_p9 P) .nil .nil))) (.node (o23_p2 P) (.node (o39_p4 P) (.node (X 71) (.node (o135_p9 P) .nil .nil) .nil) (.node (o103_p9 P) (.node (o167_p12 P) .nil .nil) .nil)) (.node (X 55) (.node (o87_p7 P) (.node (o151_p9 P) .nil .nil) .nil) (.node (o119_p9 P) .nil .nil)))) (.node (o11_pre P) (.node (o19_p0 P) (.node (o35_p4 P) (.node (X 67) (.node (o131_p9 P) .nil .nil) .nil) (.node (o99_p9 P) (.node (o163_p11 P) .nil .nil) .nil)) (.node (X 51) (.node (X 83) (.node (o147_p9 P) .nil .nil) .nil) (.node (o115_p9 P) .nil .nil))) (.node (o27_p2 P) (.node (o43_p5 P) (.node (X 75) (.node (o139_p9 P) .nil .nil) .nil) (.node (o107_p9 P) (.node (o171_p12 P) .nil .nil) .nil)) (.node (X 59) (.node (o91_p7 P) (.node (o155_p9 P) .nil .nil) .nil) (.node (o123_p9 P) .nil .nil))))) (.node (boot_o_5 P) (.node (boot_o_9 P) (.node (o17_p0 P) (.node (o33_p4 P) (.node (X 65) (.node (o129_p9 P) .nil .nil) .nil) (.node (o97_p9 P) (.node (o161_p11 P) .nil .nil) .nil)) (.node (X 49) (.node (X 81) (.node (o145_p9 P) .nil .nil) .nil) (.node (o113_p9 P) .nil .nil))) (.node (o25_p2 P) (.node (o41_p5 P) (.node (X 73) (.node (o137_p9 P) .nil .nil) .nil) (.node (o105_p9 P) (.node (o169_p12 P) .nil .nil) .nil)) (.node (X 57) (.node (o89_p7 P) (.node (o153_p9 P) .nil .nil) .nil) (.node (o121_p9 P) .nil .nil)))) (.node (o13_pre P) (.node (o21_p0 P) (.node (o37_p4 P) (.node (X 69) (.node (o133_p9 P) .nil .nil) .nil) (.node (o101_p9 P) (.node (o165_p11 P) .nil .nil) .nil)) (.node (X 53) (.node (X 85) (.node (o149_p9 P) .nil .nil) .nil) (.node (o117_p9 P) .nil .nil))) (.node (o29_p4 P) (.node (o45_p5 P) (.node (X 77) (.node (o141_p9 P) .nil .nil) .nil) (.node (o109_p9 P) .nil .nil)) (.node (X 61) (.node (o93_p9 P) (.node (o157_p9 P) .nil .nil) .nil) (.node (o125_p9 P) .nil .nil)))))) (.node (boot_o_2 P) (.node (boot_o_4 P) (.node (boot_o_8 P) (.node (o16_p0 P) (.node (o32_p4 P) (.node (X 64) (.node (o128_p9 P) .nil .nil) .nil) (.node (o96_p9 P) (.node (o160_p11 P) .nil .nil) .nil)) (.node (X 48) (.node (X 80) (.node (o144_p9 P) .nil .nil) .nil) (.node (o112_p9 P) .nil .nil))) (.node (o24_p2 P) (.node (o40_p5 P) (.node (X 72) (.node (o136_p9 P) .nil .nil) .nil) (.node (o104_p9 P) (.node (o168_p12 P) .nil .nil) .nil)) (.node (X 56) (.node (o88_p7 P) (.node (o152_p9 P) .nil .nil) .nil) (.node (o120_p9 P) .nil .nil)))) (.node (o12_p12 P) (.node (o20_p0 P) (.node (o36_p4 P) (.node (X 68) (.node (o132_p9 P) .nil .nil) .nil) (.node (o100_p9 P) (.node (o164_p11 P) .nil .nil) .nil)) (.node (X 52) (.node (X 84) (.node (o148_p9 P) .nil .nil) .nil) (.node (o116_p9 P) .nil .nil))) (.node (o28_p2 P) (.node (o44_p5 P) (.node (X 76) (.node (o140_p9 P) .nil .nil) .nil) (.node (o108_p9 P) (.node (o172_p12 P) .nil .nil) .nil)) (.node (X 60) (.node (o92_p7 P) (.node (o156_p9 P) .nil .nil) .nil) (.node (o124_p9 P) .nil .nil))))) (.node (boot_o_6 P) (.node (boot_o_10 P) (.node (o18_p0 P) (.node (o34_p4 P) (.node (X 66) (.node (o130_p9 P) .nil .nil) .nil) (.node (o98_p9 P) (.node (o162_p11 P) .nil .nil) .nil)) (.node (X 50) (.node (X 82) (.node (o146_p9 P) .nil .nil) .nil) (.node (o114_p9 P) .nil .nil))) (.node (o26_p2 P) (.node (o42_p5 P) (.node (X 74) (.node (o138_p9 P) .nil .nil) .nil) (.node (o106_p9 P) (.node (o170_p12 P) .nil .nil) .nil)) (.node (X 58) (.node (o90_p7 P) (.node (o154_p9 P) .nil .nil) .nil) (.node (o122_p9 P) .nil .nil)))) (.node (o14_pre P) (.node (o22_p2 P) (.node (o38_p4 P) (.node (X 70) (.node (o134_p9 P) .nil .nil) .nil) (.node (o102_p9 P) (.node (o166_p12 P) .nil .nil) .nil)) (.node (X 54) (.node (o86_p7 P) (.node (o150_p9 P) .nil .nil) .nil) (.node (o118_p9 P) .nil .nil))) (.node (o30_p4 P) (.node (o46_p5 P) (.node (X 78) (.node (o142_p9 P) .nil .nil) .nil) (.node (o110_p9 P) .nil .nil)) (.node (X 62) (.node (o94_p9 P) (.node (o158_p9 P) .nil .nil) .nil) (.node (o126_p9 P) .nil .nil)))))))
noncomputable def s_p12 (X : Nat → Obj) (L : Life) (w : World) (os : OsState) : SharedT := ⟨t_p12 X w.params, 173, L, #[], boot_drawn, 2351, os⟩
noncomputable def o3_p13 (P : Params) : Obj := ⟨(.type "dict"), none, (.dict ⟨[⟨PyData.keyHash P (Str.ofString "__name__"), (.str (Str.ofString "__name__") 165), (.str (Str.ofString "law_rl0123_01") 2327)⟩, ⟨PyData.keyHash P (Str.ofString "__doc__"), (.str (Str.ofString "__doc__") 166), .none⟩, ⟨PyData.keyHash P (Str.ofString "__package__"), (.str (Str.ofString "__package__") 167), .none⟩, ⟨PyData.keyHash P (Str.ofString "__loader__"), (.str (Str.ofString "__loader__") 168), (.builtin "__main__.__loader__#opaque")⟩, ⟨PyData.keyHash P (Str.ofString "__spec__"), (.str (Str.ofString "__spec__") 169), .none⟩, ⟨PyData.keyHash P (Str.ofString "__annotations__"), (.str (Str.ofString "__annotations__") 170), (.ref 6)⟩, ⟨PyData.keyHash P (Str.ofString "__builtins__"), (.str (Str.ofString "__builtins__") 171), (.ref 4)⟩, ⟨PyData.keyHash P (Str.ofString "__file__"), (.str (Str.ofString "__file__") 173), (.str (Str.ofString "/claim/cut.py") 172)⟩, ⟨PyData.keyHash P (Str.ofString "__cached__"), (.str (Str.ofString "__cached__") 174), .none⟩, ⟨PyData.keyHash P (Str.ofString "_wall"), (.str (Str.ofString "_wall") 193), (.ref 21)⟩, ⟨PyData.keyHash P (Str.ofString "_parse_varint"), (.str (Str.ofString "_parse_varint") 204), (.ref 28)⟩, ⟨PyData.keyHash P (Str.ofString "b1_set"), (.str (Str.ofString "b1_set") 266), (.ref 36)⟩, ⟨PyData.keyHash P (Str.ofString "in_table_b1"), (.str (Str.ofString "in_table_b1") 273), (.ref 46)⟩, ⟨PyData.keyHash P (Str.ofString "b3_exceptions"), (.str (Str.ofString "b3_exceptions") 2224), (.ref 47)⟩, ⟨PyData.keyHash P (Str.ofString "map_table_b3"), (.str (Str.ofString "map_table_b3") 2232), (.ref 92)⟩, ⟨PyData.keyHash P (Str.ofString "Whitespace"), (.str (Str.ofString "Whitespace") 2326), (.ref 154)⟩, ⟨PyData.keyHash P (Str.ofString "_law_sign"), (.str (Str.ofString "_law_sign") 2340), (.ref 165)⟩, ⟨PyData.keyHash P (Str.ofString "_law_prepared"), (.str (Str.ofString "_law_prepared") 2350), (.ref 172)⟩, ⟨PyData.keyHash P (Str.ofString "_law_indent"), (.str (Str.ofString "_law_indent") 2356), (.ref 177)⟩]⟩ 19), ⟨[]⟩⟩
noncomputable def o12_p13 (P : Params) : Obj := ⟨.none, none, (.fields ⟨[(.int 1 0), (.int 0 0), (.ref 20), (.int 5 0), (.int 0 0), (.ref 27), (.int 15 0), (.int 0 0), (.ref 45), (.int 18 0), (.int 0 0), (.ref 91), (.int 24 0), (.int 0 0), (.ref 98), (.int 68 0), (.int 0 0), (.ref 164), (.int 77 0), (.int 0 0), (.ref 171), (.int 86 0), (.int 0 0), (.ref 176)]⟩), ⟨[]⟩⟩
noncomputable def o173_p13 (P : Params) : Obj := ⟨(.type "tuple"), none, (.seq ⟨[]⟩ 0), ⟨[]⟩⟩
noncomputable def o174_p13 (P : Params) : Obj := ⟨.none, none, (.fields ⟨[]⟩), ⟨[]⟩⟩
noncomputable def o175_p13 (P : Params) : Obj := ⟨.none, none, (.func { name := (Str.ofString "_law_indent"), qualname := (Str.ofString "_law_indent"), params := (pDef 13).1, body := .stmts (pDef 13).2.1, scope := (pDef 13).2.2, globals := 0, closure := [], defaults := .none, kwdefaults := .none, doc := .none, pyModule := .none, annotations := none, code := .none, closureTuple := .none, builtins := 0 }), ⟨[]⟩⟩
noncomputable def o176_p13 (P : Params) : Obj := ⟨(.type "code"), none, (.fields ⟨[(.str (Str.ofString "_law_indent") 2351), (.str (Str.ofString "_law_indent") 2352), (.str (Str.ofString "/claim/cut.py") 2353), (.int 86 0), (.int 1 0), (.int 0 0), (.int 0 0), (.int 3 0), (.ref 173), (.bool true), (.int 181 0), (.ref 174), .none, .none, .none, (.ref 175), (.int 2354 0), (.int 86 0), (.str (Str.ofString "/claim/cut.py") 2355)]⟩), ⟨[]⟩⟩
noncomputable def o177_p13 (P : Params) : Obj := ⟨(.type "function"), none, (.func { name := (Str.ofString "_law_indent"), qualname := (Str.ofString "_law_indent"), params := (pDef 13).1, body := .stmts (pDef 13).2.1, scope := (pDef 13).2.2, globals := 3, closure := [], defaults := .none, kwdefaults := .none, doc := .none, pyModule := (.str (Str.ofString "law_rl0123_01") 2327), annotations := none, code := (.ref 176), closureTuple := .none, builtins := 0 }), ⟨[]⟩⟩
noncomputable def t_p13 (X : Nat → Obj) (P : Params) : BT := (.node (boot_o_0 P) (.node (boot_o_1 P) (.node (o3_p13 P) (.node (boot_o_7 P) (.node (o15_p0 P) (.node (o31_p4 P) (.node (X 63) (.node (o127_p9 P) .nil .nil) .nil) (.node (o95_p9 P) (.node (o159_p11 P) .nil .nil) .nil)) (.node (X 47) (.node (X 79) (.node (o143_p9 P) .nil .nil) .nil) (.node (o111_p9 P) (.node (o175_p13 P) .nil .nil) .nil))) (.node (o23_p2 P) (.node (o39_p4 P) (.node (X 71) (.node (o135_p9 P) .nil .nil) .nil) (.node (o103_p9 P) (.node (o167_p12 P) .nil .nil) .nil)) (.node (X 55) (.node (o87_p7 P) (.node (o151_p9 P) .nil .nil) .nil) (.node (o119_p9 P) .nil .nil)))) (.node (o11_pre P) (.node (o19_p0 P) (.node (o35_p4 P) (.node (X 67) (.node (o131_p9 P) .nil .nil) .nil) (.node (o99_p9 P) (.node (o163_p11 P) .nil .nil) .nil)) (.node (X 51) (.node (X 83) (.node (o147_p9 P) .nil .nil) .nil) (.node (o115_p9 P) .nil .nil))) (.node (o27_p2 P) (.node (o43_p5 P) (.node (X 75) (.node (o139_p9 P) .nil .nil) .nil) (.node (o107_p9 P) (.node (o171_p12 P) .nil .nil) .nil)) (.node (X 59) (.node (o91_p7 P) (.node (o155_p9 P) .nil .nil) .nil) (.node (o123_p9 P) .nil .nil))))) (.node (boot_o_5 P) (.node (boot_o_9 P) (.node (o17_p0 P) (.node (o33_p4 P) (.node (X 65) (.node (o129_p9 P) .nil .nil) .nil) (.node (o97_p9 P) (.node (o161_p11 P) .nil .nil) .nil)) (.node (X 49) (.node (X 81) (.node (o145_p9 P) .nil .nil) .nil) (.node (o113_p9 P) (.node (o177_p13 P) .nil .nil) .nil))) (.node (o25_p2 P) (.node (o41_p5 P) (.node (X 73) (.node (o137_p9 P) .nil .nil) .nil) (.node (o105_p9 P) (.node (o169_p12 P) .nil .nil) .nil)) (.node (X 57) (.node (o89_p7 P) (.node (o153_p9 P) .nil .nil) .nil) (.node (o121_p9 P) .nil .nil)))) (.node (o13_pre P) (.node (o21_p0 P) (.node (o37_p4 P) (.node (X 69) (.node (o133_p9 P) .nil .nil) .nil) (.node (o101_p9 P) (.node (o165_p11 P) .nil .nil) .nil)) (.node (X 53) (.node (X 85) (.node (o149_p9 P) .nil .nil) .nil) (.node (o117_p9 P) .nil .nil))) (.node (o29_p4 P) (.node (o45_p5 P) (.node (X 77) (.node (o141_p9 P) .nil .nil) .nil) (.node (o109_p9 P) (.node (o173_p13 P) .nil .nil) .nil)) (.node (X 61) (.node (o93_p9 P) (.node (o157_p9 P) .nil .nil) .nil) (.node (o125_p9 P) .nil .nil)))))) (.node (boot_o_2 P) (.node (boot_o_4 P) (.node (boot_o_8 P) (.node (o16_p0 P) (.node (o32_p4 P) (.node (X 64) (.node (o128_p9 P) .nil .nil) .nil) (.node (o96_p9 P) (.node (o160_p11 P) .nil .nil) .nil)) (.node (X 48) (.node (X 80) (.node (o144_p9 P) .nil .nil) .nil) (.node (o112_p9 P) (.node (o176_p13 P) .nil .nil) .nil))) (.node (o24_p2 P) (.node (o40_p5 P) (.node (X 72) (.node (o136_p9 P) .nil .nil) .nil) (.node (o104_p9 P) (.node (o168_p12 P) .nil .nil) .nil)) (.node (X 56) (.node (o88_p7 P) (.node (o152_p9 P) .nil .nil) .nil) (.node (o120_p9 P) .nil .nil)))) (.node (o12_p13 P) (.node (o20_p0 P) (.node (o36_p4 P) (.node (X 68) (.node (o132_p9 P) .nil .nil) .nil) (.node (o100_p9 P) (.node (o164_p11 P) .nil .nil) .nil)) (.node (X 52) (.node (X 84) (.node (o148_p9 P) .nil .nil) .nil) (.node (o116_p9 P) .nil .nil))) (.node (o28_p2 P) (.node (o44_p5 P) (.node (X 76) (.node (o140_p9 P) .nil .nil) .nil) (.node (o108_p9 P) (.node (o172_p12 P) .nil .nil) .nil)) (.node (X 60) (.node (o92_p7 P) (.node (o156_p9 P) .nil .nil) .nil) (.node (o124_p9 P) .nil .nil))))) (.node (boot_o_6 P) (.node (boot_o_10 P) (.node (o18_p0 P) (.node (o34_p4 P) (.node (X 66) (.node (o130_p9 P) .nil .nil) .nil) (.node (o98_p9 P) (.node (o162_p11 P) .nil .nil) .nil)) (.node (X 50) (.node (X 82) (.node (o146_p9 P) .nil .nil) .nil) (.node (o114_p9 P) .nil .nil))) (.node (o26_p2 P) (.node (o42_p5 P) (.node (X 74) (.node (o138_p9 P) .nil .nil) .nil) (.node (o106_p9 P) (.node (o170_p12 P) .nil .nil) .nil)) (.node (X 58) (.node (o90_p7 P) (.node (o154_p9 P) .nil .nil) .nil) (.node (o122_p9 P) .nil .nil)))) (.node (o14_pre P) (.node (o22_p2 P) (.node (o38_p4 P) (.node (X 70) (.node (o134_p9 P) .nil .nil) .nil) (.node (o102_p9 P) (.node (o166_p12 P) .nil .nil) .nil)) (.node (X 54) (.node (o86_p7 P) (.node (o150_p9 P) .nil .nil) .nil) (.node (o118_p9 P) .nil .nil))) (.node (o30_p4 P) (.node (o46_p5 P) (.node (X 78) (.node (o142_p9 P) .nil .nil) .nil) (.node (o110_p9 P) (.node (o174_p13 P) .nil .nil) .nil)) (.node (X 62) (.node (o94_p9 P) (.node (o158_p9 P) .nil .nil) .nil) (.node (o126_p9 P) .nil .nil)))))))
noncomputable def s_p13 (X : Nat → Obj) (L : Life) (w : World) (os : OsState) : SharedT := ⟨t_p13 X w.params, 178, L, #[], boot_drawn, 2357, os⟩
noncomputable def o3_p14 (P : Params) : Obj := ⟨(.type "dict"), none, (.dict ⟨[⟨PyData.keyHash P (Str.ofString "__name__"), (.str (Str.ofString "__name__") 165), (.str (Str.ofString "law_rl0123_01") 2327)⟩, ⟨PyData.keyHash P (Str.ofString "__doc__"), (.str (Str.ofString "__doc__") 166), .none⟩, ⟨PyData.keyHash P (Str.ofString "__package__"), (.str (Str.ofString "__package__") 167), .none⟩, ⟨PyData.keyHash P (Str.ofString "__loader__"), (.str (Str.ofString "__loader__") 168), (.builtin "__main__.__loader__#opaque")⟩, ⟨PyData.keyHash P (Str.ofString "__spec__"), (.str (Str.ofString "__spec__") 169), .none⟩, ⟨PyData.keyHash P (Str.ofString "__annotations__"), (.str (Str.ofString "__annotations__") 170), (.ref 6)⟩, ⟨PyData.keyHash P (Str.ofString "__builtins__"), (.str (Str.ofString "__builtins__") 171), (.ref 4)⟩, ⟨PyData.keyHash P (Str.ofString "__file__"), (.str (Str.ofString "__file__") 173), (.str (Str.ofString "/claim/cut.py") 172)⟩, ⟨PyData.keyHash P (Str.ofString "__cached__"), (.str (Str.ofString "__cached__") 174), .none⟩, ⟨PyData.keyHash P (Str.ofString "_wall"), (.str (Str.ofString "_wall") 193), (.ref 21)⟩, ⟨PyData.keyHash P (Str.ofString "_parse_varint"), (.str (Str.ofString "_parse_varint") 204), (.ref 28)⟩, ⟨PyData.keyHash P (Str.ofString "b1_set"), (.str (Str.ofString "b1_set") 266), (.ref 36)⟩, ⟨PyData.keyHash P (Str.ofString "in_table_b1"), (.str (Str.ofString "in_table_b1") 273), (.ref 46)⟩, ⟨PyData.keyHash P (Str.ofString "b3_exceptions"), (.str (Str.ofString "b3_exceptions") 2224), (.ref 47)⟩, ⟨PyData.keyHash P (Str.ofString "map_table_b3"), (.str (Str.ofString "map_table_b3") 2232), (.ref 92)⟩, ⟨PyData.keyHash P (Str.ofString "Whitespace"), (.str (Str.ofString "Whitespace") 2326), (.ref 154)⟩, ⟨PyData.keyHash P (Str.ofString "_law_sign"), (.str (Str.ofString "_law_sign") 2340), (.ref 165)⟩, ⟨PyData.keyHash P (Str.ofString "_law_prepared"), (.str (Str.ofString "_law_prepared") 2350), (.ref 172)⟩, ⟨PyData.keyHash P (Str.ofString "_law_indent"), (.str (Str.ofString "_law_indent") 2356), (.ref 177)⟩, ⟨PyData.keyHash P (Str.ofString "_law_ahead"), (.str (Str.ofString "_law_ahead") 2368), (.ref 184)⟩]⟩ 20), ⟨[]⟩⟩
noncomputable def o12_p14 (P : Params) : Obj := ⟨.none, none, (.fields ⟨[(.int 1 0), (.int 0 0), (.ref 20), (.int 5 0), (.int 0 0), (.ref 27), (.int 15 0), (.int 0 0), (.ref 45), (.int 18 0), (.int 0 0), (.ref 91), (.int 24 0), (.int 0 0), (.ref 98), (.int 68 0), (.int 0 0), (.ref 164), (.int 77 0), (.int 0 0), (.ref 171), (.int 86 0), (.int 0 0), (.ref 176), (.int 88 0), (.int 0 0), (.ref 183)]⟩), ⟨[]⟩⟩
noncomputable def o178_p14 (P : Params) : Obj := ⟨(.type "tuple"), none, (.seq ⟨[]⟩ 0), ⟨[]⟩⟩
noncomputable def o179_p14 (P : Params) : Obj := ⟨.none, none, (.fields ⟨[]⟩), ⟨[]⟩⟩
noncomputable def o180_p14 (P : Params) : Obj := ⟨(.type "tuple"), none, (.seq ⟨[(.str (Str.ofString "heads") 2360), (.str (Str.ofString "letter") 2361), (.str (Str.ofString "row") 2362), (.str (Str.ofString "rank") 2363), (.str (Str.ofString "whole") 2364), (.str (Str.ofString "begun") 2365)]⟩ 0), ⟨[]⟩⟩
noncomputable def o181_p14 (P : Params) : Obj := ⟨(.type "tuple"), none, (.seq ⟨[]⟩ 0), ⟨[]⟩⟩
noncomputable def o182_p14 (P : Params) : Obj := ⟨.none, none, (.func { name := (Str.ofString "_law_ahead"), qualname := (Str.ofString "_law_ahead"), params := (pDef 14).1, body := .stmts (pDef 14).2.1, scope := (pDef 14).2.2, globals := 0, closure := [], defaults := .none, kwdefaults := .none, doc := .none, pyModule := .none, annotations := none, code := .none, closureTuple := .none, builtins := 0 }), ⟨[]⟩⟩
noncomputable def o183_p14 (P : Params) : Obj := ⟨(.type "code"), none, (.fields ⟨[(.str (Str.ofString "_law_ahead") 2357), (.str (Str.ofString "_law_ahead") 2358), (.str (Str.ofString "/claim/cut.py") 2359), (.int 88 0), (.int 3 0), (.int 0 0), (.int 0 0), (.int 3 0), (.ref 178), (.bool true), (.int 181 0), (.ref 179), .none, (.ref 180), (.ref 181), (.ref 182), (.int 2366 0), (.int 88 0), (.str (Str.ofString "/claim/cut.py") 2367)]⟩), ⟨[]⟩⟩
noncomputable def o184_p14 (P : Params) : Obj := ⟨(.type "function"), none, (.func { name := (Str.ofString "_law_ahead"), qualname := (Str.ofString "_law_ahead"), params := (pDef 14).1, body := .stmts (pDef 14).2.1, scope := (pDef 14).2.2, globals := 3, closure := [], defaults := .none, kwdefaults := .none, doc := .none, pyModule := (.str (Str.ofString "law_rl0123_01") 2327), annotations := none, code := (.ref 183), closureTuple := .none, builtins := 0 }), ⟨[]⟩⟩
noncomputable def t_p14 (X : Nat → Obj) (P : Params) : BT := (.node (boot_o_0 P) (.node (boot_o_1 P) (.node (o3_p14 P) (.node (boot_o_7 P) (.node (o15_p0 P) (.node (o31_p4 P) (.node (X 63) (.node (o127_p9 P) .nil .nil) .nil) (.node (o95_p9 P) (.node (o159_p11 P) .nil .nil) .nil)) (.node (X 47) (.node (X 79) (.node (o143_p9 P) .nil .nil) .nil) (.node (o111_p9 P) (.node (o175_p13 P) .nil .nil) .nil))) (.node (o23_p2 P) (.node (o39_p4 P) (.node (X 71) (.node (o135_p9 P) .nil .nil) .nil) (.node (o103_p9 P) (.node (o167_p12 P) .nil .nil) .nil)) (.node (X 55) (.node (o87_p7 P) (.node (o151_p9 P) .nil .nil) .nil) (.node (o119_p9 P) (.node (o183_p14 P) .nil .nil) .nil)))) (.node (o11_pre P) (.node (o19_p0 P) (.node (o35_p4 P) (.node (X 67) (.node (o131_p9 P) .nil .nil) .nil) (.node (o99_p9 P) (.node (o163_p11 P) .nil .nil) .nil)) (.node (X 51) (.node (X 83) (.node (o147_p9 P) .nil .nil) .nil) (.node (o115_p9 P) (.node (o179_p14 P) .nil .nil) .nil))) (.node (o27_p2 P) (.node (o43_p5 P) (.node (X 75) (.node (o139_p9 P) .nil .nil) .nil) (.node (o107_p9 P) (.node (o171_p12 P) .nil .nil) .nil)) (.node (X 59) (.node (o91_p7 P) (.node (o155_p9 P) .nil .nil) .nil) (.node (o123_p9 P) .nil .nil))))) (.node (boot_o_5 P) (.node (boot_o_9 P) (.node (o17_p0 P) (.node (o33_p4 P) (.node (X 65) (.node (o129_p9 P) .nil .nil) .nil) (.node (o97_p9 P) (.node (o161_p11 P) .nil .nil) .nil)) (.node (X 49) (.node (X 81) (.node (o145_p9 P) .nil .nil) .nil) (.node (o113_p9 P) (.node (o177_p13 P) .nil .nil) .nil))) (.node (o25_p2 P) (.node (o41_p5 P) (.node (X 73) (.node (o137_p9 P) .nil .nil) .nil) (.node (o105_p9 P) (.node (o169_p12 P) .nil .nil) .nil)) (.node (X 57) (.node (o89_p7 P) (.node (o153_p9 P) .nil .nil) .nil) (.node (o121_p9 P) .nil .nil)))) (.node (o13_pre P) (.node (o21_p0 P) (.node (o37_p4 P) (.node (X 69) (.node (o133_p9 P) .nil .nil) .nil) (.node (o101_p9 P) (.node (o165_p11 P) .nil .nil) .nil)) (.node (X 53) (.node (X 85) (.node (o149_p9 P) .nil .nil) .nil) (.node (o117_p9 P) (.node (o181_p14 P) .nil .nil) .nil))) (.node (o29_p4 P) (.node (o45_p5 P) (.node (X 77) (.node (o141_p9 P) .nil .nil) .nil) (.node (o109_p9 P) (.node (o173_p13 P) .nil .nil) .nil)) (.node (X 61) (.node (o93_p9 P) (.node (o157_p9 P) .nil .nil) .nil) (.node (o125_p9 P) .nil .nil)))))) (.node (boot_o_2 P) (.node (boot_o_4 P) (.node (boot_o_8 P) (.node (o16_p0 P) (.node (o32_p4 P) (.node (X 64) (.node (o128_p9 P) .nil .nil) .nil) (.node (o96_p9 P) (.node (o160_p11 P) .nil .nil) .nil)) (.node (X 48) (.node (X 80) (.node (o144_p9 P) .nil .nil) .nil) (.node (o112_p9 P) (.node (o176_p13 P) .nil .nil) .nil))) (.node (o24_p2 P) (.node (o40_p5 P) (.node (X 72) (.node (o136_p9 P) .nil .nil) .nil) (.node (o104_p9 P) (.node (o168_p12 P) .nil .nil) .nil)) (.node (X 56) (.node (o88_p7 P) (.node (o152_p9 P) .nil .nil) .nil) (.node (o120_p9 P) (.node (o184_p14 P) .nil .nil) .nil)))) (.node (o12_p14 P) (.node (o20_p0 P) (.node (o36_p4 P) (.node (X 68) (.node (o132_p9 P) .nil .nil) .nil) (.node (o100_p9 P) (.node (o164_p11 P) .nil .nil) .nil)) (.node (X 52) (.node (X 84) (.node (o148_p9 P) .nil .nil) .nil) (.node (o116_p9 P) (.node (o180_p14 P) .nil .nil) .nil))) (.node (o28_p2 P) (.node (o44_p5 P) (.node (X 76) (.node (o140_p9 P) .nil .nil) .nil) (.node (o108_p9 P) (.node (o172_p12 P) .nil .nil) .nil)) (.node (X 60) (.node (o92_p7 P) (.node (o156_p9 P) .nil .nil) .nil) (.node (o124_p9 P) .nil .nil))))) (.node (boot_o_6 P) (.node (boot_o_10 P) (.node (o18_p0 P) (.node (o34_p4 P) (.node (X 66) (.node (o130_p9 P) .nil .nil) .nil) (.node (o98_p9 P) (.node (o162_p11 P) .nil .nil) .nil)) (.node (X 50) (.node (X 82) (.node (o146_p9 P) .nil .nil) .nil) (.node (o114_p9 P) (.node (o178_p14 P) .nil .nil) .nil))) (.node (o26_p2 P) (.node (o42_p5 P) (.node (X 74) (.node (o138_p9 P) .nil .nil) .nil) (.node (o106_p9 P) (.node (o170_p12 P) .nil .nil) .nil)) (.node (X 58) (.node (o90_p7 P) (.node (o154_p9 P) .nil .nil) .nil) (.node (o122_p9 P) .nil .nil)))) (.node (o14_pre P) (.node (o22_p2 P) (.node (o38_p4 P) (.node (X 70) (.node (o134_p9 P) .nil .nil) .nil) (.node (o102_p9 P) (.node (o166_p12 P) .nil .nil) .nil)) (.node (X 54) (.node (o86_p7 P) (.node (o150_p9 P) .nil .nil) .nil) (.node (o118_p9 P) (.node (o182_p14 P) .nil .nil) .nil))) (.node (o30_p4 P) (.node (o46_p5 P) (.node (X 78) (.node (o142_p9 P) .nil .nil) .nil) (.node (o110_p9 P) (.node (o174_p13 P) .nil .nil) .nil)) (.node (X 62) (.node (o94_p9 P) (.node (o158_p9 P) .nil .nil) .nil) (.node (o126_p9 P) .nil .nil)))))))
noncomputable def s_p14 (X : Nat → Obj) (L : Life) (w : World) (os : OsState) : SharedT := ⟨t_p14 X w.params, 185, L, #[], boot_drawn, 2369, os⟩
noncomputable def o3_p15 (P : Params) : Obj := ⟨(.type "dict"), none, (.dict ⟨[⟨PyData.keyHash P (Str.ofString "__name__"), (.str (Str.ofString "__name__") 165), (.str (Str.ofString "law_rl0123_01") 2327)⟩, ⟨PyData.keyHash P (Str.ofString "__doc__"), (.str (Str.ofString "__doc__") 166), .none⟩, ⟨PyData.keyHash P (Str.ofString "__package__"), (.str (Str.ofString "__package__") 167), .none⟩, ⟨PyData.keyHash P (Str.ofString "__loader__"), (.str (Str.ofString "__loader__") 168), (.builtin "__main__.__loader__#opaque")⟩, ⟨PyData.keyHash P (Str.ofString "__spec__"), (.str (Str.ofString "__spec__") 169), .none⟩, ⟨PyData.keyHash P (Str.ofString "__annotations__"), (.str (Str.ofString "__annotations__") 170), (.ref 6)⟩, ⟨PyData.keyHash P (Str.ofString "__builtins__"), (.str (Str.ofString "__builtins__") 171), (.ref 4)⟩, ⟨PyData.keyHash P (Str.ofString "__file__"), (.str (Str.ofString "__file__") 173), (.str (Str.ofString "/claim/cut.py") 172)⟩, ⟨PyData.keyHash P (Str.ofString "__cached__"), (.str (Str.ofString "__cached__") 174), .none⟩, ⟨PyData.keyHash P (Str.ofString "_wall"), (.str (Str.ofString "_wall") 193), (.ref 21)⟩, ⟨PyData.keyHash P (Str.ofString "_parse_varint"), (.str (Str.ofString "_parse_varint") 204), (.ref 28)⟩, ⟨PyData.keyHash P (Str.ofString "b1_set"), (.str (Str.ofString "b1_set") 266), (.ref 36)⟩, ⟨PyData.keyHash P (Str.ofString "in_table_b1"), (.str (Str.ofString "in_table_b1") 273), (.ref 46)⟩, ⟨PyData.keyHash P (Str.ofString "b3_exceptions"), (.str (Str.ofString "b3_exceptions") 2224), (.ref 47)⟩, ⟨PyData.keyHash P (Str.ofString "map_table_b3"), (.str (Str.ofString "map_table_b3") 2232), (.ref 92)⟩, ⟨PyData.keyHash P (Str.ofString "Whitespace"), (.str (Str.ofString "Whitespace") 2326), (.ref 154)⟩, ⟨PyData.keyHash P (Str.ofString "_law_sign"), (.str (Str.ofString "_law_sign") 2340), (.ref 165)⟩, ⟨PyData.keyHash P (Str.ofString "_law_prepared"), (.str (Str.ofString "_law_prepared") 2350), (.ref 172)⟩, ⟨PyData.keyHash P (Str.ofString "_law_indent"), (.str (Str.ofString "_law_indent") 2356), (.ref 177)⟩, ⟨PyData.keyHash P (Str.ofString "_law_ahead"), (.str (Str.ofString "_law_ahead") 2368), (.ref 184)⟩, ⟨PyData.keyHash P (Str.ofString "law"), (.str (Str.ofString "law") 2374), (.ref 189)⟩]⟩ 21), ⟨[]⟩⟩
noncomputable def o12_p15 (P : Params) : Obj := ⟨.none, none, (.fields ⟨[(.int 1 0), (.int 0 0), (.ref 20), (.int 5 0), (.int 0 0), (.ref 27), (.int 15 0), (.int 0 0), (.ref 45), (.int 18 0), (.int 0 0), (.ref 91), (.int 24 0), (.int 0 0), (.ref 98), (.int 68 0), (.int 0 0), (.ref 164), (.int 77 0), (.int 0 0), (.ref 171), (.int 86 0), (.int 0 0), (.ref 176), (.int 88 0), (.int 0 0), (.ref 183), (.int 93 0), (.int 0 0), (.ref 188)]⟩), ⟨[]⟩⟩
noncomputable def o185_p15 (P : Params) : Obj := ⟨(.type "tuple"), none, (.seq ⟨[]⟩ 0), ⟨[]⟩⟩
noncomputable def o186_p15 (P : Params) : Obj := ⟨.none, none, (.fields ⟨[]⟩), ⟨[]⟩⟩
noncomputable def o187_p15 (P : Params) : Obj := ⟨.none, none, (.func { name := (Str.ofString "law"), qualname := (Str.ofString "law"), params := (pDef 15).1, body := .stmts (pDef 15).2.1, scope := (pDef 15).2.2, globals := 0, closure := [], defaults := .none, kwdefaults := .none, doc := .none, pyModule := .none, annotations := none, code := .none, closureTuple := .none, builtins := 0 }), ⟨[]⟩⟩
noncomputable def o188_p15 (P : Params) : Obj := ⟨(.type "code"), none, (.fields ⟨[(.str (Str.ofString "law") 2369), (.str (Str.ofString "law") 2370), (.str (Str.ofString "/claim/cut.py") 2371), (.int 93 0), (.int 1 0), (.int 0 0), (.int 0 0), (.int 3 0), (.ref 185), (.bool true), (.int 181 0), (.ref 186), .none, .none, .none, (.ref 187), (.int 2372 0), (.int 93 0), (.str (Str.ofString "/claim/cut.py") 2373)]⟩), ⟨[]⟩⟩
noncomputable def o189_p15 (P : Params) : Obj := ⟨(.type "function"), none, (.func { name := (Str.ofString "law"), qualname := (Str.ofString "law"), params := (pDef 15).1, body := .stmts (pDef 15).2.1, scope := (pDef 15).2.2, globals := 3, closure := [], defaults := .none, kwdefaults := .none, doc := .none, pyModule := (.str (Str.ofString "law_rl0123_01") 2327), annotations := none, code := (.ref 188), closureTuple := .none, builtins := 0 }), ⟨[]⟩⟩
noncomputable def t_p15 (X : Nat → Obj) (P : Params) : BT := (.node (boot_o_0 P) (.node (boot_o_1 P) (.node (o3_p15 P) (.node (boot_o_7 P) (.node (o15_p0 P) (.node (o31_p4 P) (.node (X 63) (.node (o127_p9 P) .nil .nil) .nil) (.node (o95_p9 P) (.node (o159_p11 P) .nil .nil) .nil)) (.node (X 47) (.node (X 79) (.node (o143_p9 P) .nil .nil) .nil) (.node (o111_p9 P) (.node (o175_p13 P) .nil .nil) .nil))) (.node (o23_p2 P) (.node (o39_p4 P) (.node (X 71) (.node (o135_p9 P) .nil .nil) .nil) (.node (o103_p9 P) (.node (o167_p12 P) .nil .nil) .nil)) (.node (X 55) (.node (o87_p7 P) (.node (o151_p9 P) .nil .nil) .nil) (.node (o119_p9 P) (.node (o183_p14 P) .nil .nil) .nil)))) (.node (o11_pre P) (.node (o19_p0 P) (.node (o35_p4 P) (.node (X 67) (.node (o131_p9 P) .nil .nil) .nil) (.node (o99_p9 P) (.node (o163_p11 P) .nil .nil) .nil)) (.node (X 51) (.node (X 83) (.node (o147_p9 P) .nil .nil) .nil) (.node (o115_p9 P) (.node (o179_p14 P) .nil .nil) .nil))) (.node (o27_p2 P) (.node (o43_p5 P) (.node (X 75) (.node (o139_p9 P) .nil .nil) .nil) (.node (o107_p9 P) (.node (o171_p12 P) .nil .nil) .nil)) (.node (X 59) (.node (o91_p7 P) (.node (o155_p9 P) .nil .nil) .nil) (.node (o123_p9 P) (.node (o187_p15 P) .nil .nil) .nil))))) (.node (boot_o_5 P) (.node (boot_o_9 P) (.node (o17_p0 P) (.node (o33_p4 P) (.node (X 65) (.node (o129_p9 P) .nil .nil) .nil) (.node (o97_p9 P) (.node (o161_p11 P) .nil .nil) .nil)) (.node (X 49) (.node (X 81) (.node (o145_p9 P) .nil .nil) .nil) (.node (o113_p9 P) (.node (o177_p13 P) .nil .nil) .nil))) (.node (o25_p2 P) (.node (o41_p5 P) (.node (X 73) (.node (o137_p9 P) .nil .nil) .nil) (.node (o105_p9 P) (.node (o169_p12 P) .nil .nil) .nil)) (.node (X 57) (.node (o89_p7 P) (.node (o153_p9 P) .nil .nil) .nil) (.node (o121_p9 P) (.node (o185_p15 P) .nil .nil) .nil)))) (.node (o13_pre P) (.node (o21_p0 P) (.node (o37_p4 P) (.node (X 69) (.node (o133_p9 P) .nil .nil) .nil) (.node (o101_p9 P) (.node (o165_p11 P) .nil .nil) .nil)) (.node (X 53) (.node (X 85) (.node (o149_p9 P) .nil .nil) .nil) (.node (o117_p9 P) (.node (o181_p14 P) .nil .nil) .nil))) (.node (o29_p4 P) (.node (o45_p5 P) (.node (X 77) (.node (o141_p9 P) .nil .nil) .nil) (.node (o109_p9 P) (.node (o173_p13 P) .nil .nil) .nil)) (.node (X 61) (.node (o93_p9 P) (.node (o157_p9 P) .nil .nil) .nil) (.node (o125_p9 P) (.node (o189_p15 P) .nil .nil) .nil)))))) (.node (boot_o_2 P) (.node (boot_o_4 P) (.node (boot_o_8 P) (.node (o16_p0 P) (.node (o32_p4 P) (.node (X 64) (.node (o128_p9 P) .nil .nil) .nil) (.node (o96_p9 P) (.node (o160_p11 P) .nil .nil) .nil)) (.node (X 48) (.node (X 80) (.node (o144_p9 P) .nil .nil) .nil) (.node (o112_p9 P) (.node (o176_p13 P) .nil .nil) .nil))) (.node (o24_p2 P) (.node (o40_p5 P) (.node (X 72) (.node (o136_p9 P) .nil .nil) .nil) (.node (o104_p9 P) (.node (o168_p12 P) .nil .nil) .nil)) (.node (X 56) (.node (o88_p7 P) (.node (o152_p9 P) .nil .nil) .nil) (.node (o120_p9 P) (.node (o184_p14 P) .nil .nil) .nil)))) (.node (o12_p15 P) (.node (o20_p0 P) (.node (o36_p4 P) (.node (X 68) (.node (o132_p9 P) .nil .nil) .nil) (.node (o100_p9 P) (.node (o164_p11 P) .nil .nil) .nil)) (.node (X 52) (.node (X 84) (.node (o148_p9 P) .nil .nil) .nil) (.node (o116_p9 P) (.node (o180_p14 P) .nil .nil) .nil))) (.node (o28_p2 P) (.node (o44_p5 P) (.node (X 76) (.node (o140_p9 P) .nil .nil) .nil) (.node (o108_p9 P) (.node (o172_p12 P) .nil .nil) .nil)) (.node (X 60) (.node (o92_p7 P) (.node (o156_p9 P) .nil .nil) .nil) (.node (o124_p9 P) (.node (o188_p15 P) .nil .nil) .nil))))) (.node (boot_o_6 P) (.node (boot_o_10 P) (.node (o18_p0 P) (.node (o34_p4 P) (.node (X 66) (.node (o130_p9 P) .nil .nil) .nil) (.node (o98_p9 P) (.node (o162_p11 P) .nil .nil) .nil)) (.node (X 50) (.node (X 82) (.node (o146_p9 P) .nil .nil) .nil) (.node (o114_p9 P) (.node (o178_p14 P) .nil .nil) .nil))) (.node (o26_p2 P) (.node (o42_p5 P) (.node (X 74) (.node (o138_p9 P) .nil .nil) .nil) (.node (o106_p9 P) (.node (o170_p12 P) .nil .nil) .nil)) (.node (X 58) (.node (o90_p7 P) (.node (o154_p9 P) .nil .nil) .nil) (.node (o122_p9 P) (.node (o186_p15 P) .nil .nil) .nil)))) (.node (o14_pre P) (.node (o22_p2 P) (.node (o38_p4 P) (.node (X 70) (.node (o134_p9 P) .nil .nil) .nil) (.node (o102_p9 P) (.node (o166_p12 P) .nil .nil) .nil)) (.node (X 54) (.node (o86_p7 P) (.node (o150_p9 P) .nil .nil) .nil) (.node (o118_p9 P) (.node (o182_p14 P) .nil .nil) .nil))) (.node (o30_p4 P) (.node (o46_p5 P) (.node (X 78) (.node (o142_p9 P) .nil .nil) .nil) (.node (o110_p9 P) (.node (o174_p13 P) .nil .nil) .nil)) (.node (X 62) (.node (o94_p9 P) (.node (o158_p9 P) .nil .nil) .nil) (.node (o126_p9 P) .nil .nil)))))))
noncomputable def s_p15 (X : Nat → Obj) (L : Life) (w : World) (os : OsState) : SharedT := ⟨t_p15 X w.params, 190, L, #[], boot_drawn, 2375, os⟩
end Mine
end

-- part HeadR
section
set_option maxRecDepth 100000
set_option maxHeartbeats 0
namespace Mine
open PySem PySem.W PySem.Calls PyProof.Rows
def Γ0 : Ctx := ⟨.builtin "claim.caller" {}, none, none, [], none⟩
def env0 : Env := { scope := pw.main.scope, locals := mainNs, globals := mainNs, cells := [], code := .ref 13, frame := some 14 }
def bodyC : Code := .body (behindTheImports pw) env0
def Γ1 (q : Pos) : Ctx := Γ0.enter bodyC none q
@[irreducible] def st (i : Nat) : Stmt := (pw.main.body[i]?).getD (.Pass default)

theorem pre_run (w : World) (os : OsState) (q : Pos) : evA (evC (denote treeTable) pw w 100) pw w Γ0 (do let code ← moduleCode pw.main; let frame ← newBodyFrame code mainNs mainNs; pure (code, frame)) q (s_s0 w os) = some (.ok (.ref 13, 14), q, s_pre w os) := by
  kernel_rfl
theorem p0_run (w : World) (os : OsState) (q q' : Pos) : evA (evC (denote treeTable) pw w 100) pw w (Γ1 q) (execs [st 0] env0) q' (s_pre w os) = some (.ok .next, ⟨1, 0, 3, 12⟩, s_p0 w os) := by
  kernel_rfl
theorem p1_run (w : World) (os : OsState) (q q' : Pos) : evA (evC (denote treeTable) pw w 100) pw w (Γ1 q) (execs [st 1] env0) q' (s_p0 w os) = some (.ok .next, ⟨4, 0, 4, 8⟩, s_p1 w os) := by
  kernel_rfl
theorem p2_run (w : World) (os : OsState) (q q' : Pos) : evA (evC (denote treeTable) pw w 100) pw w (Γ1 q) (execs [st 2] env0) q' (s_p1 w os) = some (.ok .next, ⟨5, 0, 12, 14⟩, s_p2 w os) := by
  kernel_rfl
theorem p3_run (w : World) (os : OsState) (q q' : Pos) : evA (evC (denote treeTable) pw w 100) pw w (Γ1 q) (execs [st 3] env0) q' (s_p2 w os) = some (.ok .next, ⟨13, 0, 13, 8⟩, s_p3 w os) := by
  kernel_rfl
theorem p4_run0 (w : World) (b0 : Bool) (b1 : Bool) (os : OsState) (q q' : Pos) : evA (evC (denote treeTable) pw ((w.withFollow "set-order" b0).withFollow "special-get-raises" b1) 100) pw ((w.withFollow "set-order" b0).withFollow "special-get-raises" b1) (Γ1 q) (execs [st 4] env0) q' (s_p3 ((w.withFollow "set-order" b0).withFollow "special-get-raises" b1) os) = some (.ok .next, ⟨14, 0, 14, 6⟩, s_p4 ((w.withFollow "set-order" b0).withFollow "special-get-raises" b1) os) := by
  cases b0 <;> cases b1 <;> (rw [PySem.W.Fast.te11892475500146522536, PySem.W.Fast.te14364793385576792824, PySem.W.Fast.te12563942051412417395]; kernel_rfl)
theorem p4_run (w : World) (os : OsState) (q q' : Pos) : evA (evC (denote treeTable) pw w 100) pw w (Γ1 q) (execs [st 4] env0) q' (s_p3 w os) = some (.ok .next, ⟨14, 0, 14, 6⟩, s_p4 w os) := by
  have h := p4_run0 w (w.params.followText "set-order") (w.params.followText "special-get-raises") os q q'
  rwa [World.withFollow_self, World.withFollow_self] at h
theorem p5_run (w : World) (os : OsState) (q q' : Pos) : evA (evC (denote treeTable) pw w 100) pw w (Γ1 q) (execs [st 5] env0) q' (s_p4 w os) = some (.ok .next, ⟨15, 0, 16, 30⟩, s_p5 w os) := by
  kernel_rfl
theorem p7_run (X : Nat → Obj) (L : Life) (w : World) (os : OsState) (q q' : Pos) : evA (evC (denote treeTable) pw w 100) pw w (Γ1 q) (execs [st 7] env0) q' (s_p6 X L w os) = some (.ok .next, ⟨18, 0, 22, 23⟩, s_p7 X L w os) := by
  kernel_rfl
theorem p8_run (X : Nat → Obj) (L : Life) (w : World) (os : OsState) (q q' : Pos) : evA (evC (denote treeTable) pw w 100) pw w (Γ1 q) (execs [st 8] env0) q' (s_p7 X L w os) = some (.ok .next, ⟨23, 0, 23, 8⟩, s_p8 X L w os) := by
  kernel_rfl
theorem p9_run0 (X : Nat → Obj) (L : Life) (w : World) (b0 : Bool) (os : OsState) (q q' : Pos) : evA (evC (denote treeTable) pw (w.withFollow "special-get-raises" b0) 100) pw (w.withFollow "special-get-raises" b0) (Γ1 q) (execs [st 9] env0) q' (s_p8 X L (w.withFollow "special-get-raises" b0) os) = some (.ok .next, ⟨24, 0, 66, 16⟩, s_p9 X L (w.withFollow "special-get-raises" b0) os) := by
  cases b0 <;> kernel_rfl
theorem p9_run (X : Nat → Obj) (L : Life) (w : World) (os : OsState) (q q' : Pos) : evA (evC (denote treeTable) pw w 100) pw w (Γ1 q) (execs [st 9] env0) q' (s_p8 X L w os) = some (.ok .next, ⟨24, 0, 66, 16⟩, s_p9 X L w os) := by
  have h := p9_run0 X L w (w.params.followText "special-get-raises") os q q'
  rwa [World.withFollow_self] at h
theorem p10_run (X : Nat → Obj) (L : Life) (w : World) (os : OsState) (q q' : Pos) : evA (evC (denote treeTable) pw w 100) pw w (Γ1 q) (execs [st 10] env0) q' (s_p9 X L w os) = some (.ok .next, ⟨67, 0, 67, 8⟩, s_p10 X L w os) := by
  kernel_rfl
theorem p11_run (X : Nat → Obj) (L : Life) (w : World) (os : OsState) (q q' : Pos) : evA (evC (denote treeTable) pw w 100) pw w (Γ1 q) (execs [st 11] env0) q' (s_p10 X L w os) = some (.ok .next, ⟨68, 0, 76, 29⟩, s_p11 X L w os) := by
  kernel_rfl
theorem p12_run (X : Nat → Obj) (L : Life) (w : World) (os : OsState) (q q' : Pos) : evA (evC (denote treeTable) pw w 100) pw w (Γ1 q) (execs [st 12] env0) q' (s_p11 X L w os) = some (.ok .next, ⟨77, 0, 85, 15⟩, s_p12 X L w os) := by
  kernel_rfl
theorem p13_run (X : Nat → Obj) (L : Life) (w : World) (os : OsState) (q q' : Pos) : evA (evC (denote treeTable) pw w 100) pw w (Γ1 q) (execs [st 13] env0) q' (s_p12 X L w os) = some (.ok .next, ⟨86, 0, 87, 76⟩, s_p13 X L w os) := by
  kernel_rfl
theorem p14_run (X : Nat → Obj) (L : Life) (w : World) (os : OsState) (q q' : Pos) : evA (evC (denote treeTable) pw w 100) pw w (Γ1 q) (execs [st 14] env0) q' (s_p13 X L w os) = some (.ok .next, ⟨88, 0, 92, 56⟩, s_p14 X L w os) := by
  kernel_rfl
theorem p15_run (X : Nat → Obj) (L : Life) (w : World) (os : OsState) (q q' : Pos) : evA (evC (denote treeTable) pw w 100) pw w (Γ1 q) (execs [st 15] env0) q' (s_p14 X L w os) = some (.ok .next, ⟨93, 0, 147, 15⟩, s_p15 X L w os) := by
  kernel_rfl
end Mine
end

-- part HeadD
section
namespace Mine
open PySem PySem.W PySem.Calls PyProof.Rows
section
variable {prog : Program} {w : World} {A : Around} {E : Value → Shared → Prop} {s : Shared}

theorem dictSet_new {d : Addr} {kvs : List (Int × Value)} {k : Int} {t : Tok} {v : Value} {Q : Unit → Shared → Prop} (hm : s.heap.DictOf (intKind prog w) d kvs) (hn : k ∉ kvs.map (·.1)) (hsz : kvs.length ≤ sizeLine)
    (hQ : ∀ h', h'.DictOf (intKind prog w) d (kvs ++ [(k, v)]) → Heap.SameBut d s.heap h' → Q () { s with heap := h', toks := s.toks + 1 }) :
    wpAny (model prog w) A (dictSet d (.int k t) v) Q E s := by
  have hs : stored kvs k v = kvs ++ [(k, v)] := by
    unfold stored
    rw [if_neg]
    rw [List.any_eq_true]; rintro ⟨kv, hkv, he⟩
    exact hn (List.mem_map.mpr ⟨kv, hkv, of_decide_eq_true he⟩)
  have hk : (intKind prog w).is k (.int k t) = true := by show Value.isInt k (.int k t) = true; simp [Value.isInt]
  unfold dictSet
  refine wpAny_holding (wpAny_bind ((intKind prog w).pyHash hk ?_))
  refine wpAny_dictSetHashed_pairs (s := { s with toks := s.toks + 1 }) hk hm (fun h' a b => ?_) hsz
  rw [hs] at a
  exact hQ h' a b

theorem dictPut_new {d : Addr} {kvs : List (Int × Value)} {k : Int} {t : Tok} {v : Value} {Q : Unit → Shared → Prop} (hm : s.heap.DictOf (intKind prog w) d kvs) (hn : k ∉ kvs.map (·.1)) (hsz : kvs.length ≤ sizeLine)
    (hQ : ∀ h', h'.DictOf (intKind prog w) d (kvs ++ [(k, v)]) → Heap.SameBut d s.heap h' → Q () { s with heap := h' }) :
    wpAny (model prog w) A (dictPut d ((intKind prog w).hash k) (.int k t) v) Q E s := by
  have hk : (intKind prog w).is k (.int k t) = true := by show Value.isInt k (.int k t) = true; simp [Value.isInt]
  obtain ⟨o, es, ep, ho, hc, hd, hke, hp, hnd⟩ := hm
  have hes : es.size ≤ sizeLine := by have e1 := hp.length; have e2 : es.toList.length = es.size := by simp
                                      omega
  unfold dictPut
  refine wpAny_bind (wpAny_dictFind_of hk ho hd hke ?_)
  have hidx : (es.findIdx? fun e => (intKind prog w).is k e.key) = kvs.findIdx? fun kv => decide (kv.1 = k) := by
    rw [← hp.findIdx k]; obtain ⟨l⟩ := es; simp
  cases hi : es.findIdx? fun e => (intKind prog w).is k e.key with
  | some i =>
    have := any_of_findIdx_some (hidx ▸ hi)
    rw [List.any_eq_true] at this
    obtain ⟨kv, hkv, he⟩ := this
    exact absurd (List.mem_map.mpr ⟨kv, hkv, of_decide_eq_true he⟩) hn
  | none =>
    refine wpAny_updateDictKeys (hz := hes) ho hd (hQ _ ⟨_, _, ep + 1, Heap.get?_update_self _ ho (Obj.isFreed_of_dict (Obj.data_mapDictKeys hd _)),
      hc.mapDictKeys _, Obj.data_mapDictKeys hd _, hke.push hk _, ?_, ?_⟩ (Heap.SameBut.update ..))
    · have := hp.append hk ((intKind prog w).hash k) v
      obtain ⟨l⟩ := es
      simpa using this
    · rw [List.map_append, List.nodup_append]
      refine ⟨hnd, by simp, ?_⟩
      intro a ha b hb
      simp only [List.map_cons, List.map_nil, List.mem_singleton] at hb
      subst hb
      exact fun e => hn (e ▸ ha)

def vtext : Value → Option Str
  | .str x _ => some x
  | _ => none
/-- a table of texts under ints, as a dict's pairs bear it -/
def Tab (tbl : List (Int × Str)) (kvs : List (Int × Value)) : Prop := kvs.map (fun kv => (kv.1, vtext kv.2)) = tbl.map (fun a => (a.1, some a.2))
theorem Tab.keys {tbl : List (Int × Str)} {kvs : List (Int × Value)} (h : Tab tbl kvs) : kvs.map (·.1) = tbl.map (·.1) := by
  have := congrArg (List.map (·.1)) h
  simpa [List.map_map, Function.comp_def] using this
theorem Tab.length {tbl : List (Int × Str)} {kvs : List (Int × Value)} (h : Tab tbl kvs) : kvs.length = tbl.length := by
  have := congrArg List.length h
  simpa using this
theorem Tab.nil : Tab [] [] := rfl
theorem Tab.append {t1 t2 : List (Int × Str)} {k1 k2 : List (Int × Value)} (h1 : Tab t1 k1) (h2 : Tab t2 k2) : Tab (t1 ++ t2) (k1 ++ k2) := by
  unfold Tab at *
  rw [List.map_append, List.map_append, h1, h2]
theorem Tab.one (k : Int) (x : Str) (t : Tok) : Tab [(k, x)] [(k, .str x t)] := rfl
def mkPair (pos : Pos) (a : Int × Str) : Sem Value × Sem Value := (mkInt a.1, do let x ← mkText a.2; standAt pos; pure x)

theorem fresh_key {pre post : List (Int × Str)} {k : Int} {x : Str} (h : ((pre ++ (k, x) :: post).map (·.1)).Nodup) : k ∉ pre.map (·.1) := by
  rw [List.map_append, List.map_cons, List.nodup_append] at h
  intro hm
  exact h.2.2 k hm k (by simp) rfl

theorem storeLoop {d : Addr} {pos : Pos} : ∀ (rest pre : List (Int × Str)) (kvs : List (Int × Value)) (s : Shared) (Q : PUnit → Shared → Prop), ((pre ++ rest).map (·.1)).Nodup → pre.length + rest.length ≤ sizeLine → Tab pre kvs →
    s.heap.DictOf (intKind prog w) d kvs →
    (∀ h' kvs', h'.DictOf (intKind prog w) d kvs' → Tab (pre ++ rest) kvs' → Heap.SameBut d s.heap h' → Q ⟨⟩ { s with heap := h', toks := s.toks + 3 * rest.length }) →
    wpAny (model prog w) A (forIn (rest.map (mkPair pos)) PUnit.unit fun x (_ : PUnit) => (do
        let kv ← x.1
        let vv ← holding [kv] x.2
        holding [kv, vv] (dictSet d kv vv)
        pure (ForInStep.yield PUnit.unit) : Sem (ForInStep PUnit))) Q E s
  | [], pre, kvs, s, Q, hnd, hsz, ht, hd, hQ => by
    rw [List.map_nil, List.forIn_nil]
    exact wpAny_pure (hQ s.heap kvs hd (by simpa using ht) (Heap.SameBut.refl _ _))
  | (k, x) :: rest, pre, kvs, s, Q, hnd, hsz, ht, hd, hQ => by
    rw [List.map_cons, List.forIn_cons]
    refine wpAny_bind (wpAny_bind (wpAny_mkInt (wpAny_bind (wpAny_holding (wpAny_bind (wpAny_mkText (wpAny_bind (wpAny_standAt (wpAny_pure ?_)))))))))
    have hk : k ∉ kvs.map (·.1) := by rw [ht.keys]; exact fresh_key hnd
    refine wpAny_bind (wpAny_holding (dictSet_new hd hk (by have := ht.length; simp at hsz; omega) fun h' hd' hs' => wpAny_pure ?_))
    have ht' : Tab (pre ++ [(k, x)]) (kvs ++ [(k, .str x (s.toks + 1))]) := ht.append (Tab.one _ _ _)
    refine storeLoop rest (pre ++ [(k, x)]) _ _ Q (by simpa using hnd) (by simp at hsz ⊢; omega) ht' hd' fun h'' kvs' a b c => ?_
    have e : s.toks + 1 + 1 + 1 + 3 * rest.length = s.toks + 3 * ((k, x) :: rest).length := by rw [List.length_cons]; omega
    have := hQ h'' kvs' a (by simpa using b) (hs'.trans c)
    rw [← e] at this
    exact this

/-- the values of a run of pairs, before they are stored -/
def Vals (tbl : List (Int × Str)) (vs : List (Value × Value)) : Prop := ∃ ts : List (Tok × Tok), ts.length = tbl.length ∧ vs = (tbl.zip ts).map fun a => (.int a.1.1 a.2.1, .str a.1.2 a.2.2)
theorem evalPairs_of {pos : Pos} : ∀ (run : List (Int × Str)) (s : Shared) (Q : List (Value × Value) → Shared → Prop),
    (∀ vs, Vals run vs → Q vs { s with toks := s.toks + 2 * run.length }) → wpAny (model prog w) A (evalPairs (run.map (mkPair pos))) Q E s
  | [], s, Q, hQ => by rw [List.map_nil]; exact wpAny_pure (hQ [] ⟨[], rfl, rfl⟩)
  | (k, x) :: rest, s, Q, hQ => by
    rw [List.map_cons]
    unfold evalPairs
    refine wpAny_bind (wpAny_mkInt (wpAny_bind (wpAny_holding (wpAny_bind (wpAny_mkText (wpAny_bind (wpAny_standAt (wpAny_pure ?_))))))))
    refine wpAny_bind (wpAny_holding (evalPairs_of rest _ _ fun vs hv => wpAny_pure ?_))
    obtain ⟨ts, h1, rfl⟩ := hv
    have := hQ _ ⟨(s.toks, s.toks + 1) :: ts, by simp [h1], rfl⟩
    have e : s.toks + 2 * ((k, x) :: rest).length = s.toks + 1 + 1 + 2 * rest.length := by rw [List.length_cons]; omega
    rw [e] at this
    exact this

theorem storeVals {d : Addr} : ∀ (rest pre : List (Int × Str)) (ts : List (Tok × Tok)) (kvs : List (Int × Value)) (s : Shared) (Q : PUnit → Shared → Prop), ts.length = rest.length → ((pre ++ rest).map (·.1)).Nodup → pre.length + rest.length ≤ sizeLine → Tab pre kvs →
    s.heap.DictOf (intKind prog w) d kvs →
    (∀ h' kvs', h'.DictOf (intKind prog w) d kvs' → Tab (pre ++ rest) kvs' → Heap.SameBut d s.heap h' → Q ⟨⟩ { s with heap := h', toks := s.toks + rest.length }) →
    wpAny (model prog w) A (forIn ((rest.zip ts).map fun a => ((.int a.1.1 a.2.1 : Value), (.str a.1.2 a.2.2 : Value))) PUnit.unit fun x (_ : PUnit) => (do
        dictSet d x.1 x.2
        pure (ForInStep.yield PUnit.unit) : Sem (ForInStep PUnit))) Q E s
  | [], pre, ts, kvs, s, Q, hl, hnd, hsz, ht, hd, hQ => by
    rw [List.zip_nil_left, List.map_nil, List.forIn_nil]
    exact wpAny_pure (hQ s.heap kvs hd (by simpa using ht) (Heap.SameBut.refl _ _))
  | (k, x) :: rest, pre, [], kvs, s, Q, hl, hnd, hsz, ht, hd, hQ => by simp at hl
  | (k, x) :: rest, pre, (t, u) :: ts, kvs, s, Q, hl, hnd, hsz, ht, hd, hQ => by
    rw [List.zip_cons_cons, List.map_cons, List.forIn_cons]
    have hk : k ∉ kvs.map (·.1) := by rw [ht.keys]; exact fresh_key hnd
    refine wpAny_bind (wpAny_bind (dictSet_new hd hk (by have := ht.length; simp at hsz; omega) fun h' hd' hs' => wpAny_pure ?_))
    have ht' : Tab (pre ++ [(k, x)]) (kvs ++ [(k, .str x u)]) := ht.append (Tab.one _ _ _)
    refine storeVals rest (pre ++ [(k, x)]) ts _ _ Q (by simpa using hl) (by simpa using hnd) (by simp at hsz ⊢; omega) ht' hd' fun h'' kvs' a b c => ?_
    have e : s.toks + ((k, x) :: rest).length = s.toks + 1 + rest.length := by rw [List.length_cons]; omega
    have := hQ h'' kvs' a (by simpa using b) (hs'.trans c)
    rw [e] at this
    exact this

theorem dictOf_fresh {h : Heap} : (h.push { cls := .type "dict", data := .dict #[] }).DictOf (intKind prog w) h.objs.size [] :=
  ⟨_, #[], 0, Heap.get?_push_size _ rfl, ⟨rfl, rfl, rfl⟩, rfl, fun e he => by simp at he, .nil, by simp⟩

theorem subDict_new {run : List (Int × Str)} {pos : Pos} {Q : Addr → Shared → Prop} (hnd : (run.map (·.1)).Nodup) (hsz : run.length ≤ sizeLine)
    (hQ : ∀ h' kvs, h'.DictOf (intKind prog w) s.heap.objs.size kvs → Tab run kvs → h'.objs.size = s.heap.objs.size + 1 → (∀ b o, s.heap.get? b = some o → h'.get? b = some o) →
      Q s.heap.objs.size { s with heap := h', toks := s.toks + 3 * run.length }) :
    wpAny (model prog w) A (subDict (run.map (mkPair pos))) Q E s := by
  unfold subDict
  refine wpAny_bind (wpAny_alloc ?_)
  refine wpAny_bind (wpAny_holding ?_)
  have key : ∀ (h' : Heap) kvs', h'.DictOf (intKind prog w) s.heap.objs.size kvs' → Tab ([] ++ run) kvs' → Heap.SameBut s.heap.objs.size (s.heap.push { cls := .type "dict", data := .dict #[] }) h' →
      Q s.heap.objs.size { s with heap := h', toks := s.toks + 3 * run.length } := fun h' kvs' a b c => by
    refine hQ h' kvs' a (by simpa using b) (by rw [c.1, Heap.size_push]) fun b o e => ?_
    rw [c.2 b (Nat.ne_of_lt (Heap.lt_size e))]
    exact Heap.get?_push_of_some _ e
  split
  · refine wpAny_bind (evalPairs_of run _ _ fun vs hv => ?_)
    obtain ⟨ts, h1, rfl⟩ := hv
    refine wpAny_holding (wpAny_bind ?_)
    refine storeVals run [] ts [] _ _ h1 (by simpa using hnd) (by simpa using hsz) Tab.nil dictOf_fresh fun h' kvs' a b c => ?_
    refine wpAny_pure (wpAny_pure ?_)
    have := key h' kvs' a b c
    have e : s.toks + 3 * run.length = s.toks + 2 * run.length + run.length := by omega
    rw [e] at this
    exact this
  · refine wpAny_bind (wpAny_rule (wpAny_bind ?_))
    exact storeLoop run [] [] _ _ (by simpa using hnd) (by simpa using hsz) Tab.nil dictOf_fresh fun h' kvs' a b c => wpAny_pure (wpAny_pure (key h' kvs' a b c))

theorem sub_dict_dict : isSubtype (.type "dict") (.type "dict") = pure true := by kernel_rfl
theorem lk_dict_iter : typeLookup (.type "dict") "__iter__" = pure (some (.builtin "dict.__iter__")) := by rw [typeLookup_type, builtinLookup_eq_fast]; kernel_rfl

theorem merge_new {d a : Addr} {kvs more : List (Int × Value)} {Q : Unit → Shared → Prop} (hda : d ≠ a) (haS : (a == sysModules) = false) (hd : s.heap.DictOf (intKind prog w) d kvs) (ha : s.heap.DictOf (intKind prog w) a more)
    (hne : kvs ≠ []) (hnd : ((kvs ++ more).map (·.1)).Nodup) (hsz : kvs.length + more.length ≤ sizeLine)
    (hQ : ∀ h', h'.DictOf (intKind prog w) d (kvs ++ more) → Heap.SameBut d s.heap h' → Q () { s with heap := h' }) :
    wpAny (model prog w) A (mergeMapping d (.ref a) false) Q E s := by
  obtain ⟨od, esd, epd, hod, hcd, hdd, hkd, hpd, hndd⟩ := id hd
  obtain ⟨oa, esa, epa, hoa, hca, hda', hka, hpa, hnda⟩ := id ha
  have hlen : more.length = esa.size := by rw [← hpa.length]; simp
  unfold mergeMapping
  have hT : s.TypeIs (.ref a) "dict" := ⟨oa, hoa, hca.1⟩
  refine wpAny_bind (wpAny_isInstance hT sub_dict_dict ?_)
  dsimp only
  rw [if_pos rfl]
  refine wpAny_bind (wpAny_specialOf hT lk_dict_iter (wpAny_bind (wpAny_pure ?_)))
  rw [show ((some (Value.builtin "dict.__iter__") == some (Value.builtin "dict.__iter__"))) = true from by decide]
  dsimp only
  rw [if_neg (by rw [haS]; exact Bool.false_ne_true)]
  refine wpAny_bind (wpAny_dictEntries hod hdd ?_)
  have hem : esd.isEmpty = false := by
    cases h : esd.isEmpty with
    | false => rfl
    | true =>
      have h0 : esd = #[] := Array.isEmpty_iff.mp h
      have := hpd.length; rw [h0] at this
      exact absurd (List.length_eq_zero_iff.mp (by simpa using this.symm)) hne
  rw [hem, if_neg Bool.false_ne_true]
  refine wpAny_bind (wpAny_dictEntries hoa hda' ?_)
  refine wpAny_bind (wpAny_dictEpoch hoa hda' ?_)
  refine wpAny_bind (wpAny_forIn_list _
    (fun rest _ s' => ∃ h' i, s' = { s with heap := h' } ∧ rest = List.range' i (esa.size - i) ∧ i ≤ esa.size ∧ h'.DictOf (intKind prog w) d (kvs ++ more.take i) ∧ h'.get? a = some oa ∧ Heap.SameBut d s.heap h')
    _ ?_ ?_ _ _ ⟨s.heap, 0, rfl, by simp [List.range_eq_range'], Nat.zero_le _, by simpa using hd, hoa, Heap.SameBut.refl _ _⟩)
  · rintro x rest b s' ⟨h', i, rfl, hr, hi, hd', hoa', hs'⟩
    have hlt : i < esa.size := by
      rcases Nat.lt_or_ge i esa.size with h | h
      · exact h
      · rw [Nat.sub_eq_zero_of_le h] at hr; simp at hr
    obtain ⟨rfl, hrest⟩ : x = i ∧ rest = List.range' (i + 1) (esa.size - (i + 1)) := by
      have e : esa.size - i = (esa.size - (i + 1)) + 1 := by omega
      rw [e, List.range'_succ] at hr
      injection hr with h1 h2
      exact ⟨h1, h2⟩
    refine wpAny_bind (wpAny_dictEntries hoa' hda' ?_)
    rw [Array.getElem?_eq_getElem hlt]
    obtain ⟨kv, hkv⟩ : ∃ kv, more[x]? = some kv := ⟨more[x]'(by rw [hlen]; exact hlt), List.getElem?_eq_getElem _⟩
    obtain ⟨k, v⟩ := kv
    obtain ⟨hkey, hval⟩ := hpa.get? (e := esa[x]) (by simp [hlt]) hkv
    obtain ⟨k', hkey', hhash⟩ := hka esa[x] (Array.getElem_mem hlt)
    obtain rfl : k' = k := (intKind prog w).inj _ _ _ hkey' hkey
    obtain ⟨t, ht⟩ := Value.isInt_shape hkey
    dsimp only
    rw [hhash, hval, ht]
    have htake : more.take (x + 1) = more.take x ++ [(k', v)] := by rw [List.take_add_one, hkv]; rfl
    have hfresh : k' ∉ (kvs ++ more.take x).map (·.1) := by
      have hsub : ((kvs ++ more.take x) ++ [(k', v)]).map (·.1) = (kvs ++ more.take (x + 1)).map (·.1) := by rw [htake, List.append_assoc]
      have hn2 : ((kvs ++ more.take (x + 1)).map (·.1)).Nodup := by
        refine List.Nodup.sublist ?_ hnd
        exact (List.Sublist.append (List.Sublist.refl _) (List.take_sublist _ _)).map _
      rw [← hsub, List.map_append, List.nodup_append] at hn2
      intro hm
      exact hn2.2.2 k' hm k' (by simp) rfl
    refine wpAny_bind (wpAny_holding ?_)
    rw [if_neg Bool.false_ne_true]
    refine dictPut_new hd' hfresh (by rw [List.length_append, List.length_take]; omega) fun h'' hd'' hs'' => ?_
    have hoa'' : h''.get? a = some oa := (hs''.2 a (Ne.symm hda)).trans hoa'
    refine wpAny_bind (wpAny_dictEpoch hoa'' hda' ?_)
    rw [if_neg (by simp)]
    exact wpAny_pure ⟨h'', x + 1, rfl, hrest, hlt, by rw [htake, ← List.append_assoc]; exact hd'', hoa'', hs'.trans hs''⟩
  · rintro b s' ⟨h', i, rfl, hr, hi, hd', hoa', hs'⟩
    have hin : i = esa.size := by
      rcases Nat.lt_or_ge i esa.size with h | h
      · have e : esa.size - i = (esa.size - (i + 1)) + 1 := by omega
        rw [e, List.range'_succ] at hr; exact nomatch hr
      · exact Nat.le_antisymm hi h
    refine wpAny_pure (hQ h' ?_ hs')
    rw [hin, ← hlen, List.take_length] at hd'; exact hd'

/-- what stands after so many pairs of the table have been stored -/
structure Stands (prog : Program) (w : World) (s : Shared) (done : List (Int × Str)) (f : Nat) (main : Option Addr) (h' : Heap) : Prop where
  size : h'.objs.size = s.heap.objs.size + f
  keep : ∀ b o, s.heap.get? b = some o → h'.get? b = some o
  dict : match main with
    | none => done = [] ∧ f = 0
    | some d => d = s.heap.objs.size ∧ done ≠ [] ∧ f ≠ 0 ∧ ∃ kvs, h'.DictOf (intKind prog w) d kvs ∧ Tab done kvs

theorem flush_none {done run : List (Int × Str)} {h' : Heap} {tk : Nat} {pos : Pos} {Q : Addr → Shared → Prop} (S : Stands prog w s done 0 none h') (hr : run ≠ []) (hnd : (run.map (·.1)).Nodup) (hsz : run.length ≤ sizeLine)
    (hQ : ∀ h'', Stands prog w s (done ++ run) 1 (some s.heap.objs.size) h'' → Q s.heap.objs.size { s with heap := h'', toks := tk + 3 * run.length }) :
    wpAny (model prog w) A (subDict (run.map (mkPair pos))) Q E { s with heap := h', toks := tk } := by
  have hz : h'.objs.size = s.heap.objs.size := by have := S.size; omega
  obtain ⟨hd, _⟩ := S.dict
  refine subDict_new (s := { s with heap := h', toks := tk }) hnd hsz fun h'' kvs a b c e => ?_
  dsimp only at a b c e ⊢
  rw [hz] at a c ⊢
  refine hQ h'' ⟨by rw [c], fun b o x => e b o (S.keep b o x), rfl, by simp [hr], by simp, kvs, a, by rw [hd]; simpa using b⟩

theorem flush_some {done run : List (Int × Str)} {f : Nat} {d : Addr} {h' : Heap} {tk : Nat} {pos : Pos} {Q : Addr → Shared → Prop} (S : Stands prog w s done f (some d) h') (hS : 1 < s.heap.objs.size)
    (hnd : ((done ++ run).map (·.1)).Nodup) (hsz : done.length + run.length ≤ sizeLine)
    (hQ : ∀ h'' a, Stands prog w s (done ++ run) (f + 1) (some d) h'' → Q a { s with heap := h'', toks := tk + 3 * run.length }) :
    wpAny (model prog w) A (subDict (run.map (mkPair pos))) (fun sub s₁ => wpAny (model prog w) A (mergeMapping d (.ref sub) false) (fun _ s₂ => Q sub s₂) E s₁) E { s with heap := h', toks := tk } := by
  obtain ⟨rfl, hne, hf, kvs, hd, ht⟩ := S.dict
  have hz := S.size
  have hn2 : (run.map (·.1)).Nodup := by rw [List.map_append, List.nodup_append] at hnd; exact hnd.2.1
  refine subDict_new (s := { s with heap := h', toks := tk }) hn2 (by omega) fun h'' more a b c e => ?_
  dsimp only at a b c e ⊢
  rw [hz] at a c ⊢
  have hd'' : h''.DictOf (intKind prog w) s.heap.objs.size kvs := by
    obtain ⟨o, es, ep, ho, r⟩ := hd
    exact ⟨o, es, ep, e _ _ ho, r⟩
  refine merge_new (Nat.ne_of_lt (Nat.lt_add_of_pos_right (Nat.pos_of_ne_zero hf))) (beq_eq_false_iff_ne.mpr (Nat.ne_of_gt (Nat.lt_of_lt_of_le hS (Nat.le_add_right _ _)))) hd'' a ?_ ?_ ?_ fun h3 x y => ?_
  · intro h0
    rw [h0] at ht
    have := ht.length
    exact hne (List.length_eq_zero_iff.mp (by simpa using this.symm))
  · rw [List.map_append, ht.keys, b.keys, ← List.map_append]; exact hnd
  · rw [ht.length, b.length]; exact hsz
  · refine hQ h3 _ ⟨by rw [y.1, c]; omega, fun q o z => ?_, rfl, by simp [hne], by omega, _, x, ht.append b⟩
    rw [y.2 q (Nat.ne_of_lt (Heap.lt_size z))]
    exact e q o (S.keep q o z)

theorem display {tbl : List (Int × Str)} {pos : Pos} {Q : Value → Shared → Prop} (hne : tbl ≠ []) (hnd : (tbl.map (·.1)).Nodup) (hsz : tbl.length ≤ sizeLine) (hS : 1 < s.heap.objs.size)
    (hE : ∀ e s', ¬ E e s') (hQ : ∀ h' kvs, h'.DictOf (intKind prog w) s.heap.objs.size kvs → Tab tbl kvs → h'.objs.size = s.heap.objs.size + (tbl.length + 16) / 17 → (∀ b o, s.heap.get? b = some o → h'.get? b = some o) →
      Q (.ref s.heap.objs.size) { s with heap := h', toks := s.toks + 3 * tbl.length }) :
    wpAny (model prog w) A (dictDisplay (tbl.map fun a => (some (mkPair pos a).1, (mkPair pos a).2))) Q E s := by
  unfold dictDisplay
  dsimp only
  refine wpAny_bind (wpAny_forIn_list _
    (fun rest (b : Option Addr × List (Sem Value × Sem Value)) s' => ∃ done run rest' f h', rest = rest'.map (fun a => (some (mkPair pos a).1, (mkPair pos a).2)) ∧ tbl = done ++ run ++ rest' ∧ b.2 = run.map (mkPair pos) ∧ run.length < 17 ∧
      done.length = 17 * f ∧ s' = { s with heap := h', toks := s.toks + 3 * done.length } ∧ Stands prog w s done f b.1 h')
    _ ?_ ?_ _ _ ⟨[], [], tbl, 0, s.heap, rfl, rfl, rfl, by decide, rfl, rfl, rfl, fun _ _ e => e, rfl, rfl⟩)
  · rintro x rest ⟨main, rn⟩ s' ⟨done, run, rest', f, h', hr, ht, hb, hl, hf, rfl, S⟩
    dsimp only at hb S
    subst hb
    cases rest' with
    | nil => cases hr
    | cons a rest' =>
      obtain ⟨rfl, rfl⟩ : x = (some (mkPair pos a).1, (mkPair pos a).2) ∧ rest = rest'.map (fun a => (some (mkPair pos a).1, (mkPair pos a).2)) := by simpa using hr
      dsimp only
      have er : run.map (mkPair pos) ++ [((mkPair pos a).1, (mkPair pos a).2)] = (run ++ [a]).map (mkPair pos) := by simp
      have ht' : tbl = done ++ (run ++ [a]) ++ rest' := by rw [ht]; simp
      have hn1 : ((done ++ (run ++ [a])).map (·.1)).Nodup := by
        rw [ht', List.map_append, List.nodup_append] at hnd; exact hnd.1
      have hln : done.length + (run ++ [a]).length + rest'.length = tbl.length := by rw [ht']; simp; omega
      rw [er, List.length_map]
      have hne' : ((run ++ [a]).map (mkPair pos)).isEmpty = false := by simp
      by_cases h17 : (run ++ [a]).length = 17
      · rw [if_pos (by simpa using h17), hne', if_neg Bool.false_ne_true]
        have e3 : s.toks + 3 * done.length + 3 * (run ++ [a]).length = s.toks + 3 * (done ++ (run ++ [a])).length := by rw [List.length_append (as := done)]; omega
        have hf' : (done ++ (run ++ [a])).length = 17 * (f + 1) := by rw [List.length_append, h17, hf]; omega
        cases main with
        | none =>
          obtain ⟨hd0, rfl⟩ := S.dict
          refine wpAny_bind (wpAny_bind (flush_none S (by simp) (by rw [List.map_append, List.nodup_append] at hn1; exact hn1.2.1) (by omega) fun h'' S' => wpAny_pure (wpAny_pure ?_)))
          refine ⟨done ++ (run ++ [a]), [], rest', 1, h'', rfl, by rw [ht']; simp, rfl, by decide, by rw [hf'], by rw [e3], S'⟩
        | some d =>
          refine wpAny_bind (wpAny_bind (wpAny_holding (wpAny_mono (flush_some (pos := pos) (tk := s.toks + 3 * done.length) (Q := fun _ s₂ => ∃ h'', s₂ = { s with heap := h'', toks := s.toks + 3 * done.length + 3 * (run ++ [a]).length } ∧ Stands prog w s (done ++ (run ++ [a])) (f + 1) (some d) h'') S hS hn1 (by omega) fun h'' q S' => ⟨h'', rfl, S'⟩)
            (fun sub s₁ hs₁ => ?_) fun _ _ e => e)))
          refine wpAny_bind (wpAny_onRaise (wpAny_holding (wpAny_mono hs₁ (fun _ s₂ hs₂ => ?_) fun e s₂ he => ?_)))
          · obtain ⟨h'', rfl, S'⟩ := hs₂
            refine wpAny_pure (wpAny_pure ⟨done ++ (run ++ [a]), [], rest', f + 1, h'', rfl, by rw [ht']; simp, rfl, by decide, hf', by rw [e3], S'⟩)
          · exact absurd he (hE e s₂)
      · rw [if_neg (by simpa using h17)]
        exact wpAny_pure ⟨done, run ++ [a], rest', f, h', rfl, ht', rfl, by simp at h17 ⊢; omega, hf, rfl, S⟩
  · rintro ⟨main, rn⟩ s' ⟨done, run, rest', f, h', hr, ht, hb, hl, hf, rfl, S⟩
    dsimp only at hb S
    subst hb
    have hr0 : rest' = [] := by simpa using hr.symm
    subst hr0
    rw [List.append_nil] at ht
    have hnd' := hnd
    rw [ht] at hnd'
    have hln : done.length + run.length = tbl.length := by rw [ht]; simp
    dsimp only
    by_cases hrun : run = []
    · subst hrun
      rw [List.append_nil] at ht
      subst ht
      simp only [List.map_nil, List.isEmpty_nil, if_true]
      cases main with
      | none => exact absurd S.dict.1 hne
      | some d =>
        obtain ⟨rfl, _, _, kvs, hd, ht⟩ := S.dict
        refine wpAny_bind (wpAny_pure (wpAny_pure (hQ h' kvs hd ht ?_ S.keep)))
        rw [S.size, hf]; omega
    · have hne' : (run.map (mkPair pos)).isEmpty = false := by simp [hrun]
      have hpos : 0 < run.length := List.length_pos_iff.mpr hrun
      rw [hne', if_neg Bool.false_ne_true]
      have e3 : s.toks + 3 * done.length + 3 * run.length = s.toks + 3 * tbl.length := by omega
      have fin : ∀ h'' d, Stands prog w s (done ++ run) (f + 1) (some d) h'' → Q (.ref d) { s with heap := h'', toks := s.toks + 3 * done.length + 3 * run.length } := fun h'' d S' => by
        obtain ⟨rfl, _, _, kvs, hd, ht'⟩ := S'.dict
        rw [e3]
        exact hQ h'' kvs hd (by rw [ht]; exact ht') (by rw [S'.size]; omega) S'.keep
      cases main with
      | none =>
        obtain ⟨hd0, rfl⟩ := S.dict
        exact wpAny_bind (wpAny_bind (flush_none S hrun (by rw [List.map_append, List.nodup_append] at hnd'; exact hnd'.2.1) (by omega) fun h'' S' => wpAny_pure (wpAny_pure (fin h'' _ S'))))
      | some d =>
        refine wpAny_bind (wpAny_bind (wpAny_holding (wpAny_mono (flush_some (pos := pos) (tk := s.toks + 3 * done.length) (Q := fun _ s₂ => ∃ h'', s₂ = { s with heap := h'', toks := s.toks + 3 * done.length + 3 * run.length } ∧ Stands prog w s (done ++ run) (f + 1) (some d) h'') S hS hnd' (by omega) fun h'' q S' => ⟨h'', rfl, S'⟩)
          (fun sub s₁ hs₁ => ?_) fun _ _ e => e)))
        refine wpAny_bind (wpAny_onRaise (wpAny_holding (wpAny_mono hs₁ (fun _ s₂ hs₂ => ?_) fun e s₂ he => absurd he (hE e s₂))))
        obtain ⟨h'', rfl, S'⟩ := hs₂
        exact wpAny_pure (wpAny_pure (fin h'' d S'))
end
end Mine
end

-- part HeadA1
section
set_option maxRecDepth 100000
set_option maxHeartbeats 0
namespace Mine
open PySem PySem.W PySem.Calls PyProof.Rows
@[irreducible] def dParts : List (Option Expr) × List Expr × Pos := match st 6 with
  | .Assign _ (.Dict ks vs p) _ => (ks, vs, p)
  | _ => ([], [], default)
def dPos : Pos := match st 6 with
  | .Assign _ _ p => p
  | _ => default
def tblOf : List (Option Expr) → List Expr → Option (List (Int × Str))
  | [], [] => some []
  | some (.Constant (.int k) _ _) :: ks, .Constant (.str x) _ _ :: vs => (tblOf ks vs).map ((k, x) :: ·)
  | _, _ => none
@[irreducible] def b3 : List (Int × Str) := (tblOf dParts.1 dParts.2.1).getD []
theorem tblOf_shape {env : Env} {pos : Pos} : ∀ (ks : List (Option Expr)) (vs : List Expr) (t : List (Int × Str)), tblOf ks vs = some t →
    (evalEachOpt ks env).zip ((evalEach vs env).map fun v => do let x ← v; standAt pos; pure x) = t.map fun a => (some (mkPair pos a).1, (mkPair pos a).2) := by
  intro ks vs t h
  induction ks, vs using tblOf.induct generalizing t with
  | case1 => cases h; rfl
  | case2 k a b ks x c d vs ih =>
    simp only [tblOf, Option.map_eq_some_iff] at h
    obtain ⟨t', h1, rfl⟩ := h
    have := ih t' h1
    simp only [evalEachOpt, evalEach, List.map_cons, List.zip_cons_cons, this]
    rfl
  | case3 ks vs h1 h2 => simp [tblOf] at h
def rising : List Int → Bool
  | a :: b :: r => decide (a < b) && rising (b :: r)
  | _ => true
theorem rising_pairwise : ∀ l : List Int, rising l = true → l.Pairwise (· < ·)
  | [], _ => .nil
  | [a], _ => by simp
  | a :: b :: r, h => by
    simp only [rising, Bool.and_eq_true, decide_eq_true_eq] at h
    have ih := rising_pairwise (b :: r) h.2
    refine List.Pairwise.cons ?_ ih
    intro c hc
    rcases List.mem_cons.mp hc with rfl | hc
    · exact h.1
    · exact Int.lt_trans h.1 ((List.pairwise_cons.mp ih).1 c hc)
theorem rising_nodup (l : List Int) (h : rising l = true) : l.Nodup := (rising_pairwise l h).imp (fun h => Int.ne_of_lt h)
theorem b3_some : tblOf dParts.1 dParts.2.1 = some b3 := by kernel_rfl
theorem b3_len : b3.length = 650 := by kernel_rfl
theorem b3_rising : rising (b3.map (·.1)) = true := by kernel_rfl
theorem st6 : st 6 = .Assign [.Name (Str.ofString "b3_exceptions") ⟨17, 0, 17, 13⟩] (.Dict dParts.1 dParts.2.1 dParts.2.2) dPos := by kernel_rfl

theorem evA_wpAny {w : World} {A : Around} {α : Type} {t : Sem α} {s s' : SharedT} {a : α} {n : Nat} {Q : α → Shared → Prop} {E : Value → Shared → Prop}
    (h : ∀ Γ q, ∃ q', evA (evC (denote treeTable) pw w n) pw w Γ t q s = some (.ok a, q', s')) (hQ : Q a s'.abs) : wpAny (model pw w) A t Q E s.abs := fun Γ q _ => by
  obtain ⟨q', e⟩ := h Γ q
  have hM : (model pw w).den = denote treeTable := by rw [← table_eq_tree]; rfl
  exact evA_sound (M := model pw w) (fun Γ q s r s' => evC_sound hM n Γ q s r s') Γ t q s _ q' s' e _ _ (fun b hb => by cases hb; exact hQ) (fun e he => by cases he)

theorem evA_wp {w : World} {α : Type} {Γ : Ctx} {t : Sem α} {s s' : SharedT} {a : α} {n : Nat} {q q' : Pos} {Q : α → Pos → Shared → Prop} {E : Value → Pos → Shared → Prop}
    (e : evA (evC (denote treeTable) pw w n) pw w Γ t q s = some (.ok a, q', s')) (hQ : Q a q' s'.abs) : Sem.wp (model pw w) Γ t Q E q s.abs := by
  have hM : (model pw w).den = denote treeTable := by rw [← table_eq_tree]; rfl
  exact evA_sound (M := model pw w) (fun Γ q s r s' => evC_sound hM n Γ q s r s') Γ t q s _ q' s' e _ _ (fun b hb => by cases hb; exact hQ) (fun e he => by cases he)

/-- the state between the display and the name's binding -/
noncomputable def t_mid (X : Nat → Obj) (P : Params) : BT := (.node (boot_o_0 P) (.node (boot_o_1 P) (.node (o3_p5 P) (.node (boot_o_7 P) (.node (o15_p0 P) (.node (o31_p4 P) (.node (X 63) .nil .nil) .nil) (.node (X 47) (.node (X 79) .nil .nil) .nil)) (.node (o23_p2 P) (.node (o39_p4 P) (.node (X 71) .nil .nil) .nil) (.node (X 55) .nil .nil))) (.node (o11_pre P) (.node (o19_p0 P) (.node (o35_p4 P) (.node (X 67) .nil .nil) .nil) (.node (X 51) (.node (X 83) .nil .nil) .nil)) (.node (o27_p2 P) (.node (o43_p5 P) (.node (X 75) .nil .nil) .nil) (.node (X 59) .nil .nil)))) (.node (boot_o_5 P) (.node (boot_o_9 P) (.node (o17_p0 P) (.node (o33_p4 P) (.node (X 65) .nil .nil) .nil) (.node (X 49) (.node (X 81) .nil .nil) .nil)) (.node (o25_p2 P) (.node (o41_p5 P) (.node (X 73) .nil .nil) .nil) (.node (X 57) .nil .nil))) (.node (o13_pre P) (.node (o21_p0 P) (.node (o37_p4 P) (.node (X 69) .nil .nil) .nil) (.node (X 53) (.node (X 85) .nil .nil) .nil)) (.node (o29_p4 P) (.node (o45_p5 P) (.node (X 77) .nil .nil) .nil) (.node (X 61) .nil .nil))))) (.node (boot_o_2 P) (.node (boot_o_4 P) (.node (boot_o_8 P) (.node (o16_p0 P) (.node (o32_p4 P) (.node (X 64) .nil .nil) .nil) (.node (X 48) (.node (X 80) .nil .nil) .nil)) (.node (o24_p2 P) (.node (o40_p5 P) (.node (X 72) .nil .nil) .nil) (.node (X 56) .nil .nil))) (.node (o12_p5 P) (.node (o20_p0 P) (.node (o36_p4 P) (.node (X 68) .nil .nil) .nil) (.node (X 52) (.node (X 84) .nil .nil) .nil)) (.node (o28_p2 P) (.node (o44_p5 P) (.node (X 76) .nil .nil) .nil) (.node (X 60) .nil .nil)))) (.node (boot_o_6 P) (.node (boot_o_10 P) (.node (o18_p0 P) (.node (o34_p4 P) (.node (X 66) .nil .nil) .nil) (.node (X 50) (.node (X 82) .nil .nil) .nil)) (.node (o26_p2 P) (.node (o42_p5 P) (.node (X 74) .nil .nil) .nil) (.node (X 58) .nil .nil))) (.node (o14_pre P) (.node (o22_p2 P) (.node (o38_p4 P) (.node (X 70) .nil .nil) .nil) (.node (X 54) .nil .nil)) (.node (o30_p4 P) (.node (o46_p5 P) (.node (X 78) .nil .nil) .nil) (.node (X 62) .nil .nil))))))
noncomputable def s_mid (X : Nat → Obj) (L : Life) (w : World) (os : OsState) : SharedT := ⟨t_mid X w.params, 86, L, #[], boot_drawn, 2224, os⟩
theorem mid_run (X : Nat → Obj) (L : Life) (w : World) (os : OsState) (Γ : Ctx) (q : Pos) : evA (evC (denote treeTable) pw w 100) pw w Γ (storeName env0 (Str.ofString "b3_exceptions") (.ref 47)) q (s_mid X L w os) = some (.ok (), q, s_p6 X L w os) := by
  kernel_rfl

theorem heap_ext {h h' : Heap} (hz : h.objs.size = h'.objs.size) (hl : h.life = h'.life) (e : ∀ i, i < h.objs.size → h.objs[i]? = h'.objs[i]?) : h = h' := by
  obtain ⟨o, l⟩ := h
  obtain ⟨o', l'⟩ := h'
  dsimp only at *
  subst hl
  congr 1
  refine Array.ext_getElem? fun i => ?_
  by_cases hi : i < o.size
  · exact e i hi
  · rw [Array.getElem?_eq_none (by omega), Array.getElem?_eq_none (by omega)]
theorem objs_of_get {h : Heap} {a : Addr} {o : Obj} (e : h.get? a = some o) : h.objs[a]? = some o := by
  unfold Heap.get? at e
  split at e
  · cases e
  · exact e
/-- a heap of 86 objects whose first 47 are those before the display is the state between -/
theorem mid_heap {w : World} {os : OsState} {h' : Heap} (hz : h'.objs.size = 86) (hk : ∀ b o, (s_p5 w os).abs.heap.get? b = some o → h'.get? b = some o) :
    h' = absHeap (t_mid (fun i => (h'.objs[i]?).getD default) w.params) 86 h'.life := by
  refine heap_ext (by rw [absHeap_size, hz]) rfl fun i hi => ?_
  rw [hz] at hi
  rw [absHeap_at, if_pos hi]
  have old : ∀ o, (t_p5 w.params).get i = some o → alive o = some o → i < 47 → h'.objs[i]? = some o := fun o e1 e2 e3 =>
    objs_of_get (hk i o (by rw [← e2]; exact abs_get e3 e1))
  have new : h'.objs[i]? = some ((h'.objs[i]?).getD default) := by
    rw [Array.getElem?_eq_getElem (by omega)]; rfl
  have key : ∀ (X : Nat → Obj), (∀ o, (t_p5 w.params).get i = some o → alive o = some o → i < 47 → h'.objs[i]? = some o) → h'.objs[i]? = some (X i) → h'.objs[i]? = some (((t_mid X w.params).get i).getD default) := by
    clear old new hk
    intro X old new
    match i, hi, old, new with
    | 0, _, old, _ => exact old _ rfl rfl (by decide)
    | 1, _, old, _ => exact old _ rfl rfl (by decide)
    | 2, _, old, _ => exact old _ rfl rfl (by decide)
    | 3, _, old, _ => exact old _ rfl rfl (by decide)
    | 4, _, old, _ => exact old _ rfl rfl (by decide)
    | 5, _, old, _ => exact old _ rfl rfl (by decide)
    | 6, _, old, _ => exact old _ rfl rfl (by decide)
    | 7, _, old, _ => exact old _ rfl rfl (by decide)
    | 8, _, old, _ => exact old _ rfl rfl (by decide)
    | 9, _, old, _ => exact old _ rfl rfl (by decide)
    | 10, _, old, _ => exact old _ rfl rfl (by decide)
    | 11, _, old, _ => exact old _ rfl rfl (by decide)
    | 12, _, old, _ => exact old _ rfl rfl (by decide)
    | 13, _, old, _ => exact old _ rfl rfl (by decide)
    | 14, _, old, _ => exact old _ rfl rfl (by decide)
    | 15, _, old, _ => exact old _ rfl rfl (by decide)
    | 16, _, old, _ => exact old _ rfl rfl (by decide)
    | 17, _, old, _ => exact old _ rfl rfl (by decide)
    | 18, _, old, _ => exact old _ rfl rfl (by decide)
    | 19, _, old, _ => exact old _ rfl rfl (by decide)
    | 20, _, old, _ => exact old _ rfl rfl (by decide)
    | 21, _, old, _ => exact old _ rfl rfl (by decide)
    | 22, _, old, _ => exact old _ rfl rfl (by decide)
    | 23, _, old, _ => exact old _ rfl rfl (by decide)
    | 24, _, old, _ => exact old _ rfl rfl (by decide)
    | 25, _, old, _ => exact old _ rfl rfl (by decide)
    | 26, _, old, _ => exact old _ rfl rfl (by decide)
    | 27, _, old, _ => exact old _ rfl rfl (by decide)
    | 28, _, old, _ => exact old _ rfl rfl (by decide)
    | 29, _, old, _ => exact old _ rfl rfl (by decide)
    | 30, _, old, _ => exact old _ rfl rfl (by decide)
    | 31, _, old, _ => exact old _ rfl rfl (by decide)
    | 32, _, old, _ => exact old _ rfl rfl (by decide)
    | 33, _, old, _ => exact old _ rfl rfl (by decide)
    | 34, _, old, _ => exact old _ rfl rfl (by decide)
    | 35, _, old, _ => exact old _ rfl rfl (by decide)
    | 36, _, old, _ => exact old _ rfl rfl (by decide)
    | 37, _, old, _ => exact old _ rfl rfl (by decide)
    | 38, _, old, _ => exact old _ rfl rfl (by decide)
    | 39, _, old, _ => exact old _ rfl rfl (by decide)
    | 40, _, old, _ => exact old _ rfl rfl (by decide)
    | 41, _, old, _ => exact old _ rfl rfl (by decide)
    | 42, _, old, _ => exact old _ rfl rfl (by decide)
    | 43, _, old, _ => exact old _ rfl rfl (by decide)
    | 44, _, old, _ => exact old _ rfl rfl (by decide)
    | 45, _, old, _ => exact old _ rfl rfl (by decide)
    | 46, _, old, _ => exact old _ rfl rfl (by decide)
    | 47, _, _, new => exact new
    | 48, _, _, new => exact new
    | 49, _, _, new => exact new
    | 50, _, _, new => exact new
    | 51, _, _, new => exact new
    | 52, _, _, new => exact new
    | 53, _, _, new => exact new
    | 54, _, _, new => exact new
    | 55, _, _, new => exact new
    | 56, _, _, new => exact new
    | 57, _, _, new => exact new
    | 58, _, _, new => exact new
    | 59, _, _, new => exact new
    | 60, _, _, new => exact new
    | 61, _, _, new => exact new
    | 62, _, _, new => exact new
    | 63, _, _, new => exact new
    | 64, _, _, new => exact new
    | 65, _, _, new => exact new
    | 66, _, _, new => exact new
    | 67, _, _, new => exact new
    | 68, _, _, new => exact new
    | 69, _, _, new => exact new
    | 70, _, _, new => exact new
    | 71, _, _, new => exact new
    | 72, _, _, new => exact new
    | 73, _, _, new => exact new
    | 74, _, _, new => exact new
    | 75, _, _, new => exact new
    | 76, _, _, new => exact new
    | 77, _, _, new => exact new
    | 78, _, _, new => exact new
    | 79, _, _, new => exact new
    | 80, _, _, new => exact new
    | 81, _, _, new => exact new
    | 82, _, _, new => exact new
    | 83, _, _, new => exact new
    | 84, _, _, new => exact new
    | 85, _, _, new => exact new
    | n + 86, hi, _, _ => exact absurd hi (by omega)
  exact key _ old new

end Mine
end

-- part HeadA2
section
set_option maxRecDepth 100000
set_option maxHeartbeats 400000

namespace Mine
open PySem PySem.W PySem.Calls PyProof.Rows
theorem b3_ne : b3 ≠ [] := fun h => by
  have e := b3_len
  rw [h] at e
  exact absurd e (by decide)
theorem b3_size : b3.length ≤ sizeLine := by rw [b3_len, sizeLine_eq]; decide
theorem b3_nodup : (b3.map (·.1)).Nodup := rising_nodup _ b3_rising
theorem p5_size (w : World) (os : OsState) : (s_p5 w os).abs.heap.objs.size = 47 := absHeap_size _ _ _
theorem p5_sys (w : World) (os : OsState) : 1 < (s_p5 w os).abs.heap.objs.size := by rw [p5_size]; decide
theorem swap_dict {ks : List (Option Expr)} {vs : List Expr} {pos : Pos} {t : Option Expr} {l : Nat} {env : Env} : swapsWith (.Dict ks vs pos) t l env = pure false := by
  unfold swapsWith; rfl
theorem dict_stmt {w : World} {A : Around} {Q : Flow → Shared → Prop} {s : Shared} {ks : List (Option Expr)} {vs : List Expr} {pos px sp : Pos} {x : Str} {T : List (Int × Str)} (hb : tblOf ks vs = some T)
    (hne : T ≠ []) (hnd : (T.map (·.1)).Nodup) (hsz : T.length ≤ sizeLine) (hS : 1 < s.heap.objs.size)
    (hQ : ∀ h' kvs, h'.DictOf (intKind pw w) s.heap.objs.size kvs → Tab T kvs → h'.objs.size = s.heap.objs.size + (T.length + 16) / 17 → (∀ b o, s.heap.get? b = some o → h'.get? b = some o) →
      wpAny (model pw w) A (storeName env0 x (.ref s.heap.objs.size)) (fun _ => Q .next) (fun _ _ => False) { s with heap := h', toks := s.toks + 3 * T.length }) :
    wpAny (model pw w) A (exec (.Assign [.Name x px] (.Dict ks vs pos) sp) env0) Q (fun _ _ => False) s := by
  refine wpAny_Assign_Name ?_ swap_dict
  rw [arm_eval_Dict, tblOf_shape _ _ _ hb]
  refine wpAny_bind (wpAny_standAt ?_)
  exact display hne hnd hsz hS (fun _ _ h => h) hQ
theorem p6_aux {w : World} {os : OsState} {A : Around} {Q : Flow → Shared → Prop} {ks : List (Option Expr)} {vs : List Expr} {pos px sp : Pos} {T : List (Int × Str)} (hb : tblOf ks vs = some T)
    (hne : T ≠ []) (hnd : (T.map (·.1)).Nodup) (hsize : T.length ≤ sizeLine) (hl : T.length = 650)
    (hQ : ∀ X L kvs, (s_p6 X L w os).abs.heap.DictOf (intKind pw w) 47 kvs → Tab T kvs → Q .next (s_p6 X L w os).abs) :
    wpAny (model pw w) A (exec (.Assign [.Name (Str.ofString "b3_exceptions") px] (.Dict ks vs pos) sp) env0) Q (fun _ _ => False) (s_p5 w os).abs := by
  have hsz := p5_size w os
  have hsy := p5_sys w os
  refine dict_stmt hb hne hnd hsize hsy ?_
  intro h' kvs hd ht hz hk
  rw [hsz, hl] at hz
  rw [hsz] at hd ⊢
  have e := mid_heap (os := os) hz hk
  have es : ({ (s_p5 w os).abs with heap := h', toks := (s_p5 w os).abs.toks + 3 * T.length } : Shared) = (s_mid (fun i => (h'.objs[i]?).getD default) h'.life w os).abs := by
    rw [hl]
    show (⟨h', _, _, _, _⟩ : Shared) = ⟨absHeap (t_mid (fun i => (h'.objs[i]?).getD default) w.params) 86 h'.life, _, _, _, _⟩
    rw [← e]; rfl
  rw [es]
  refine evA_wpAny (fun Γ q => ⟨q, mid_run _ _ w os Γ q⟩) (hQ _ _ kvs ?_ ht)
  obtain ⟨o, es', ep, ho, r⟩ := hd
  refine ⟨o, es', ep, ?_, r⟩
  have h1 : h'.objs[47]? = some o := objs_of_get ho
  have h2 : alive o = some o := by
    unfold alive
    have := r.2.1
    obtain ⟨c, d, dt, sl⟩ := o
    dsimp only at this
    subst this
    rfl
  rw [← h2]
  refine abs_get (show 47 < 86 by decide) ?_
  show some ((h'.objs[47]?).getD default) = some o
  rw [h1]; rfl

theorem p6_wp {w : World} {os : OsState} {A : Around} {Q : Flow → Shared → Prop}
    (hQ : ∀ X L kvs, (s_p6 X L w os).abs.heap.DictOf (intKind pw w) 47 kvs → Tab b3 kvs → Q .next (s_p6 X L w os).abs) :
    wpAny (model pw w) A (exec (st 6) env0) Q (fun _ _ => False) (s_p5 w os).abs := by
  rw [st6]
  exact p6_aux b3_some b3_ne b3_nodup b3_size b3_len hQ
end Mine
end

-- part HeadA4
section
set_option maxRecDepth 100000
set_option maxHeartbeats 400000
namespace Mine
open PySem PySem.W PySem.Calls PyProof.Rows
theorem execs_cons (a : Stmt) (rest : List Stmt) (env : Env) : execs (a :: rest) env = (exec a env >>= fun f => match f with | .next => execs rest env | f => pure f) := by
  rfl
theorem execs_nil (env : Env) : execs [] env = pure .next := by rw [execs]
theorem seq_wp {M : Model} {Γ : Ctx} {a : Stmt} {rest : List Stmt} {env : Env} {Q : Flow → Pos → Shared → Prop} {E : Value → Pos → Shared → Prop} {q : Pos} {s : Shared}
    (h : Sem.wp M Γ (execs [a] env) (fun f q s => f = .next ∧ Sem.wp M Γ (execs rest env) Q E q s) E q s) : Sem.wp M Γ (execs (a :: rest) env) Q E q s := by
  rw [execs_cons, Sem.wp_bind'] at h ⊢
  refine Sem.wp_mono M Γ _ (fun f q s h => ?_) (fun _ _ _ h => h) q s h
  cases f with
  | next => dsimp only at h ⊢; rw [execs_nil, Sem.wp_pure'] at h; exact h.2
  | brk => dsimp only at h; rw [Sem.wp_pure'] at h; exact absurd h.1 (by simp)
  | cont => dsimp only at h; rw [Sem.wp_pure'] at h; exact absurd h.1 (by simp)
  | ret v => dsimp only at h; rw [Sem.wp_pure'] at h; exact absurd h.1 (by simp)
theorem one_wp {M : Model} {Γ : Ctx} {a : Stmt} {env : Env} {Q : Flow → Pos → Shared → Prop} {E : Value → Pos → Shared → Prop} {q : Pos} {s : Shared}
    (h : Sem.wp M Γ (exec a env) (fun f q s => f = .next ∧ Q .next q s) E q s) : Sem.wp M Γ (execs [a] env) Q E q s := by
  rw [execs_cons, Sem.wp_bind']
  refine Sem.wp_mono M Γ _ (fun f q s h => ?_) (fun _ _ _ h => h) q s h
  obtain ⟨rfl, h⟩ := h
  dsimp only
  rw [execs_nil, Sem.wp_pure']; exact h
theorem top_body : behindTheImports pw = [st 0, st 1, st 2, st 3, st 4, st 5, st 6, st 7, st 8, st 9, st 10, st 11, st 12, st 13, st 14, st 15] := by kernel_rfl
theorem Γ1_in (q : Pos) : (Γ1 q).In ((callerA.mark none).under bodyC) := Ctx.Below.in (Ctx.In.enter caller_in bodyC none q (by simp))
theorem p0_wp {w : World} {os : OsState} {q q' : Pos} {rest : List Stmt} {Q : Flow → Pos → Shared → Prop} {E : Value → Pos → Shared → Prop}
    (hQ : ∀ q₁, Sem.wp (model pw w) (Γ1 q) (execs rest env0) Q E q₁ (s_p0 w os).abs) : Sem.wp (model pw w) (Γ1 q) (execs (st 0 :: rest) env0) Q E q' (s_pre w os).abs :=
  seq_wp (evA_wp (p0_run w os q q') ⟨rfl, hQ _⟩)
theorem p1_wp {w : World} {os : OsState} {q q' : Pos} {rest : List Stmt} {Q : Flow → Pos → Shared → Prop} {E : Value → Pos → Shared → Prop}
    (hQ : ∀ q₁, Sem.wp (model pw w) (Γ1 q) (execs rest env0) Q E q₁ (s_p1 w os).abs) : Sem.wp (model pw w) (Γ1 q) (execs (st 1 :: rest) env0) Q E q' (s_p0 w os).abs :=
  seq_wp (evA_wp (p1_run w os q q') ⟨rfl, hQ _⟩)
theorem p2_wp {w : World} {os : OsState} {q q' : Pos} {rest : List Stmt} {Q : Flow → Pos → Shared → Prop} {E : Value → Pos → Shared → Prop}
    (hQ : ∀ q₁, Sem.wp (model pw w) (Γ1 q) (execs rest env0) Q E q₁ (s_p2 w os).abs) : Sem.wp (model pw w) (Γ1 q) (execs (st 2 :: rest) env0) Q E q' (s_p1 w os).abs :=
  seq_wp (evA_wp (p2_run w os q q') ⟨rfl, hQ _⟩)
theorem p3_wp {w : World} {os : OsState} {q q' : Pos} {rest : List Stmt} {Q : Flow → Pos → Shared → Prop} {E : Value → Pos → Shared → Prop}
    (hQ : ∀ q₁, Sem.wp (model pw w) (Γ1 q) (execs rest env0) Q E q₁ (s_p3 w os).abs) : Sem.wp (model pw w) (Γ1 q) (execs (st 3 :: rest) env0) Q E q' (s_p2 w os).abs :=
  seq_wp (evA_wp (p3_run w os q q') ⟨rfl, hQ _⟩)
theorem p4_wp {w : World} {os : OsState} {q q' : Pos} {rest : List Stmt} {Q : Flow → Pos → Shared → Prop} {E : Value → Pos → Shared → Prop}
    (hQ : ∀ q₁, Sem.wp (model pw w) (Γ1 q) (execs rest env0) Q E q₁ (s_p4 w os).abs) : Sem.wp (model pw w) (Γ1 q) (execs (st 4 :: rest) env0) Q E q' (s_p3 w os).abs :=
  seq_wp (evA_wp (p4_run w os q q') ⟨rfl, hQ _⟩)
theorem p5_wp {w : World} {os : OsState} {q q' : Pos} {rest : List Stmt} {Q : Flow → Pos → Shared → Prop} {E : Value → Pos → Shared → Prop}
    (hQ : ∀ q₁, Sem.wp (model pw w) (Γ1 q) (execs rest env0) Q E q₁ (s_p5 w os).abs) : Sem.wp (model pw w) (Γ1 q) (execs (st 5 :: rest) env0) Q E q' (s_p4 w os).abs :=
  seq_wp (evA_wp (p5_run w os q q') ⟨rfl, hQ _⟩)
theorem p6_wp1 {w : World} {os : OsState} {q q' : Pos} {rest : List Stmt} {Q : Flow → Pos → Shared → Prop} {E : Value → Pos → Shared → Prop}
    (hQ : ∀ q₁ X L kvs, (s_p6 X L w os).abs.heap.DictOf (intKind pw w) 47 kvs → Tab b3 kvs → Sem.wp (model pw w) (Γ1 q) (execs rest env0) Q E q₁ (s_p6 X L w os).abs) :
    Sem.wp (model pw w) (Γ1 q) (execs (st 6 :: rest) env0) Q E q' (s_p5 w os).abs := by
  have h := p6_wp (w := w) (os := os) (A := (callerA.mark none).under bodyC) (Q := fun f s => f = .next ∧ ∀ q₁, Sem.wp (model pw w) (Γ1 q) (execs rest env0) Q E q₁ s) (fun X L kvs hd ht => ⟨rfl, fun q₁ => hQ q₁ X L kvs hd ht⟩)
  have h2 := h (Γ1 q) q' (Γ1_in q)
  exact seq_wp (a := st 6) (one_wp (a := st 6) (Sem.wp_mono (model pw w) (Γ1 q) (exec (st 6) env0) (fun f q s h => ⟨h.1, rfl, h.2 q⟩) (fun _ _ _ h => h.elim) q' (s_p5 w os).abs h2))
theorem p7_wp {w : World} {os : OsState} {X : Nat → Obj} {L : Life} {q q' : Pos} {rest : List Stmt} {Q : Flow → Pos → Shared → Prop} {E : Value → Pos → Shared → Prop}
    (hQ : ∀ q₁, Sem.wp (model pw w) (Γ1 q) (execs rest env0) Q E q₁ (s_p7 X L w os).abs) : Sem.wp (model pw w) (Γ1 q) (execs (st 7 :: rest) env0) Q E q' (s_p6 X L w os).abs :=
  seq_wp (evA_wp (p7_run X L w os q q') ⟨rfl, hQ _⟩)
theorem p8_wp {w : World} {os : OsState} {X : Nat → Obj} {L : Life} {q q' : Pos} {rest : List Stmt} {Q : Flow → Pos → Shared → Prop} {E : Value → Pos → Shared → Prop}
    (hQ : ∀ q₁, Sem.wp (model pw w) (Γ1 q) (execs rest env0) Q E q₁ (s_p8 X L w os).abs) : Sem.wp (model pw w) (Γ1 q) (execs (st 8 :: rest) env0) Q E q' (s_p7 X L w os).abs :=
  seq_wp (evA_wp (p8_run X L w os q q') ⟨rfl, hQ _⟩)
theorem p9_wp {w : World} {os : OsState} {X : Nat → Obj} {L : Life} {q q' : Pos} {rest : List Stmt} {Q : Flow → Pos → Shared → Prop} {E : Value → Pos → Shared → Prop}
    (hQ : ∀ q₁, Sem.wp (model pw w) (Γ1 q) (execs rest env0) Q E q₁ (s_p9 X L w os).abs) : Sem.wp (model pw w) (Γ1 q) (execs (st 9 :: rest) env0) Q E q' (s_p8 X L w os).abs :=
  seq_wp (evA_wp (p9_run X L w os q q') ⟨rfl, hQ _⟩)
theorem p10_wp {w : World} {os : OsState} {X : Nat → Obj} {L : Life} {q q' : Pos} {rest : List Stmt} {Q : Flow → Pos → Shared → Prop} {E : Value → Pos → Shared → Prop}
    (hQ : ∀ q₁, Sem.wp (model pw w) (Γ1 q) (execs rest env0) Q E q₁ (s_p10 X L w os).abs) : Sem.wp (model pw w) (Γ1 q) (execs (st 10 :: rest) env0) Q E q' (s_p9 X L w os).abs :=
  seq_wp (evA_wp (p10_run X L w os q q') ⟨rfl, hQ _⟩)
theorem p11_wp {w : World} {os : OsState} {X : Nat → Obj} {L : Life} {q q' : Pos} {rest : List Stmt} {Q : Flow → Pos → Shared → Prop} {E : Value → Pos → Shared → Prop}
    (hQ : ∀ q₁, Sem.wp (model pw w) (Γ1 q) (execs rest env0) Q E q₁ (s_p11 X L w os).abs) : Sem.wp (model pw w) (Γ1 q) (execs (st 11 :: rest) env0) Q E q' (s_p10 X L w os).abs :=
  seq_wp (evA_wp (p11_run X L w os q q') ⟨rfl, hQ _⟩)
theorem p12_wp {w : World} {os : OsState} {X : Nat → Obj} {L : Life} {q q' : Pos} {rest : List Stmt} {Q : Flow → Pos → Shared → Prop} {E : Value → Pos → Shared → Prop}
    (hQ : ∀ q₁, Sem.wp (model pw w) (Γ1 q) (execs rest env0) Q E q₁ (s_p12 X L w os).abs) : Sem.wp (model pw w) (Γ1 q) (execs (st 12 :: rest) env0) Q E q' (s_p11 X L w os).abs :=
  seq_wp (evA_wp (p12_run X L w os q q') ⟨rfl, hQ _⟩)
theorem p13_wp {w : World} {os : OsState} {X : Nat → Obj} {L : Life} {q q' : Pos} {rest : List Stmt} {Q : Flow → Pos → Shared → Prop} {E : Value → Pos → Shared → Prop}
    (hQ : ∀ q₁, Sem.wp (model pw w) (Γ1 q) (execs rest env0) Q E q₁ (s_p13 X L w os).abs) : Sem.wp (model pw w) (Γ1 q) (execs (st 13 :: rest) env0) Q E q' (s_p12 X L w os).abs :=
  seq_wp (evA_wp (p13_run X L w os q q') ⟨rfl, hQ _⟩)
theorem p14_wp {w : World} {os : OsState} {X : Nat → Obj} {L : Life} {q q' : Pos} {rest : List Stmt} {Q : Flow → Pos → Shared → Prop} {E : Value → Pos → Shared → Prop}
    (hQ : ∀ q₁, Sem.wp (model pw w) (Γ1 q) (execs rest env0) Q E q₁ (s_p14 X L w os).abs) : Sem.wp (model pw w) (Γ1 q) (execs (st 14 :: rest) env0) Q E q' (s_p13 X L w os).abs :=
  seq_wp (evA_wp (p14_run X L w os q q') ⟨rfl, hQ _⟩)
theorem p15_wp {w : World} {os : OsState} {X : Nat → Obj} {L : Life} {q q' : Pos} {rest : List Stmt} {Q : Flow → Pos → Shared → Prop} {E : Value → Pos → Shared → Prop}
    (hQ : ∀ q₁, Sem.wp (model pw w) (Γ1 q) (execs rest env0) Q E q₁ (s_p15 X L w os).abs) : Sem.wp (model pw w) (Γ1 q) (execs (st 15 :: rest) env0) Q E q' (s_p14 X L w os).abs :=
  seq_wp (evA_wp (p15_run X L w os q q') ⟨rfl, hQ _⟩)
theorem body_wp {w : World} {os : OsState} {q q' : Pos} {Q : Flow → Pos → Shared → Prop} {E : Value → Pos → Shared → Prop}
    (hQ : ∀ q X L kvs, (s_p6 X L w os).abs.heap.DictOf (intKind pw w) 47 kvs → Tab b3 kvs → Q .next q (s_p15 X L w os).abs) :
    Sem.wp (model pw w) (Γ1 q) (execs [st 0, st 1, st 2, st 3, st 4, st 5, st 6, st 7, st 8, st 9, st 10, st 11, st 12, st 13, st 14, st 15] env0) Q E q' (s_pre w os).abs :=
  p0_wp fun _ => p1_wp fun _ => p2_wp fun _ => p3_wp fun _ => p4_wp fun _ => p5_wp fun _ => p6_wp1 fun _ X L kvs hd ht => p7_wp fun _ => p8_wp fun _ => p9_wp fun _ => p10_wp fun _ => p11_wp fun _ => p12_wp fun _ => p13_wp fun _ => p14_wp fun _ => p15_wp fun _ => by
    rw [execs_nil, Sem.wp_pure']
    exact hQ _ X L kvs hd ht
end Mine
end

-- part HeadA5
section
set_option maxRecDepth 100000
set_option maxHeartbeats 400000
namespace Mine
open PySem PySem.W PySem.Calls PyProof.Rows
theorem block_run (w : World) (os : OsState) (q q' : Pos) : evA (evC (denote treeTable) pw w 100) pw w (Γ1 q) (blockStart (behindTheImports pw) env0) q' (s_pre w os) = some (.ok (), q', s_pre w os) := by
  kernel_rfl
theorem code_wp {w : World} {os : OsState} {q : Pos} {R : Result → Shared → Prop}
    (hR : ∀ X L kvs, (s_p6 X L w os).abs.heap.DictOf (intKind pw w) 47 kvs → Tab b3 kvs → R (.ok .next) (s_p15 X L w os).abs) :
    wpCode (model pw w) (Γ1 q) R q (s_pre w os).abs := by
  rw [wpCode_iff_wp]
  show Sem.wp (model pw w) (Γ1 q) (do blockStart (behindTheImports pw) env0; let f ← (execs (behindTheImports pw) env0).onRaise (leaving env0); pure (Fin.done f) : Sem Fin) _ _ _ _
  rw [Sem.wp_bind']
  refine evA_wp (block_run w os q q) ?_
  rw [Sem.wp_bind', Sem.wp_onRaise, top_body]
  refine body_wp fun q X L kvs hd ht => ?_
  rw [Sem.wp_pure']
  exact hR X L kvs hd ht
theorem top_wp {w : World} {os : OsState} {q : Pos} {R : Result → Shared → Prop}
    (hR : ∀ X L kvs, (s_p6 X L w os).abs.heap.DictOf (intKind pw w) 47 kvs → Tab b3 kvs → R (.ok (.ret .none)) (s_p15 X L w os).abs) :
    Sem.wp (model pw w) Γ0 (topStub pw).cur (Sem.finPost (model pw w) Γ0 R) (fun e _ s' => R (.error e) s') q (s_s0 w os).abs := by
  have h := evA_wp (Q := fun (cf : Value × Addr) q s => Sem.wp (model pw w) Γ0 (do
      let _ ← run (.body (behindTheImports pw) { scope := pw.main.scope, locals := mainNs, globals := mainNs, cells := [], code := cf.1, frame := some cf.2 })
      ret .none) (Sem.finPost (model pw w) Γ0 R) (fun e _ s' => R (.error e) s') q s) (E := fun e _ s' => R (.error e) s') (pre_run w os q) (by
    rw [Sem.wp_bind']
    show wpCode (model pw w) (Γ1 q) _ q _
    refine code_wp fun X L kvs hd ht => ?_
    exact hR X L kvs hd ht)
  simp only [Sem.wp_bind', Sem.wp_pure'] at h
  show Sem.wp (model pw w) Γ0 (do
      let code ← moduleCode pw.main
      let frame ← newBodyFrame code mainNs mainNs
      let _ ← run (.body (behindTheImports pw) { scope := pw.main.scope, locals := mainNs, globals := mainNs, cells := [], code, frame := some frame })
      ret .none) _ _ _ _
  simp only [Sem.wp_bind']
  exact h
end Mine
end

-- part HeadA6
section
set_option maxRecDepth 100000
set_option maxHeartbeats 400000
namespace Mine
open PySem PySem.W PySem.Calls PyProof.Rows
theorem halt_through {den : Code → Sem Fin} {p : Program} {w : World} {s s' : Shared} {t : Thread} {f : Flow} (h : step den p w s t = .halt (.done f) s') : s' = s ∧ through t = true := by
  obtain ⟨heap, gens, drawn, toks, os⟩ := s
  obtain ⟨cur, code, pos, stack⟩ := t
  cases cur with
  | pure fin =>
    cases fin with
    | done g =>
      cases stack with
      | nil =>
        simp only [step, finish] at h
        split at h
        · simp at h
        · simp only [Step.halt.injEq] at h
          exact ⟨h.2.symm, rfl⟩
      | cons fr rest => cases fr <;> simp [step] at h
    | again c => simp [step] at h
  | raise e =>
    cases stack with
    | nil =>
      simp only [step, finish] at h
      split at h <;> simp at h
    | cons fr rest => cases fr <;> simp [step] at h
  | _ => simp only [step] at h <;> (repeat' split at h) <;> simp_all
theorem last_step {den : Code → Sem Fin} {p : Program} {w : World} : ∀ (n : Nat) (s s' : Shared) (t : Thread) (f : Flow), runN den p w n s t = .halted (.done f) s' → ∃ m t', runN den p w m s t = .running s' t' ∧ through t' = true
  | 0, _, _, _, _, h => by cases h
  | n + 1, s, s', t, f, h => by
    simp only [runN] at h
    cases hs : step den p w s t with
    | go s₂ t₂ =>
      rw [hs] at h
      obtain ⟨m, t', e, ht⟩ := last_step n s₂ s' t₂ f h
      exact ⟨m + 1, t', by simp only [runN, hs]; exact e, ht⟩
    | halt o s₂ =>
      rw [hs] at h
      simp only [Run.halted.injEq] at h
      obtain ⟨rfl, rfl⟩ := h
      obtain ⟨rfl, ht⟩ := halt_through hs
      exact ⟨0, t, rfl, ht⟩
theorem s0_abs (w : World) (os : OsState) : (s_s0 w os).abs = ⟨boot_heap w.params, #[], boot_drawn, boot_toks, os⟩ := by kernel_rfl
theorem dict_15 {w : World} {os : OsState} {X : Nat → Obj} {L : Life} {kvs : List (Int × Value)} (h : (s_p6 X L w os).abs.heap.DictOf (intKind pw w) 47 kvs) : (s_p15 X L w os).abs.heap.DictOf (intKind pw w) 47 kvs := by
  obtain ⟨o, es, ep, ho, r⟩ := h
  refine ⟨o, es, ep, ?_, r⟩
  have h1 : (s_p6 X L w os).abs.heap.get? 47 = alive (X 47) := abs_get (show 47 < 86 by decide) rfl
  have h2 : (s_p15 X L w os).abs.heap.get? 47 = alive (X 47) := abs_get (show 47 < 190 by decide) rfl
  rw [h2, ← h1]; exact ho
theorem run_top {w : World} {os : OsState} (hz : (s_s0 w os).abs.asleep) :
    ∃ X L kvs, (s_p15 X L w os).abs.heap.DictOf (intKind pw w) 47 kvs ∧ Tab b3 kvs ∧ (∃ n t, schedN (denote table) pw w n (.single (s_s0 w os).abs (topStub pw)) = .running (.single (s_p15 X L w os).abs t) ∧ through t = true) ∧
      (s_p15 X L w os).abs.heap.life = (s_s0 w os).abs.heap.life := by
  have h := top_wp (w := w) (os := os) (q := default) (R := fun r s' => ((∃ X L kvs, (s_p15 X L w os).abs.heap.DictOf (intKind pw w) 47 kvs ∧ Tab b3 kvs ∧ s' = (s_p15 X L w os).abs) ∧ r = .ok (.ret .none)) ∧ leftWithCleanup s'.gens = false)
    (fun X L kvs hd ht => ⟨⟨⟨X, L, kvs, dict_15 hd, ht, rfl⟩, rfl⟩, by show leftWithCleanup #[] = false; simp [leftWithCleanup]⟩)
  obtain ⟨n, r, s', hn, ⟨X, L, kvs, hd, ht, rfl⟩, rfl⟩ := (wp_iff_halts (M := model pw w) (c := .builtin "claim.caller" {}) (topStub pw).cur (fun r s' => (∃ X L kvs, (s_p15 X L w os).abs.heap.DictOf (intKind pw w) 47 kvs ∧ Tab b3 kvs ∧ s' = (s_p15 X L w os).abs) ∧ r = .ok (.ret .none)) default (s_s0 w os).abs).mp h
  obtain ⟨s'', hr, hf, hc⟩ := runNI_real _ _ _ hn (outcomeOf_ends _)
  obtain rfl : s'' = (s_p15 X L w os).abs := Shared.eq_of_forget_eq hf rfl
  refine ⟨X, L, kvs, hd, ht, ?_, runN_life _ _ _ hr⟩
  obtain ⟨m, t', e, htr⟩ := last_step _ _ _ _ _ hr
  refine ⟨m, t', ?_, htr⟩
  have hne : ∀ k s₂, runN (model pw w).den (model pw w).prog (model pw w).w k (s_s0 w os).abs (topStub pw) ≠ .halted (.unsupported "lifetime:generator-with-cleanup-left-suspended") s₂ := by
    intro k s₂ hk
    have a := runN_mono _ _ _ _ k _ _ _ _ hr
    have b := runN_mono _ _ _ k n _ _ _ s₂ hk
    rw [Nat.add_comm] at a
    have := a.symm.trans b
    simp [outcomeOf] at this
  exact (schedN_eq_runN _ _ _ (s_s0 w os).abs (topStub pw) hz ⟨hc, hne⟩ m).trans (congrArg Run.lift e)
end Mine
end

-- part HeadA7
section
set_option maxRecDepth 100000
set_option maxHeartbeats 400000
namespace Mine
open PySem PySem.W PySem.Calls PyProof.Rows
noncomputable abbrev H1 (X : Nat → Obj) (L : Life) (w : World) : Heap := absHeap (t_p15 X w.params) 190 L
theorem mods_nil : importedModules pw.main.body = [] := by kernel_rfl
theorem h1_main (X L w) : (H1 X L w).isNs mainGlobals = true := by kernel_rfl
theorem h1_blt (X L w) : (H1 X L w).isNs builtinsNs = true := by kernel_rfl
theorem h1_acc (X L w) : (H1 X L w).accountedOkI [] = true := by kernel_rfl
theorem h1_stat (X L w) : staticsOk [] (boot_heap w.params) (H1 X L w) = true := by kernel_rfl
theorem h1_names (X L w) : namesBound pw (H1 X L w) = true := by kernel_rfl
theorem h1_laid (X L w) : laidKept (boot_heap w.params) (H1 X L w) = true := by kernel_rfl
theorem h1_bmain (X L w) : (H1 X L w).bmainOk = true := by kernel_rfl
theorem h1_view (X L w) : (H1 X L w).bltView = bltViewBooted := by kernel_rfl

theorem h1_keep {X : Nat → Obj} {L : Life} {w : World} : ∀ (b : Addr) (o : Obj), (boot_heap w.params).get? b = some o → ¬ theTopsOwn (boot_heap w.params) b → (H1 X L w).get? b = some o := by
  intro b o e hn
  have hlt : b < 11 := by
    have := Heap.lt_size e
    have hz : (boot_heap w.params).objs.size = 11 := rfl
    rw [hz] at this; exact this
  have key : ∀ c : Addr, c < 11 → (c = 2 ∨ c = 3 ∨ c = 6) ∨ (H1 X L w).get? c = (boot_heap w.params).get? c := by
    intro c hc
    match c, hc with
    | 0, _ => exact .inr (by kernel_rfl)
    | 1, _ => exact .inr (by kernel_rfl)
    | 2, _ => exact .inl (.inl rfl)
    | 3, _ => exact .inl (.inr (.inl rfl))
    | 4, _ => exact .inr (by kernel_rfl)
    | 5, _ => exact .inr (by kernel_rfl)
    | 6, _ => exact .inl (.inr (.inr rfl))
    | 7, _ => exact .inr (by kernel_rfl)
    | 8, _ => exact .inr (by kernel_rfl)
    | 9, _ => exact .inr (by kernel_rfl)
    | 10, _ => exact .inr (by kernel_rfl)
    | n + 11, hc => exact absurd hc (Nat.not_lt.mpr (Nat.le_add_left 11 n))
  rcases key b hlt with (rfl | rfl | rfl) | h
  · exact absurd (Or.inr (Or.inl rfl)) hn
  · exact absurd (Or.inl rfl) hn
  · exact absurd (Or.inr (Or.inr (by kernel_rfl))) hn
  · rw [h]; exact e

theorem top_ran {w : World} {os : OsState} (hz : (s_s0 w os).abs.asleep) :
    ∃ X L kvs, (s_p15 X L w os).abs.heap.DictOf (intKind pw w) 47 kvs ∧ Tab b3 kvs ∧ (s_p15 X L w os).abs.asleep ∧ TopRan pw w (s_s0 w os).abs (s_p15 X L w os).abs := by
  obtain ⟨X, L, kvs, hd, ht, hrun, hlife⟩ := run_top hz
  refine ⟨X, L, kvs, hd, ht, Shared.asleep_of_life hlife hz, hrun, hlife, Shared.rest_eq rfl, ?_, ?_, ?_, ?_, ?_, ?_, ?_, ?_, ?_⟩
  · rw [s0_abs]; exact h1_keep
  · rw [mods_nil]; exact Heap.accountedI_of_ok (h1_acc X L w)
  · rw [mods_nil, s0_abs]; exact statics_of_ok (h1_stat X L w)
  · exact Pin.keysAreStrs_of (h1_main X L w)
  · exact fun x hx => (Pin.builtinOf_eq (h1_blt X L w) x).trans (Heap.of_bltView (h1_blt X L w) (h1_view X L w) x hx)
  · obtain ⟨bm, ob, a, _, c, d, f, _⟩ := Heap.bmainOk_spec (h1_bmain X L w)
    exact ⟨bm, ob, (Pin.globalOf_eq (h1_main X L w) _).trans a, c, d, f⟩
  · intro g hg; exact absurd (show g ∈ #[] from hg) (by simp)
  · exact names_of_bound (h1_names X L w)
  · rw [s0_abs]; exact laid_of_kept (h1_laid X L w)

theorem pw_opening : opening pw = plainProg pw.main.scope.names := by kernel_rfl
theorem pw_fence (s : Shared) : fenceModules? pw s = some s := by kernel_rfl

theorem head (w : World) : (∃ s, AfterRun (opening pw) w s) ∧ ∀ s, AfterRun (opening pw) w s → ∃ s₀, fenceModules? pw s = some s₀ ∧ s₀.gens = #[] ∧
    ∃ os X L kvs, s₀ = (s_s0 w os).abs ∧ (s_p15 X L w os).abs.heap.DictOf (intKind pw w) 47 kvs ∧ Tab b3 kvs ∧ (s_p15 X L w os).abs.asleep ∧ TopRan pw w s₀ (s_p15 X L w os).abs := by
  have h := boot_open (N := 600) pw_opening rfl pw_fence w
  rw [← table_eq_tree] at h
  obtain ⟨s₀, h1, e⟩ := Option.map_eq_some_iff.mp h
  obtain ⟨s, h4, h5⟩ := Option.bind_eq_some_iff.mp h1
  have A := AfterImport.of_importEnds h4
  refine ⟨⟨s, A⟩, fun s' hs' => ?_⟩
  obtain rfl : s' = s := AfterImport.unique hs' A
  have z : s₀.asleep := Shared.asleep_of_life (fence_lifeW h5) A.life
  obtain ⟨hp, gs, d, k, os⟩ := s₀
  obtain ⟨rfl, rfl, rfl, rfl⟩ : hp = boot_heap w.params ∧ gs = #[] ∧ d = boot_drawn ∧ k = boot_toks := by simpa using e
  refine ⟨_, h5, rfl, os, ?_⟩
  rw [← s0_abs w os] at z ⊢
  obtain ⟨X, L, kvs, a, b, c, d⟩ := top_ran z
  exact ⟨X, L, kvs, rfl, a, b, c, d⟩
end Mine
end

-- part HeadA8
section
set_option maxRecDepth 100000
set_option maxHeartbeats 4000000
namespace Mine
open PySem PySem.W PySem.Calls PyProof.Rows
/-- what the call may lean on: the heap behind the top, kept -/
structure Base (X : Nat → Obj) (L : Life) (kvs : List (Int × Value)) (w : World) (h : Heap) : Prop where
  keep : ∀ b o, (H1 X L w).get? b = some o → h.get? b = some o
  dict : (H1 X L w).DictOf (intKind pw w) 47 kvs
  tab : Tab b3 kvs
abbrev LawCall : Prop := ∀ (X : Nat → Obj) (L : Life) (kvs : List (Int × Value)) (w : World) (s : Shared), Base X L kvs w s.heap → ∀ (a : Addr) (items : List Value) (ns : List Int), s.heap.IsList a items.toArray → IntsAre items ns → ns.length ≤ 63 →
  wpAny (model pw w) callerA (PySem.call (.ref 189) [.ref a]) (fun v s' => v = .bool true ∧ Keeps s s') (fun _ _ => False) s
theorem h1_law (X L w) : (H1 X L w).nsMap mainGlobals (Str.ofString "law") = some (.ref 189) := by kernel_rfl


theorem law_pinned (X L w) : isTheDefsW pw (H1 X L w) (Str.ofString "law") := by
  have h1 : globalOf (H1 X L w) (Str.ofString "law") = some (.ref 189) := (Pin.globalOf_eq (h1_main X L w) _).trans (h1_law X L w)
  have h2 : (H1 X L w).get? 189 = alive (o189_p15 w.params) := abs_get (show 189 < 190 by decide) rfl
  refine ⟨189, o189_p15 w.params, _, (pDef 15).1, (pDef 15).2.1, (pDef 15).2.2, h1, h2, rfl, ?_, rfl, rfl, rfl, rfl, rfl, rfl, rfl, rfl, ?_⟩
  · kernel_rfl
  · refine ⟨.inl ⟨?_, ?_⟩, [], ?_, .inl ⟨rfl, rfl⟩⟩
    all_goals kernel_rfl

theorem said_ok : OpenLaw.wellSaid PySem.Challenge.rw_rl0123_01 = true := by kernel_rfl
theorem law_holds (call : LawCall) : PySem.Challenge.rw_rl0123_01.Holds := by
  w_on
  refine holds_law said_ok fun said => ?_
  have hw : PySem.Challenge.rw_rl0123_01.row.toRowW.promised := by w_witness2
  refine ⟨said, hw, ?_⟩
  have hfr : frees PySem.Challenge.rw_rl0123_01.row.toRowW = true := by decide +kernel
  obtain ⟨hsame, hu, ha, hap, hm⟩ := frees_parts hfr
  refine ⟨⟨⟨rfl, rfl, rfl, rfl, rfl, by decide +kernel⟩, by kernel_rfl, by kernel_rfl⟩, hw.witness, fun w => ⟨(head w).1, fun s' hs' => ?_⟩⟩
  obtain ⟨s₀, hf, hg0, os, X, L, kvs, rfl, hd, ht, hz, hT⟩ := (head w).2 s' hs'
  refine ⟨_, hf, hg0, (s_p15 X L w os).abs, hT, ?_, fun x hx => (nomatch hx), fun x hx => (nomatch hx), ?_⟩
  · intro n hn
    obtain rfl : n = Str.ofString "law" := by
      have : n ∈ [Str.ofString "law"] := hn
      simpa using this
    exact law_pinned X L w
  · have hgens : (s_p15 X L w os).abs.gens = #[] := rfl
    refine ClaimW.callFrom_of_specG (c := PySem.Challenge.rw_rl0123_01.row.toRowW.claim) (tree := fun vs => do match ← nsGet mainNs (Str.ofString "law") with
      | some f => do ret (← PySem.call f vs)
      | none => unsupported "claim.caller:no-such-global") hz hgens fun args hpre hlay ord hord => ?_
    obtain ⟨⟨vs, s₁⟩, hlaid⟩ := Option.isSome_iff_exists.mp (layAllW_isSome (P := w.params) (ord := ord) (cl := classAt (s_p15 X L w os).abs.heap) (R := PySem.Challenge.rw_rl0123_01.row.toRowW.records) (fun c hc => (nomatch hc)) args PySem.Challenge.rw_rl0123_01.row.toRowW.args (s_p15 X L w os).abs (pre_splitW hpre).1)
    have keeps := layAllW_keeps _ _ _ hlaid
    have hal := layAllW_rest _ _ _ hlaid
    obtain ⟨as, hrd, hin, hold⟩ := reads_layAllW hord _ _ _ hlaid hlay s₁.heap (fun _ _ e => e)
    have Ld : Laid PySem.Challenge.rw_rl0123_01.row.toRowW.records w (s_p15 X L w os).abs s₁ args vs as := ⟨⟨ord, hord, hlaid⟩, hrd, hin, hold, keeps, hal.1.trans hgens, hal.2.2.1⟩
    refine ⟨vs, s₁, hlaid, ?_⟩
    have hB : Base X L kvs w s₁.heap := ⟨keeps, hd, ht⟩
    have hns : s₁.heap.Ns mainGlobals ((H1 X L w).nsMap mainGlobals) := (Heap.Ns.of_isNs (h1_main X L w)).keeps keeps
    refine wpAny_bind (wpAny_nsGet hns ?_)
    rw [h1_law X L w]
    dsimp only
    refine wpAny_bind ?_
    have hi := ident_freeW hu ha hap
    have fin : ∀ v s', (v = Value.bool true ∧ Keeps s₁ s') → GoodW PySem.Challenge.rw_rl0123_01.row.toRowW.claim (classAt (s_p15 X L w os).abs.heap) (ExcName.means (s_p15 X L w os).abs.heap) args s₁ (.ok (.ret v)) s' := by
      rintro v s' ⟨rfl, h', tk, rfl, hk⟩
      refine ⟨.inl ⟨_, .bool true, [], rfl, fun cls => rfl, .bool true, ?_, fun _ => ⟨.nil, fun a ha => (nomatch ha)⟩⟩, hk, rfl, hal.1.trans hgens⟩
      kernel_rfl
    have hwl := well_layAllW hord args _ _ hlaid s₁.heap (fun _ _ e => e)
    have hlo : ∀ a ∈ as, (a == sysModules) = false := fun a ha => beq_eq_false_iff_ne.mpr fun e => by
      have := (hin.2.2 a ha).1
      subst e
      exact absurd (show 1 < (s_p15 X L w os).abs.heap.objs.size by rw [show (s_p15 X L w os).abs.heap.objs.size = 190 from absHeap_size _ _ _]; decide) (Nat.not_lt.mpr this)
    refine wpAny_mono (Q := fun v s' => v = Value.bool true ∧ Keeps s₁ s') (E := fun _ _ => False) ?_ (fun v s' g => wpAny_pure ⟨_, rfl, (fun z => ⟨z.1, z.2.1, z.2.2, fun q => (by cases q)⟩) ((fin v s' g).toG.laid (c := PySem.Challenge.rw_rl0123_01.row.toRowW.claim) hsame rfl hi Ld)⟩) (fun _ _ h => h.elim)
    clear fin hi Ld hold
    clear hlaid hal keeps hns hin
    wrow_args hpre hlay hrd hwl hlo
    exact call X L kvs w s₁ hB _ _ _ (by assumption) (by assumption) (by omega)
end Mine
end

-- part W1
section
set_option maxRecDepth 100000
set_option maxHeartbeats 400000
namespace Mine
open PySem PySem.W PySem.Calls PyProof.Rows
section
variable {X : Nat → Obj} {L : Life} {kvs : List (Int × Value)} {w : World} {h h' : Heap} {s : Shared} {A : Around} {E : Value → Shared → Prop}

theorem Base.mono (B : Base X L kvs w h) (k : ∀ b o, h.get? b = some o → h'.get? b = some o) : Base X L kvs w h' := ⟨fun b o e => k b o (B.keep b o e), B.dict, B.tab⟩
theorem Base.main (B : Base X L kvs w h) : h.Ns mainGlobals ((H1 X L w).nsMap mainGlobals) := (Heap.Ns.of_isNs (h1_main X L w)).keeps B.keep
theorem Base.blt (B : Base X L kvs w h) : h.Ns builtinsNs ((H1 X L w).nsMap builtinsNs) := (Heap.Ns.of_isNs (h1_blt X L w)).keeps B.keep
theorem h1_stat_ns (X L w) : (H1 X L w).isNs cStatics = true := by kernel_rfl
theorem h1_lim (X L w) : (H1 X L w).nsMap cStatics "sys.recursionlimit" = none := by kernel_rfl
theorem Base.noLimit (B : Base X L kvs w h) : h.NoLimit := ⟨_, (Heap.Ns.of_isNs (h1_stat_ns X L w)).keeps B.keep, h1_lim X L w⟩

theorem h1_o46 (X L w) : (H1 X L w).get? 46 = some (o46_p5 w.params) := by kernel_rfl
theorem h1_c46 (X L w) : (H1 X L w).CodeRec (.ref 45) (Str.ofString "in_table_b1") := ⟨45, o45_p5 w.params, _, _, rfl, (by kernel_rfl), rfl, rfl⟩
def b1L : List Int := [173, 847, 6150, 6155, 6156, 6157, 8203, 8204, 8205, 8288, 65279, 65024, 65025, 65026, 65027, 65028, 65029, 65030, 65031, 65032, 65033, 65034, 65035, 65036, 65037, 65038, 65039]
theorem h1_o36 (X L w) : (H1 X L w).get? 36 = some (o36_p4 w.params) := by kernel_rfl
theorem Base.set36 (B : Base X L kvs w h) : h.SetOf (intKind pw w) 36 (fun k => decide (k ∈ b1L)) 27 := by
  have key : ∀ (es : List (Int × Value)), es.all (fun e => match e.2 with | .int k _ => decide (e.1 = hashInt k) && b1L.contains k | _ => false) = true → b1L.all (fun k => es.any fun e => Value.isInt k e.2) = true →
      ElemsOf (intKind pw w) es ∧ ∀ k : Int, decide (k ∈ b1L) = true ↔ ∃ e ∈ es, (intKind pw w).is k e.2 = true := by
    intro es h1 h2
    rw [List.all_eq_true] at h1 h2
    refine ⟨fun e he => ?_, fun k => ⟨fun hk => ?_, fun ⟨e, he, hk⟩ => ?_⟩⟩
    · have := h1 e he
      split at this
      · rename_i k t hv
        simp only [Bool.and_eq_true, decide_eq_true_eq] at this
        exact ⟨⟨k, by rw [hv]; show Value.isInt k (.int k t) = true; simp [Value.isInt], this.1⟩, by rw [hv]; rfl⟩
      · cases this
    · have := h2 k (of_decide_eq_true hk)
      rw [List.any_eq_true] at this
      exact this
    · obtain ⟨t, hv⟩ := Value.isInt_shape hk
      have := h1 e he
      rw [hv] at this
      simp only [Bool.and_eq_true, decide_eq_true_eq] at this
      exact decide_eq_true (List.contains_iff_mem.mp this.2)
  obtain ⟨e1, e2⟩ := key (match (o36_p4 w.params).data with | .set es _ _ => es.toList | _ => []) (by kernel_rfl) (by kernel_rfl)
  exact ⟨_, _, _, _, B.keep _ _ (h1_o36 X L w), ⟨rfl, rfl, rfl⟩, rfl, e1, e2, by decide, by kernel_rfl, rfl⟩

theorem isInt_int (k : Int) (t : Tok) : (intKind pw w).is k (.int k t) = true := by show Value.isInt k (.int k t) = true; simp [Value.isInt]
def retOf : Flow → Value
  | .ret v => v
  | _ => .none
/-- a def of the text, called by place; it never raises -/
theorem fcall {fa : Addr} {o : Obj} {name : Str} {params : Arguments} {body : List Stmt} {scope : Scope} {pm cd doc : Value} {args : List Value} {binds : List (Str × Value)} {Q : Value → Shared → Prop}
    (B : Base X L kvs w s.heap) (hA : A.depth < recursionLimit) (ho : (H1 X L w).get? fa = some o) (hcd : (H1 X L w).CodeRec cd name) (hdata : o.data = .func (docDef name params body scope pm cd doc))
    (hbind : bindArgs (docDef name params body scope pm cd doc) ⟨args, []⟩ = pure binds) (hloc : (binds.all fun x => decide (scope.names.lookup x.1 = some .local)) = true)
    (hco : scope.isCoroutine = false) (hgen : scope.isGenerator = false) (hk : scope.kind = .function) (hcell : ∀ x ∈ scope.names, x.2 ≠ .cell)
    (hb : ∀ h₁, Fr s.heap s.heap.objs.size h₁ (fun x => binds.reverse.lookup x) → wpAny (model pw w) (A.deeper (envOf name scope s.heap.objs.size fa cd)) (execs body (envOf name scope s.heap.objs.size fa cd))
      (fun f s' => Q (retOf f) s') (fun _ _ => False) { s with heap := h₁, toks := s.toks + binds.length }) :
    wpAny (model pw w) A (PySem.call (.ref fa) args) Q E s :=
  wpAny_call (call_plain_ret hA (B.keep _ _ ho) hdata B.noLimit (hcd.keeps B.keep) hbind (locs hloc) (fun h₁ F => wpAny_mono (hb h₁ F) (fun f s' q => by cases f <;> exact q) fun _ _ f => f) hco hgen hk hcell)

theorem gname {env : Env} {x : Str} {pos : Pos} {v : Value} {Q : Value → Shared → Prop} (B : Base X L kvs w s.heap) (hg : env.globals = mainGlobals) (hv : (H1 X L w).nsMap mainGlobals x = some v) (h : Q v s) (hk : env.scope.kind = .function) (hx : env.kindOf x = some .globalImplicit)
    (hd : (x == ("__debug__" : Str)) = false := by decide) : wpAny (model pw w) A (eval (.Name x pos) env) Q E s :=
  Name_function_global hk hx (loadGlobal_global (hg ▸ B.main) hv h) hd
theorem bname {env : Env} {x : Str} {pos : Pos} {v : Value} {Q : Value → Shared → Prop} (B : Base X L kvs w s.heap) (hg : env.globals = mainGlobals) (hb : env.builtins = builtinsNs) (hm : (H1 X L w).nsMap mainGlobals x = none) (hv : (H1 X L w).nsMap builtinsNs x = some v) (h : Q v s)
    (hk : env.scope.kind = .function) (hx : env.kindOf x = some .globalImplicit) (hd : (x == ("__debug__" : Str)) = false := by decide) : wpAny (model pw w) A (eval (.Name x pos) env) Q E s :=
  Name_function_global hk hx (loadGlobal_builtin (hg ▸ B.main) hm (hb ▸ B.blt) hv h) hd
theorem b_ord (X L w) : (H1 X L w).nsMap builtinsNs (Str.ofString "ord") = some (.builtin "ord") := by kernel_rfl
theorem m_ord (X L w) : (H1 X L w).nsMap mainGlobals (Str.ofString "ord") = none := by kernel_rfl
theorem m_b1set (X L w) : (H1 X L w).nsMap mainGlobals (Str.ofString "b1_set") = some (.ref 36) := by kernel_rfl

theorem inb1 {c : Nat} {t : Tok} {Q : Value → Shared → Prop} (B : Base X L kvs w s.heap) (hA : A.depth < recursionLimit)
    (hQ : ∀ h' tk, (∀ b o, s.heap.get? b = some o → h'.get? b = some o) → Q (.bool (decide ((c : Int) ∈ b1L))) { s with heap := h', toks := tk }) :
    wpAny (model pw w) A (PySem.call (.ref 46) [.str ⟨#[c]⟩ t]) Q E s := by
  refine fcall B hA (h1_o46 X L w) (h1_c46 X L w) rfl (binds := [(Str.ofString "code", .str ⟨#[c]⟩ t)]) rfl rfl rfl rfl rfl (by decide) fun h₁ F => ?_
  have B₁ := B.mono F.keep
  refine wpAny_execs_cons (wpAny_Return_some (wpAny_Compare1 (Call_Name1 (bname B₁ rfl rfl (m_ord X L w) (b_ord X L w) (callWith_builtin1 (ld F rfl (P.ord_of_char (gname B₁ rfl (m_b1set X L w) ?_ rfl rfl)))) rfl rfl))))
  exact wpAny_inSet_of (k := (c : Int)) (knd := intKind pw w) (isInt_int _ _) rfl B₁.set36 (hQ h₁ _ F.keep)
end
end Mine
end

-- part W2
section
set_option maxRecDepth 100000
set_option maxHeartbeats 400000
namespace Mine
open PySem PySem.W PySem.Calls PyProof.Rows
section
variable {X : Nat → Obj} {L : Life} {kvs : List (Int × Value)} {w : World} {h h' : Heap} {s : Shared} {A : Around} {E : Value → Shared → Prop}
theorem h1_o92 (X L w) : (H1 X L w).get? 92 = some (o92_p7 w.params) := by kernel_rfl
theorem h1_c92 (X L w) : (H1 X L w).CodeRec (.ref 91) (Str.ofString "map_table_b3") := ⟨91, o91_p7 w.params, _, _, rfl, (by kernel_rfl), rfl, rfl⟩
theorem m_b3 (X L w) : (H1 X L w).nsMap mainGlobals (Str.ofString "b3_exceptions") = some (.ref 47) := by kernel_rfl
theorem Base.map47 (B : Base X L kvs w h) : h.MapOf (intKind pw w) 47 (valueAt kvs) := by
  obtain ⟨o, es, ep, ho, r⟩ := B.dict
  exact Heap.DictOf.mapOf ⟨o, es, ep, B.keep _ _ ho, r⟩
/-- the text that table B.3 maps a sign to -/
def b3of (c : Nat) : Option Str := (b3.find? fun a => decide (a.1 = (c : Int))).map (·.2)
theorem Tab.value {tbl : List (Int × Str)} {kvs : List (Int × Value)} (h : Tab tbl kvs) (k : Int) :
    match (tbl.find? fun a => decide (a.1 = k)).map (·.2) with
    | some x => ∃ t, valueAt kvs k = some (.str x t)
    | none => valueAt kvs k = none := by
  induction tbl generalizing kvs with
  | nil =>
    have : kvs = [] := by have := h.length; exact List.length_eq_zero_iff.mp (by simpa using this)
    subst this; rfl
  | cons a tbl ih =>
    cases kvs with
    | nil => have := h.length; simp at this
    | cons b kvs =>
      unfold Tab at h
      simp only [List.map_cons, List.cons.injEq, Prod.mk.injEq] at h
      obtain ⟨⟨h1, h2⟩, h3⟩ := h
      obtain ⟨bk, bv⟩ := b
      dsimp only at h1 h2
      subst h1
      unfold valueAt
      by_cases e : a.1 = k
      · simp only [List.find?_cons, decide_eq_true e]
        cases bv <;> simp [vtext] at h2
        subst h2
        exact ⟨_, rfl⟩
      · simp only [List.find?_cons, decide_eq_false e]
        exact ih h3
/-- what map_table_b3 hands back -/
def mapped (c : Nat) : Str := (b3of c).getD (Txt.lower ⟨#[c]⟩)
theorem plainAttrs_str' : PlainAttrs "str" := F.plainAttrs_str
theorem mapb3 {c : Nat} {t : Tok} {Q : Value → Shared → Prop} (B : Base X L kvs w s.heap) (hA : A.depth < recursionLimit)
    (hQ : ∀ h' tk t', (∀ b o, s.heap.get? b = some o → h'.get? b = some o) → Q (.str (mapped c) t') { s with heap := h', toks := tk }) :
    wpAny (model pw w) A (PySem.call (.ref 92) [.str ⟨#[c]⟩ t]) Q E s := by
  refine fcall B hA (h1_o92 X L w) (h1_c92 X L w) rfl (binds := [(Str.ofString "code", .str ⟨#[c]⟩ t)]) rfl rfl rfl rfl rfl (by decide) fun h₁ F₁ => ?_
  have B₁ := B.mono F₁.keep
  refine wpAny_execs_cons (wpAny_Assign_Name (Call_method1 rfl rfl rfl (gname B₁ rfl (m_b3 X L w) ?_ rfl rfl)))
  refine ⟨"dict", "dict.get", F.plainAttrs_dict, F.slot_dict_get, F.type_dict_get, B₁.map47.typeIs, ?_, ?_⟩
  · rintro a ⟨⟩
    obtain ⟨o, es, ep, ho, hc, _⟩ := B₁.map47
    exact ⟨o, ho, hc.2.1⟩
  refine wpAny_dict_get1 (knd := intKind pw w) rfl (Call_Name1 (bname B₁ rfl rfl (m_ord X L w) (b_ord X L w) (callWith_builtin1 (ld F₁ rfl (P.ord_of_char ?_))) rfl rfl))
  refine ⟨(c : Int), valueAt kvs, isInt_int _ _, B₁.map47, ?_⟩
  dsimp only
  refine PyProof.Rows.st F₁ fun h₂ F₂ => ?_
  dsimp only
  have hv := B.tab.value (c : Int)
  change (match b3of c with | some x => _ | none => _) at hv
  have B₂ := B.mono F₂.keep
  cases hb : b3of c with
  | some x =>
    rw [hb] at hv
    obtain ⟨t', hv⟩ := hv
    rw [hv] at F₂
    refine wpAny_execs_cons (wpAny_If (wpAny_isTrue_Compare1 (ld F₂ rfl (wpAny_pure (isNot_none (wpAny_truthy_bool ?_))))))
    rw [if_pos (by rfl)]
    refine wpAny_execs_cons (wpAny_Return_some (ld F₂ rfl ?_))
    have := hQ h₂ (s.toks + 1 + 1 + 1 + 1) t' F₂.keep
    rw [show mapped c = x by unfold mapped; rw [hb]; rfl] at this
    exact this
  | none =>
    rw [hb] at hv
    dsimp only at hv
    rw [hv] at F₂
    refine wpAny_execs_cons (wpAny_If (wpAny_isTrue_Compare1 (ld F₂ rfl (wpAny_pure (isNot_none (wpAny_truthy_bool ?_))))))
    rw [if_neg (by decide)]
    refine wpAny_execs_nil (wpAny_execs_cons (wpAny_Return_some (Call_method0 rfl rfl (ld F₂ rfl (SB.lower ?_ ?_)))))
    · have hl := len_lower ⟨#[c]⟩
      have h3 : (Str.length ⟨#[c]⟩) = 1 := rfl
      rw [h3] at hl
      exact decide_eq_false (by rw [sizeLine_eq]; omega)
    · have := hQ h₂ (s.toks + 1 + 1 + 1 + 1 + 1) (s.toks + 1 + 1 + 1 + 1) F₂.keep
      rw [show mapped c = Txt.lower ⟨#[c]⟩ by unfold mapped; rw [hb]; rfl] at this
      exact this
end
end Mine
end

-- part W3
section
set_option maxRecDepth 100000
set_option maxHeartbeats 400000
namespace Mine
open PySem PySem.W PySem.Calls PyProof.Rows
section
variable {prog : Program} {w : World} {A : Around} {E : Value → Shared → Prop} {s : Shared}
theorem lk_listiter_next : typeLookup (.type "list_iterator") "__next__" = pure (some (.builtin "list_iterator.__next__")) := slot_listiter_next.lookup
theorem next_item {it l : Addr} {i : Nat} {items : Array Value} {x : Value} {Q : Value → Shared → Prop} (hit : s.heap.IsListIter it l i) (hl : s.heap.IsList l items) (hx : items[i]? = some x)
    (hQ : ∀ h', h'.IsListIter it l (i + 1) → Heap.SameBut it s.heap h' → Q x { s with heap := h' }) :
    wpAny (model prog w) A (PySem.call (.builtin "next") [.ref it]) Q E s := by
  obtain ⟨o, ho, hc, hd⟩ := id hit
  obtain ⟨ol, hol, _, nl, hdl⟩ := hl
  refine call_function_entry (by decide +kernel) (by decide +kernel) kdk_entry_next (kdk_args_next _) ?_
  unfold Builtin.«next»
  refine wpAny_bind (m := someArgs "next" 1 2 _) (wpAny_of_eq (a := [Value.ref it]) (by first | rfl | kernel_rfl) ?_)
  refine wpAny_bind (wpAny_specialOf hit.typeIs slot_listiter_next.lookup ?_)
  dsimp only [List.headD]
  rw [if_neg (by simp)]
  refine wpAny_bind (wpAny_callSpecial?_slot (name := Str.ofString "__next__") hit.typeIs slot_listiter_next
    (wpAny_call_entry slot_listiter_next hit.typeIs entry_listiter_next ?_ (args_listiter_next _)))
  show wpAny _ _ (field (.ref it) 0 >>= _) _ _ s
  refine wpAny_bind (wpAny_field ho hd (x := .ref l) rfl ?_)
  show wpAny _ _ (if (Value.ref l == Value.none) = true then _ else _) _ _ s
  rw [if_neg (show ¬ ((Value.ref l == Value.none) = true) from Bool.false_ne_true)]
  show wpAny _ _ (field (.ref it) 1 >>= _) _ _ s
  refine wpAny_bind (wpAny_field ho hd (x := .int i 0) rfl ?_)
  show wpAny _ _ (seqItems? (.ref l) >>= _) _ _ s
  refine wpAny_bind (wpAny_seqItems hol hdl ?_)
  simp only [Int.toNat_natCast, hx]
  refine wpAny_bind (wpAny_setField ho hd (by simp) (wpAny_pure ⟨x, rfl, wpAny_pure ?_⟩))
  obtain ⟨c, d, dt, sl⟩ := o
  dsimp only at hc hd
  subst hc hd
  exact ⟨x, rfl, hQ _ ⟨_, Heap.get?_update_self _ ho rfl, rfl, rfl⟩ (Heap.SameBut.update ..)⟩

/-- a fresh StopIteration, as the iterator makes it -/
def stopObj (t : Addr) : Obj := { cls := .type "StopIteration", data := .fields #[.ref t, .none, .none, .none, .bool false, .none] }
theorem next_end {it l : Addr} {i : Nat} {items : Array Value} {Q : Value → Shared → Prop} (hh : A.handled = none) (hit : s.heap.IsListIter it l i) (hl : s.heap.IsList l items) (hx : items[i]? = none)
    (hE : ∀ h' e t, h'.get? e = some (stopObj t) → s.heap.get? e = none → Heap.ExtBut it s.heap h' → E (.ref e) { s with heap := h' }) :
    wpAny (model prog w) A (PySem.call (.builtin "next") [.ref it]) Q E s := by
  obtain ⟨o, ho, hc, hd⟩ := id hit
  obtain ⟨ol, hol, _, nl, hdl⟩ := hl
  refine call_function_entry (by decide +kernel) (by decide +kernel) kdk_entry_next (kdk_args_next _) ?_
  unfold Builtin.«next»
  refine wpAny_bind (m := someArgs "next" 1 2 _) (wpAny_of_eq (a := [Value.ref it]) (by first | rfl | kernel_rfl) ?_)
  refine wpAny_bind (wpAny_specialOf hit.typeIs slot_listiter_next.lookup ?_)
  dsimp only [List.headD]
  rw [if_neg (by simp)]
  refine wpAny_bind (wpAny_callSpecial?_slot (name := Str.ofString "__next__") hit.typeIs slot_listiter_next
    (wpAny_call_entry slot_listiter_next hit.typeIs entry_listiter_next ?_ (args_listiter_next _)))
  show wpAny _ _ (field (.ref it) 0 >>= _) _ _ s
  refine wpAny_bind (wpAny_field ho hd (x := .ref l) rfl ?_)
  show wpAny _ _ (if (Value.ref l == Value.none) = true then _ else _) _ _ s
  rw [if_neg (show ¬ ((Value.ref l == Value.none) = true) from Bool.false_ne_true)]
  show wpAny _ _ (field (.ref it) 1 >>= _) _ _ s
  refine wpAny_bind (wpAny_field ho hd (x := .int i 0) rfl ?_)
  show wpAny _ _ (seqItems? (.ref l) >>= _) _ _ s
  refine wpAny_bind (wpAny_seqItems hol hdl ?_)
  simp only [Int.toNat_natCast, hx]
  refine wpAny_bind (wpAny_rule (wpAny_bind (wpAny_setField ho hd (by simp) ?_)))
  show wpAny _ _ (newExc (.type "StopIteration") [] >>= _) _ _ _
  refine wpAny_bind ?_
  simp only [newExc, newTuple]
  refine wpAny_bind (wpAny_newObj_type ?_ (by size_fits))
  refine wpAny_bind (m := firstArgMember _ _) (wpAny_of_eq (a := Value.none) (by first | rfl | (simp only [firstArgMember]; rfl)) ?_)
  refine wpAny_newObj_type ?_ (by size_fits)
  simp only [raiseNew]
  refine wpAny_bind (wpAny_handled ?_)
  rw [show A.in1.in1.handled = none from hh]
  refine wpAny_bind (wpAny_pure (wpAny_throw ?_))
  refine hE _ _ _ (Heap.get?_push_size _ rfl) ?_ (((Heap.SameBut.update ..).extBut.push _).push _)
  cases e : s.heap.get? _ with
  | none => rfl
  | some o' =>
    have h1 := Heap.lt_size e
    have h2 := (Heap.SameBut.update s.heap it (Obj.mapFields fun x => x.setIfInBounds 0 Value.none)).1
    rw [Heap.size_push, h2] at h1
    exact absurd h1 (Nat.not_lt.mpr (Nat.le_succ _))
end
end Mine
end

-- part W4
section
set_option maxRecDepth 100000
set_option maxHeartbeats 400000
namespace Mine
open PySem PySem.W PySem.Calls PyProof.Rows
theorem oct_and : ∀ b : Nat, b < 256 → Builtin.bitAnd (b : Int) 63 = ((b % 64 : Nat) : Int) ∧ (Builtin.bitAnd (b : Int) 64 != 0) = decide (b / 64 % 2 = 1) := by decide +kernel
theorem bitOr_nonneg {x y : Int} (hx : 0 ≤ x) (hy : 0 ≤ y) : Builtin.bitOr x y = ((x.toNat ||| y.toNat : Nat) : Int) := by
  obtain ⟨m, rfl⟩ := Int.eq_ofNat_of_zero_le hx
  obtain ⟨n, rfl⟩ := Int.eq_ofNat_of_zero_le hy
  unfold Builtin.bitOr Builtin.bitAnd Builtin.bitNot
  have h1 : decide ((0 : Int) ≤ -(m : Int) - 1) = false := decide_eq_false (by omega)
  have h2 : decide ((0 : Int) ≤ -(n : Int) - 1) = false := decide_eq_false (by omega)
  rw [h1, h2]
  have e1 : (-(-(m : Int) - 1) - 1).toNat = m := by omega
  have e2 : (-(-(n : Int) - 1) - 1).toNat = n := by omega
  dsimp only
  rw [e1, e2]
  simp only [Int.toNat_natCast]
  generalize m ||| n = k
  omega
theorem or64 {v : Int} {d : Nat} (hv : 0 ≤ v) (hd : d < 64) : Builtin.bitOr (v * 2 ^ (6 : Int).toNat) (d : Int) = v * 64 + d := by
  obtain ⟨m, rfl⟩ := Int.eq_ofNat_of_zero_le hv
  have e : ((m : Int) * 2 ^ (6 : Int).toNat) = ((m * 64 : Nat) : Int) := by
    have : (2 : Int) ^ (6 : Int).toNat = 64 := by decide
    rw [this]; omega
  rw [e, bitOr_nonneg (by omega) (by omega)]
  have h := Nat.shiftLeft_add_eq_or_of_lt (i := 6) (b := d) (by omega) m
  rw [Nat.shiftLeft_eq] at h
  simp only [Int.toNat_natCast]
  have h' : m * 64 ||| d = m * 64 + d := h.symm
  rw [h']; omega
/-- the number that the octets behind spell, from v on -/
def spelt (v : Int) (os : List Nat) : Int := os.foldl (fun v b => v * 64 + (b % 64 : Nat)) v
/-- a turn's octets: all but the last bear the bit of 64 -/
def Turn : List Nat → Prop
  | [] => False
  | [b] => b < 256 ∧ b / 64 % 2 = 0
  | b :: r => b < 256 ∧ b / 64 % 2 = 1 ∧ Turn r
section
variable {X : Nat → Obj} {L : Life} {kvs : List (Int × Value)} {w : World} {h h' : Heap} {s : Shared} {A : Around} {E : Value → Shared → Prop}
theorem h1_o28 (X L w) : (H1 X L w).get? 28 = some (o28_p2 w.params) := by kernel_rfl
theorem h1_c28 (X L w) : (H1 X L w).CodeRec (.ref 27) (Str.ofString "_parse_varint") := ⟨27, o27_p2 w.params, _, _, rfl, (by kernel_rfl), rfl, rfl⟩
theorem b_next (X L w) : (H1 X L w).nsMap builtinsNs (Str.ofString "next") = some (.builtin "next") := by kernel_rfl
theorem m_next (X L w) : (H1 X L w).nsMap mainGlobals (Str.ofString "next") = none := by kernel_rfl
/-- the octets stand in the list from place i on -/
def Stood (items : Array Value) (i : Nat) (os : List Nat) : Prop := ∀ (j b : Nat), os[j]? = some b → ∃ t, items[i + j]? = some (.int (b : Int) t)
theorem Stood.head {items : Array Value} {i b : Nat} {os : List Nat} (h : Stood items i (b :: os)) : ∃ t, items[i]? = some (.int (b : Int) t) := h 0 b rfl
theorem Stood.tail {items : Array Value} {i b : Nat} {os : List Nat} (h : Stood items i (b :: os)) : Stood items (i + 1) os := fun j c hj => by
  have := h (j + 1) c (by simpa using hj)
  rw [show i + (j + 1) = i + 1 + j by omega] at this
  exact this
theorem Turn.lt {b : Nat} {os : List Nat} (h : Turn (b :: os)) : b < 256 := by cases os <;> exact h.1
/-- a frame whose call may change the objects of D, and no other old one -/
structure Fm (D : Addr → Prop) (h₀ : Heap) (L : Addr) (h : Heap) (m : Str → Option Value) : Prop where
  ns : h.Ns L m
  keep : ∀ b o, ¬ D b → h₀.get? b = some o → h.get? b = some o
  above : h₀.objs.size ≤ L
theorem Fm.of {D : Addr → Prop} {h₀ h : Heap} {L : Addr} {m : Str → Option Value} (F : Fr h₀ L h m) : Fm D h₀ L h m := ⟨F.ns, fun b o _ e => F.keep b o e, F.above⟩
theorem Fm.sameBut {D : Addr → Prop} {h₀ h h' : Heap} {L I : Addr} {m : Str → Option Value} (F : Fm D h₀ L h m) (hs : Heap.SameBut I h h') (hI : D I) (hne : I ≠ L) : Fm D h₀ L h' m :=
  ⟨F.ns.sameBut hs (Ne.symm hne), fun b o hb e => (hs.2 b (fun q => hb (q ▸ hI))).trans (F.keep b o hb e), F.above⟩
theorem Fm.ext {D : Addr → Prop} {h₀ h h' : Heap} {L : Addr} {m : Str → Option Value} (F : Fm D h₀ L h m) (k : ∀ b o, h.get? b = some o → h'.get? b = some o) : Fm D h₀ L h' m :=
  ⟨F.ns.keeps k, fun b o hb e => k b o (F.keep b o hb e), F.above⟩
theorem Fm.set {D : Addr → Prop} {h₀ h h' : Heap} {L : Addr} {m m' : Str → Option Value} (F : Fm D h₀ L h m) (hn : h'.Ns L m') (hs : Heap.SameBut L h h') : Fm D h₀ L h' m' :=
  ⟨hn, fun b o hb e => (hs.2 b (Nat.ne_of_lt (Nat.lt_of_lt_of_le (Heap.lt_size e) F.above))).trans (F.keep b o hb e), F.above⟩
theorem Fm.base {D : Addr → Prop} {h₀ h : Heap} {L' : Addr} {m : Str → Option Value} (F : Fm D h₀ L' h m) (B : Base X L kvs w h₀) (hD : ∀ b, D b → (H1 X L w).get? b = none) : Base X L kvs w h :=
  ⟨fun b o e => F.keep b o (fun q => by rw [hD b q] at e; cases e) (B.keep b o e), B.dict, B.tab⟩
section
variable {M : Model} {name : Str} {scope : Scope} {LL a : Addr} {cd : Value} {h₀ : Heap} {m : Str → Option Value} {D : Addr → Prop}
theorem lm {x : Str} {pos : Pos} {v : Value} {Q : Value → Shared → Prop} (F : Fm D h₀ LL s.heap m) (hv : m x = some v) (h : Q v s)
    (hk : scope.kind = .function := by rfl) (hl : (envOf name scope LL a cd).kindOf x = some .local := by rfl) (hd : (x == ("__debug__" : Str)) = false := by decide) :
    wpAny M A (eval (.Name x pos) (envOf name scope LL a cd)) Q E s := wpAny_Name (wpAny_loadName_local hk hl F.ns hv h) hd
theorem lmn {x : Str} {v : Value} {Q : Value → Shared → Prop} (F : Fm D h₀ LL s.heap m) (hv : m x = some v) (h : Q v s)
    (hk : scope.kind = .function := by rfl) (hl : (envOf name scope LL a cd).kindOf x = some .local := by rfl) :
    wpAny M A (loadName (envOf name scope LL a cd) x) Q E s := wpAny_loadName_local hk hl F.ns hv h
theorem sm {x : Str} {v : Value} {Q : Unit → Shared → Prop} (F : Fm D h₀ LL s.heap m)
    (h : ∀ h', Fm D h₀ LL h' (fun y => if y = x then some v else m y) → Heap.SameBut LL s.heap h' → Q () { s with heap := h', toks := s.toks + 1 })
    (hk : scope.kind = .function := by rfl) (hl : (envOf name scope LL a cd).kindOf x = some .local := by rfl) :
    wpAny M A (storeName (envOf name scope LL a cd) x v) Q E s :=
  wpAny_storeName_local hl F.ns (fun h' hn hs => h h' (F.set hn hs) hs)
    (by show (scope.kind == .class || (scope.kind == .module && LL != mainGlobals)) = false; rw [hk]; rfl)
end
theorem varint_ok {I l : Addr} {i : Nat} {items : Array Value} {b₀ : Nat} {os : List Nat} {Q : Value → Shared → Prop} (B : Base X L kvs w s.heap) (hA : A.depth < recursionLimit)
    (hit : s.heap.IsListIter I l i) (hl : s.heap.IsList l items) (hI : (H1 X L w).get? I = none) (hT : Turn (b₀ :: os)) (hS : Stood items i (b₀ :: os)) (hlen : os.length ≤ 1000)
    (hQ : ∀ h' tk t, h'.IsListIter I l (i + (b₀ :: os).length) → (∀ b o, b ≠ I → s.heap.get? b = some o → h'.get? b = some o) → Q (.int (spelt 0 (b₀ :: os)) t) { s with heap := h', toks := tk }) :
    wpAny (model pw w) A (PySem.call (.ref 28) [.ref I]) Q E s := by
  refine fcall B hA (h1_o28 X L w) (h1_c28 X L w) rfl (binds := [(Str.ofString "iterator", .ref I)]) rfl rfl rfl rfl rfl (by decide) fun h₁ F₁ => ?_
  have B₁ := B.mono F₁.keep
  obtain ⟨t₀, hx⟩ := hS.head
  have hit₁ : h₁.IsListIter I l i := hit.at fun o e => F₁.keep _ _ e
  have hl₁ : h₁.IsList l items := hl.at fun o e => F₁.keep _ _ e
  have hIL : I ≠ s.heap.objs.size := by
    obtain ⟨o, ho, _⟩ := hit
    exact Nat.ne_of_lt (Heap.lt_size ho)
  have hlL : l ≠ s.heap.objs.size := by
    obtain ⟨o, ho, _⟩ := hl
    exact Nat.ne_of_lt (Heap.lt_size ho)
  have hlI : l ≠ I := by
    rintro rfl
    obtain ⟨o, ho, hc, _⟩ := hit
    obtain ⟨o', ho', hc', _⟩ := hl
    rw [ho] at ho'
    cases ho'
    rw [hc] at hc'
    simp at hc'
  have hD : ∀ b, b = I → (H1 X L w).get? b = none := fun b e => e ▸ hI
  refine wpAny_execs_cons (wpAny_Assign_Name (Call_Name1 (bname B₁ rfl rfl (m_next X L w) (b_next X L w) (callWith_builtin1 (ld F₁ rfl (next_item hit₁ hl₁ hx fun h₂ hit₂ hs₂ => ?_))) rfl rfl)))
  dsimp only
  have F₂ := (Fm.of (D := fun b => b = I) F₁).sameBut hs₂ rfl hIL
  have hl₂ : h₂.IsList l items := hl₁.extBut hs₂.extBut hlI
  refine sm F₂ fun h₃ F₃ hs₃ => ?_
  have hl₃ : h₃.IsList l items := hl₂.extBut hs₃.extBut hlL
  have hit₃ : h₃.IsListIter I l (i + 1) := hit₂.at fun o e => (hs₃.2 I hIL).trans e
  dsimp only
  refine wpAny_execs_cons (wpAny_Assign_Name (wpAny_BinOp (lm F₃ rfl (wpAny_Constant_int (and_int (sm F₃ fun h₄ F₄ hs₄ => ?_))))))
  have hl₄ : h₄.IsList l items := hl₃.extBut hs₄.extBut hlL
  have hit₄ : h₄.IsListIter I l (i + 1) := hit₃.at fun o e => (hs₄.2 I hIL).trans e
  dsimp only
  refine wpAny_execs_cons (wpAny_While (codeAny_whileLoop
    (fun n s' => ∃ (b : Nat) (v : Int) (rest : List Nat) (h' : Heap) (tk tb tv : Nat) (m : Str → Option Value), s' = { s with heap := h', toks := tk } ∧ n = rest.length ∧ Fm (fun b => b = I) s.heap s.heap.objs.size h' m ∧
      m (Str.ofString "iterator") = some (.ref I) ∧ m (Str.ofString "b") = some (.int (b : Int) tb) ∧ m (Str.ofString "val") = some (.int v tv) ∧
      Turn (b :: rest) ∧ h'.IsListIter I l (i + (b₀ :: os).length - rest.length) ∧ h'.IsList l items ∧ Stood items (i + (b₀ :: os).length - rest.length) rest ∧ rest.length ≤ os.length ∧
      0 ≤ v ∧ v.natAbs < 2 ^ (6 * (os.length + 1 - rest.length)) ∧ spelt v rest = spelt 0 (b₀ :: os)) ?_ os.length ?_))
  · rintro n s' ⟨b, v, rest, h', tk, tb, tv, m, rfl, rfl, F, hm1, hm2, hm3, hT', hit', hl', hS', hle, hv0, hv1, hsp⟩
    obtain ⟨q1, q2⟩ := oct_and b hT'.lt
    refine isTrue_plain (wpAny_BinOp (lm F hm2 (wpAny_Constant_int (and_int (truthy_int ?_)))))
    rw [q2]
    cases rest with
    | nil =>
      have hb0 : decide (b / 64 % 2 = 1) = false := decide_eq_false (by have := hT'.2; omega)
      rw [hb0, if_neg Bool.false_ne_true]
      refine wpAny_execs_nil ?_
      dsimp only
      refine wpAny_execs_cons (wpAny_Return_some (lm F hm3 ?_))
      have e : v = spelt 0 (b₀ :: os) := hsp
      rw [e]
      exact hQ h' _ tv hit' F.keep
    | cons c rest =>
      have hb1 : decide (b / 64 % 2 = 1) = true := decide_eq_true hT'.2.1
      rw [hb1, if_pos rfl]
      dsimp only
      rw [List.length_cons] at hle hv1 hit' hS'
      have hbits : (Builtin.Int.intBits v : Int) + 6 ≤ 2 ^ 27 := by
        have := intBits_le hv1
        omega
      refine wpAny_execs_cons (wpAny_AugAssign_Name (lmn F hm3 (wpAny_Constant_int (ilshift_int (by decide) hbits (sm F fun h₅ F₅ hs₅ => ?_)))))
      dsimp only
      have B₅ := F₅.base B hD
      have hl₅ : h₅.IsList l items := hl'.extBut hs₅.extBut hlL
      have hit₅ := hit'.at (h' := h₅) fun o e => (hs₅.2 I hIL).trans e
      obtain ⟨tc, hxc⟩ := hS'.head
      refine wpAny_execs_cons (wpAny_Assign_Name (Call_Name1 (bname B₅ rfl rfl (m_next X L w) (b_next X L w) (callWith_builtin1 (lm F₅ ((if_neg (by decide)).trans hm1) (next_item hit₅ hl₅ hxc fun h₆ hit₆ hs₆ => ?_))) rfl rfl)))
      dsimp only
      have F₆ := F₅.sameBut hs₆ rfl hIL
      have hl₆ : h₆.IsList l items := hl₅.extBut hs₆.extBut hlI
      refine sm F₆ fun h₇ F₇ hs₇ => ?_
      have hl₇ : h₇.IsList l items := hl₆.extBut hs₇.extBut hlL
      have hit₇ := hit₆.at (h' := h₇) fun o e => (hs₇.2 I hIL).trans e
      obtain ⟨p1, p2⟩ := oct_and c hT'.2.2.lt
      dsimp only
      refine wpAny_execs_cons (wpAny_AugAssign_Name (lmn F₇ rfl (wpAny_BinOp (lm F₇ rfl (wpAny_Constant_int (and_int (ior_int (sm F₇ fun h₈ F₈ hs₈ => ?_))))))))
      rw [p1, or64 hv0 (by omega)] at F₈
      have hl₈ : h₈.IsList l items := hl₇.extBut hs₈.extBut hlL
      have hit₈ := hit₇.at (h' := h₈) fun o e => (hs₈.2 I hIL).trans e
      dsimp only
      refine wpAny_execs_nil ?_
      dsimp only
      have ei : i + (b₀ :: os).length - (rest.length + 1) + 1 = i + (b₀ :: os).length - rest.length := by rw [List.length_cons]; omega
      refine ⟨rest.length, by rw [List.length_cons]; omega, c, v * 64 + (c % 64 : Nat), rest, h₈, _, tc, _, _, rfl, rfl, F₈, ?_, rfl, rfl, hT'.2.2, ?_, hl₈, ?_, by omega, by omega, ?_, hsp⟩
      · exact (if_neg (by decide)).trans ((if_neg (by decide)).trans ((if_neg (by decide)).trans hm1))
      · rw [← ei]; exact hit₈
      · rw [← ei]; exact hS'.tail
      · have e6 : 6 * (os.length + 1 - rest.length) = 6 * (os.length + 1 - (rest.length + 1)) + 6 := by omega
        rw [e6, Nat.pow_add]
        generalize 2 ^ (6 * (os.length + 1 - (rest.length + 1))) = P at hv1 ⊢
        have : c % 64 < 64 := Nat.mod_lt _ (by decide)
        omega
  · obtain ⟨q1, q2⟩ := oct_and b₀ hT.lt
    rw [q1] at F₄
    have ei : i + (b₀ :: os).length - os.length = i + 1 := by rw [List.length_cons]; omega
    refine ⟨b₀, _, os, h₄, _, _, _, _, rfl, rfl, F₄, rfl, rfl, rfl, hT, ?_, hl₄, ?_, Nat.le_refl _, ?_, ?_, ?_⟩
    · rw [ei]; exact hit₄
    · rw [ei]; exact hS.tail
    · omega
    · have : b₀ % 64 < 64 := Nat.mod_lt _ (by decide)
      rw [show 6 * (os.length + 1 - os.length) = 6 by omega]
      omega
    · show spelt _ os = spelt (0 * 64 + (b₀ % 64 : Nat)) os
      rw [Int.zero_mul, Int.zero_add]
end
end Mine
end

-- part W5
section
set_option maxRecDepth 100000
set_option maxHeartbeats 400000
namespace Mine
open PySem PySem.W PySem.Calls PyProof.Rows
section
variable {prog : Program} {w : World} {A : Around} {E : Value → Shared → Prop} {s : Shared}
theorem isList_typeIs {l : Addr} {xs : Array Value} (h : s.heap.IsList l xs) : s.TypeIs (.ref l) "list" := let ⟨o, ho, hc, _⟩ := h; ⟨o, ho, hc⟩
theorem extend_list {l l' : Addr} {xs ys : Array Value} {Q : Value → Shared → Prop} (hl : s.heap.PlainList l xs) (hl' : s.heap.IsList l' ys) (hsz : xs.size + ys.size ≤ sizeLine)
    (hQ : ∀ h', h'.PlainList l (xs ++ ys) → Heap.SameBut l s.heap h' → Q .none { s with heap := h' }) :
    wpAny (model prog w) A (PySem.call (.builtin "list.extend") [.ref l, .ref l']) Q E s := by
  obtain ⟨n, ho⟩ := id hl
  obtain ⟨o', ho', hc', n', hd'⟩ := id hl'
  refine wpAny_call_entry F.slot_list_extend (isList_typeIs hl.isList) F.entry_list_extend ?_ (F.args_list_extend_2 _ _)
  unfold Builtin.«list.extend»
  refine wpAny_bind (m := selfAndOne "list.extend" _) (wpAny_of_eq (a := (Value.ref l, Value.ref l')) (by first | rfl | kernel_rfl) ?_)
  unfold Builtin.List.listExtendWith
  refine wpAny_bind (wpAny_typeOf (isList_typeIs hl') ?_)
  have h1 : (Builtin.List.listSameRef (.ref l) (.ref l') || Value.type "list" == Value.type "list" || Value.type "list" == Value.type "tuple") = true := by simp
  rw [if_pos h1]
  have e1 : (xs ++ ys).size ≤ sizeLine + 1 := by rw [Array.size_append]; omega
  refine wpAny_bind (wpAny_bind (wpAny_seqItems ho' hd' (wpAny_pure ?_)))
  refine wpAny_bind (wpAny_bind (wpAny_seqItems ho rfl (wpAny_pure ?_)))
  dsimp only
  rw [if_neg (by
    have : Builtin.List.listTooLong (xs.size + ys.size) = false := decide_eq_false (Nat.not_lt.mpr hsz)
    rw [this, Bool.and_false]; exact Bool.false_ne_true)]
  refine wpAny_bind (wpAny_updateSeq (hz := by omega) (_hz' := e1) ho rfl (wpAny_pure ⟨_, rfl, hQ _ ?_ (Heap.SameBut.update ..)⟩))
  exact ⟨_, Heap.get?_update_self _ ho rfl⟩

def upto (x : Int) : Nat → List Int
  | 0 => []
  | k + 1 => x :: upto (x + 1) k
theorem updSeq {l : Addr} {xs : Array Value} {f : Array Value → Array Value} {Q : Unit → Shared → Prop} (hl : s.heap.PlainList l xs) (hz : xs.size ≤ sizeLine) (hz' : (f xs).size ≤ sizeLine + 1)
    (hQ : ∀ h', h'.PlainList l (f xs) → Heap.SameBut l s.heap h' → Q () { s with heap := h' }) : wpAny (model prog w) A (Builtin.List.listUpdate (.ref l) f) Q E s := by
  obtain ⟨n, ho⟩ := id hl
  exact wpAny_updateSeq (hz := hz) (_hz' := hz') ho rfl (hQ _ ⟨_, Heap.get?_update_self _ ho rfl⟩ (Heap.SameBut.update ..))
theorem extend_loop {S I : Addr} {res : Value} (hSI : S ≠ I) (hh : A.handled = none) : ∀ (k : Nat) (x : Int) (s : Shared) (xs : List Value) (R : Result → Shared → Prop), IsRangeIter s.heap I x k 1 → s.heap.PlainList S xs.toArray →
    xs.length + k ≤ sizeLine →
    (∀ h' tk ys, h'.PlainList S (xs ++ ys).toArray → IntsAre ys (upto x k) → (∀ b o, b ≠ S → b ≠ I → s.heap.get? b = some o → h'.get? b = some o) → R (.ok (.ret res)) { s with heap := h', toks := tk }) →
    codeAny (model prog w) A (.builtin "list.extend.loop" ⟨[.ref S, .ref I, res], []⟩) R s
  | 0, x, s, xs, R, hI, hS, hsz, hR => by
    refine codeAny_builtin F.entry_extend_loop ?_
    rw [Around.under_plainId F.plain_extend_loop _]
    show wpAny _ A.in1 (pyNext (.ref I) >>= _) _ _ s
    refine wpAny_bind (wpAny_pyNext_range_end hh hI (by decide) fun h' he => ?_)
    refine wpAny_pure (hR h' s.toks [] ?_ .nil fun b o _ hb e => he b o hb e)
    rw [List.append_nil]; exact hS.extBut he hSI
  | k + 1, x, s, xs, R, hI, hS, hsz, hR => by
    refine codeAny_builtin F.entry_extend_loop ?_
    rw [Around.under_plainId F.plain_extend_loop _]
    show wpAny _ A.in1 (pyNext (.ref I) >>= _) _ _ s
    refine wpAny_bind (wpAny_pyNext_range_item hI (by omega) fun h' hI' hs' => ?_)
    have hS' : h'.PlainList S xs.toArray := hS.extBut hs'.extBut hSI
    show wpAny _ A.in1 (Builtin.List.listUpdate (.ref S) (·.push (.int x s.toks)) >>= _) _ _ _
    refine wpAny_bind (updSeq hS' (by simp; omega) (by simp; omega) fun h'' hS'' hs'' => ?_)
    have hI'' : IsRangeIter h'' I (x + 1) k 1 := by
      have := (hs''.2 I (Ne.symm hSI)).trans hI'
      rw [show ((k + 1 : Nat) : Int) - 1 = (k : Int) by omega] at this
      exact this
    refine wpAny_pure ⟨plainId_quiet F.plain_extend_loop _, extend_loop hSI hh k (x + 1) _ (xs ++ [.int x s.toks]) R hI'' (by simpa using hS'') (by rw [List.length_append, List.length_singleton]; omega) fun h3 tk ys a b c => ?_⟩
    refine hR h3 tk (.int x s.toks :: ys) (by simpa using a) (.cons x s.toks b) fun q o h1 h2 e => c q o h1 h2 ((hs''.2 q h1).trans ((hs'.2 q h2).trans e))

theorem extend_range {l r : Addr} {xs : List Value} {a b : Int} {t u v : Tok} {n : Nat} {Q : Value → Shared → Prop} (hh : A.handled = none) (hl : s.heap.PlainList l xs.toArray) (hr : IsRange s.heap r a b 1 t u v)
    (hsmall : Builtin.Range.small a b 1 = true) (hn : Builtin.Range.rangeSize a b 1 = n) (hn0 : n ≠ 0) (hsz : xs.length + n ≤ sizeLine)
    (hQ : ∀ h' tk ys, h'.PlainList l (xs ++ ys).toArray → IntsAre ys (upto a n) → (∀ b o, b ≠ l → s.heap.get? b = some o → h'.get? b = some o) → Q .none { s with heap := h', toks := tk }) :
    wpAny (model prog w) A (PySem.call (.builtin "list.extend") [.ref l, .ref r]) Q E s := by
  have hlr : l ≠ r := by
    rintro rfl
    obtain ⟨c, ho⟩ := hl
    rw [hr] at ho
    have := congrArg Obj.cls (Option.some.inj ho)
    simp at this
  have hTr : s.TypeIs (.ref r) "range" := ⟨_, hr, rfl⟩
  refine wpAny_call (codeAny_call_builtin F.slot_list_extend.plain F.entry_list_extend (F.slot_list_extend.check _ _ _ _ _ _ _ _ (isList_typeIs hl.isList) (F.args_list_extend_2 _ _) ?_))
  unfold Builtin.«list.extend»
  refine wpAny_bind (m := selfAndOne "list.extend" _) (wpAny_of_eq (a := (Value.ref l, Value.ref r)) (by first | rfl | kernel_rfl) ?_)
  unfold Builtin.List.listExtendWith
  refine wpAny_bind (wpAny_typeOf hTr ?_)
  have h1 : Builtin.List.listSameRef (.ref l) (.ref r) = false := by simp [Builtin.List.listSameRef, hlr]
  have h2 : (Value.type "range" == Value.type "list") = false := by decide
  have h3 : (Value.type "range" == Value.type "tuple") = false := by decide
  simp only [h1, h2, h3, Bool.or_false, Bool.false_eq_true, if_false]
  refine wpAny_bind (wpAny_pyIter_range hr hsmall ?_)
  have hr' : IsRange (s.heap.push { cls := .type "range_iterator", data := .fields #[rawInt a, rawInt (Builtin.Range.rangeSize a b 1), rawInt 1] }) r a b 1 t u v := Heap.get?_push_of_some _ hr
  refine wpAny_bind (wpAny_holding (wpAny_hint_range hr' hn (by rw [sizeLine_eq] at hsz; omega) ?_))
  have h0 : ((n : Int) != 0) = true := by simp [hn0]
  simp only [h0, Bool.true_or, if_true]
  have hl' : (s.heap.push { cls := .type "range_iterator", data := .fields #[rawInt a, rawInt (Builtin.Range.rangeSize a b 1), rawInt 1] }).PlainList l xs.toArray := by
    obtain ⟨o, ho⟩ := hl
    exact ⟨o, Heap.get?_push_of_some _ ho⟩
  have hlI : l ≠ s.heap.objs.size := by
    obtain ⟨o, ho⟩ := hl
    exact Nat.ne_of_lt (Heap.lt_size ho)
  refine wpAny_bind (wpAny_rule (wpAny_bind ?_))
  unfold Builtin.List.listTouch
  refine wpAny_bind (updSeq (s := { s with heap := _, toks := _ }) hl' (by simp; omega) (by simp; omega) fun h₂ hl₂ hs₂ => updSeq hl₂ (by simp; omega) (by simp; omega) fun h₃ hl₃ hs₃ => ?_)
  have hl₄ : h₃.PlainList l xs.toArray := by
    have e : ((xs.toArray.push Value.none).pop) = xs.toArray := Array.pop_push
    rw [e] at hl₃; exact hl₃
  have hit : IsRangeIter h₃ s.heap.objs.size a n 1 := by
    have e1 := Heap.get?_push_size s.heap (o := { cls := .type "range_iterator", data := .fields #[rawInt a, rawInt (Builtin.Range.rangeSize a b 1), rawInt 1] }) rfl
    rw [hn] at e1 hs₂
    exact (hs₃.2 _ (Ne.symm hlI)).trans ((hs₂.2 _ (Ne.symm hlI)).trans e1)
  refine wpAny_pure ⟨plainId_quiet F.plain_extend_loop _, extend_loop hlI hh n a _ xs _ hit hl₄ hsz fun h' tk ys c1 c2 c3 => ?_⟩
  refine hQ h' tk ys c1 c2 fun q o hq e => c3 q o hq (Nat.ne_of_lt (Heap.lt_size e)) ?_
  exact (hs₃.2 q hq).trans ((hs₂.2 q hq).trans (Heap.get?_push_of_some _ e))
end
end Mine
end

-- part W6
section
set_option maxRecDepth 100000
set_option maxHeartbeats 400000
namespace Mine
open PySem PySem.W PySem.Calls PyProof.Rows
section
variable {M : Model} {prog : Program} {w : World} {A : Around} {E : Value → Shared → Prop} {env : Env}
def intsOf : List Expr → Option (List Int)
  | [] => some []
  | .Constant (.int k) _ _ :: r => (intsOf r).map (k :: ·)
  | _ => none
theorem spliced_ints {pos : Pos} : ∀ (elts : List Expr) (ns : List Int) (s : Shared) (Q : List Value → Shared → Prop), intsOf elts = some ns →
    (∀ vs tk, IntsAre vs ns → Q vs { s with toks := tk }) → wpAny M A (spliced (backTo pos (starEach elts env))) Q E s := by
  intro elts
  induction elts using intsOf.induct with
  | case1 => intro ns s Q h hQ; cases h; exact spliced_nil (hQ [] s.toks .nil)
  | case2 k a b r ih =>
    intro ns s Q h hQ
    simp only [intsOf, Option.map_eq_some_iff] at h
    obtain ⟨ns', h1, rfl⟩ := h
    show wpAny M A (spliced ((false, eval (.Constant (.int k) a b) env) :: backTo pos (starEach r env))) Q E s
    exact spliced_cons (wpAny_Constant_int (ih ns' _ _ h1 fun vs tk hv => hQ _ tk (.cons k s.toks hv)))
  | case3 l h1 h2 => intro ns s Q h; simp [intsOf] at h
def pairsOf : List Expr → Option (List (Int × Str))
  | [] => some []
  | .Tuple [.Constant (.int k) _ _, .Constant (.str x) _ _] _ _ :: r => (pairsOf r).map ((k, x) :: ·)
  | _ => none
/-- a tuple of an int and a text -/
def pairObj (k : Int) (t : Tok) (x : Str) (u : Tok) : Obj := { cls := .type "tuple", data := .seq #[.int k t, .str x u] }
inductive PairsAt (h₀ h : Heap) : List Value → List (Int × Str) → Prop
  | nil : PairsAt h₀ h [] []
  | cons {a : Addr} {k : Int} {x : Str} {t u : Tok} {vs : List Value} {r : List (Int × Str)} : h.get? a = some (pairObj k t x u) → h₀.get? a = none → PairsAt h₀ h vs r → PairsAt h₀ h (.ref a :: vs) ((k, x) :: r)
theorem PairsAt.mono {h₀ h h' : Heap} {vs : List Value} {r : List (Int × Str)} (P : PairsAt h₀ h vs r) (k : ∀ b o, h₀.get? b = none → h.get? b = some o → h'.get? b = some o) : PairsAt h₀ h' vs r := by
  induction P with
  | nil => exact .nil
  | cons a b _ ih => exact .cons (k _ _ b a) b ih
theorem PairsAt.base {h₀ h₁ h : Heap} {vs : List Value} {r : List (Int × Str)} (P : PairsAt h₁ h vs r) (k : ∀ b o, h₀.get? b = some o → h₁.get? b = some o) : PairsAt h₀ h vs r := by
  induction P with
  | nil => exact .nil
  | @cons a _ _ _ _ _ _ g b _ ih =>
    refine .cons g ?_ ih
    cases e : h₀.get? a with
    | none => rfl
    | some o => rw [k _ _ e] at b; cases b
theorem PairsAt.append {h₀ h : Heap} {vs us : List Value} {r q : List (Int × Str)} (P : PairsAt h₀ h vs r) (P' : PairsAt h₀ h us q) : PairsAt h₀ h (vs ++ us) (r ++ q) := by
  induction P with
  | nil => exact P'
  | cons a b _ ih => exact .cons a b ih
theorem PairsAt.length {h₀ h : Heap} {vs : List Value} {r : List (Int × Str)} (P : PairsAt h₀ h vs r) : vs.length = r.length := by
  induction P with
  | nil => rfl
  | cons _ _ _ ih => simp [ih]
theorem PairsAt.at {h₀ h : Heap} {vs : List Value} {r : List (Int × Str)} (P : PairsAt h₀ h vs r) : ∀ (i : Nat) (k : Int) (x : Str), r[i]? = some (k, x) → ∃ a t u, vs[i]? = some (.ref a) ∧ h.get? a = some (pairObj k t x u) := by
  induction P with
  | nil => intro i k x h; simp at h
  | @cons a k' x' t u vs' r' g b _ ih =>
    intro i k x h
    cases i with
    | zero => simp at h; obtain ⟨rfl, rfl⟩ := h; exact ⟨a, t, u, rfl, g⟩
    | succ i => exact ih i k x (by simpa using h)
theorem get_none_size {h : Heap} {a : Addr} (ha : h.objs.size ≤ a) : h.get? a = none := by
  cases e : h.get? a with
  | none => rfl
  | some o => exact absurd (Heap.lt_size e) (Nat.not_lt.mpr ha)
theorem spliced_pairs {pos : Pos} : ∀ (elts : List Expr) (ns : List (Int × Str)) (s : Shared) (Q : List Value → Shared → Prop), pairsOf elts = some ns →
    (∀ vs h' tk, PairsAt s.heap h' vs ns → (∀ b o, s.heap.get? b = some o → h'.get? b = some o) → Q vs { s with heap := h', toks := tk }) → wpAny M A (spliced (backTo pos (starEach elts env))) Q E s := by
  intro elts
  induction elts using pairsOf.induct with
  | case1 => intro ns s Q h hQ; cases h; exact spliced_nil (hQ [] s.heap s.toks .nil fun _ _ e => e)
  | case2 k a b x c d e f r ih =>
    intro ns s Q h hQ
    simp only [pairsOf, Option.map_eq_some_iff] at h
    obtain ⟨ns', h1, rfl⟩ := h
    show wpAny M A (spliced ((false, eval (.Tuple [.Constant (.int k) a b, .Constant (.str x) c d] e f) env) :: backTo pos (starEach r env))) Q E s
    refine spliced_cons (Tuple_ ?_)
    show wpAny M A (spliced [(false, eval (.Constant (.int k) a b) env), (false, eval (.Constant (.str x) c d) env)]) _ E s
    refine spliced_cons (wpAny_Constant_int (spliced_cons (wpAny_mkText (spliced_nil (wpAny_newObj_type ?_ (by show (2 : Nat) ≤ sizeLine; rw [sizeLine_eq]; decide))))))
    refine ih ns' _ _ h1 fun vs h' tk P kp => ?_
    refine hQ _ h' tk (.cons (t := s.toks) (u := s.toks + 1) (kp _ _ (Heap.get?_push_size _ rfl)) (get_none_size (Nat.le_refl _)) (P.base fun b o e => Heap.get?_push_of_some _ e)) fun b o e => kp b o (Heap.get?_push_of_some _ e)
  | case3 l h1 h2 => intro ns s Q h; simp [pairsOf] at h
end
end Mine
end

-- part W7
section
set_option maxRecDepth 100000
set_option maxHeartbeats 200000
namespace Mine
open PySem PySem.W PySem.Calls PyProof.Rows
section
variable {X : Nat → Obj} {L : Life} {kvs : List (Int × Value)} {w : World} {h h' : Heap} {s : Shared} {A : Around} {E : Value → Shared → Prop}
theorem h1_o165 (X L w) : (H1 X L w).get? 165 = some (o165_p11 w.params) := by kernel_rfl
theorem h1_c165 (X L w) : (H1 X L w).CodeRec (.ref 164) (Str.ofString "_law_sign") := ⟨164, o164_p11 w.params, _, _, rfl, (by kernel_rfl), rfl, rfl⟩
theorem b_range (X L w) : (H1 X L w).nsMap builtinsNs (Str.ofString "range") = some (.type "range") := by kernel_rfl
theorem m_range (X L w) : (H1 X L w).nsMap mainGlobals (Str.ofString "range") = none := by kernel_rfl
theorem b_chr (X L w) : (H1 X L w).nsMap builtinsNs (Str.ofString "chr") = some (.builtin "chr") := by kernel_rfl
theorem m_chr (X L w) : (H1 X L w).nsMap mainGlobals (Str.ofString "chr") = none := by kernel_rfl
theorem swap_list {es : List Expr} {pos : Pos} {t : Option Expr} {l : Nat} {env : Env} : swapsWith (.List es pos) t l env = pure false := by
  unfold swapsWith; rfl
theorem Fm.other {D : Addr → Prop} {h₀ h h' : Heap} {LL l : Addr} {m : Str → Option Value} (F : Fm D h₀ LL h m) (k : ∀ b o, b ≠ l → h.get? b = some o → h'.get? b = some o) (hl : h₀.get? l = none) (hne : l ≠ LL) : Fm D h₀ LL h' m :=
  ⟨F.ns.at' fun o e => k LL o (Ne.symm hne) e, fun b o hb e => k b o (fun q => by rw [q, hl] at e; cases e) (F.keep b o hb e), F.above⟩
theorem newList_m {D : Addr → Prop} {h₀ : Heap} {LL : Addr} {m : Str → Option Value} {M : Model} {vs : List Value} {Q : Value → Shared → Prop} (F : Fm D h₀ LL s.heap m) (hsz : vs.length ≤ sizeLine)
    (h : ∀ h' l, Fm D h₀ LL h' m → h'.PlainList l vs.toArray → h₀.get? l = none → s.heap.get? l = none → l ≠ LL → (∀ b o, s.heap.get? b = some o → h'.get? b = some o) → Q (.ref l) { s with heap := h' }) : wpAny M A (newList vs) Q E s := by
  have hLL : LL < s.heap.objs.size := by obtain ⟨o, _, _, e, _⟩ := F.ns; exact Heap.lt_size e
  refine wpAny_newObj_type (h _ _ (F.ext fun b o e => Heap.get?_push_of_some _ e) ⟨_, Heap.get?_push_size _ rfl⟩ (get_none_size ?_) (get_none_size (Nat.le_refl _)) (Nat.ne_of_gt hLL) fun b o e => Heap.get?_push_of_some _ e) (by show vs.toArray.size ≤ sizeLine; rw [List.size_toArray]; exact hsz)
  exact Nat.le_of_lt (Nat.lt_of_le_of_lt F.above hLL)
theorem callWith_type2 {M : Model} {T : String} {pos : Pos} {t₁ t₂ : Sem Value} {Q : Value → Shared → Prop} (h : wpAny M A t₁ (fun v s₁ => wpAny M A t₂ (fun u s₂ => wpAny M A (PySem.call (.type T) [v, u]) Q E s₂) E s₁) E s) :
    wpAny M A (callWith pos (.type T) [] [(false, t₁), (false, t₂)] []) Q E s :=
  PySem.callWith_type rfl (Calls.evalArgs_plain (Calls.spliced_cons (wpAny_mono h (fun _ _ h₁ => Calls.spliced_cons (wpAny_mono h₁ (fun _ _ h₂ => Calls.spliced_nil h₂) fun _ _ e => e)) fun _ _ e => e)))
theorem ints_len {vs : List Value} {ns : List Int} (h : IntsAre vs ns) : vs.length = ns.length := by
  induction h with
  | nil => rfl
  | cons _ _ _ ih => simp [ih]
theorem ints_at {vs : List Value} {ns : List Int} (h : IntsAre vs ns) : ∀ (i : Nat) (n : Int), ns[i]? = some n → ∃ t, vs[i]? = some (.int n t) := by
  induction h with
  | nil => intro i n h; simp at h
  | cons m t _ ih =>
    intro i n h
    cases i with
    | zero => simp at h; subst h; exact ⟨t, rfl⟩
    | succ i => exact ih i n (by simpa using h)
def unseenL : List Int := [173, 847, 6150, 6155, 6156, 6157, 8203, 8204, 8205, 8288, 65279] ++ upto 65024 16
def shown1 : List (Int × Str) := [(102, Str.ofString "f"), (70, Str.ofString "f"), (119813, Str.ofString "f"), (105, Str.ofString "i"), (73, Str.ofString "i"), (8464, Str.ofString "i"), (115, Str.ofString "s")]
def shown2 : List (Int × Str) := [(83, Str.ofString "s"), (383, Str.ofString "s"), (223, Str.ofString "ss"), (64256, Str.ofString "ff"), (64257, Str.ofString "fi"), (64259, Str.ofString "ffi")]
/-- the sign that a number draws, and its plain letters -/
def signOf (x kd : Int) : Int × Str :=
  if x.fmod kd = 13 then (unseenL.getD ((x.fdiv 14).fmod 27).toNat 0, Str.ofString "") else (shown1 ++ shown2).getD (x.fmod kd).toNat (0, Str.ofString "")
/-- a tuple of two texts -/
def twoObj (x : Str) (t : Tok) (y : Str) (u : Tok) : Obj := { cls := .type "tuple", data := .seq #[.str x t, .str y u] }
theorem sign_ok {x kd : Int} {t u : Tok} {Q : Value → Shared → Prop} (B : Base X L kvs w s.heap) (hA : A.depth < recursionLimit) (hh : A.handled = none) (hk : kd = 13 ∨ kd = 14)
    (hQ : ∀ h' tk p t' u', h'.get? p = some (twoObj ⟨#[(signOf x kd).1.toNat]⟩ t' (signOf x kd).2 u') → s.heap.get? p = none → (∀ b o, s.heap.get? b = some o → h'.get? b = some o) → Q (.ref p) { s with heap := h', toks := tk }) :
    wpAny (model pw w) A (PySem.call (.ref 165) [.int x t, .int kd u]) Q E s := by
  refine fcall B hA (h1_o165 X L w) (h1_c165 X L w) rfl (binds := [(Str.ofString "x", .int x t), (Str.ofString "kinds", .int kd u)]) rfl rfl rfl rfl rfl (by decide) fun h₁ F₁ => ?_
  have B₁ := B.mono F₁.keep
  refine wpAny_execs_cons (wpAny_If (wpAny_isTrue_Compare1 (wpAny_BinOp (ld F₁ rfl (ld F₁ rfl (mod_int' (by omega) (wpAny_Constant_int (eq_int (wpAny_truthy_bool ?_)))))))))
  have hr : 0 ≤ x.fmod kd ∧ x.fmod kd < 14 := by
    have h1 := Int.fmod_nonneg_of_pos x (b := kd) (by omega)
    have h2 := Int.fmod_lt_of_pos x (b := kd) (by omega)
    omega
  have G₁ := Fm.of (D := fun _ => False) F₁
  by_cases h13 : x.fmod kd = 13
  · rw [if_pos (by simpa using h13)]
    with_reducible refine wpAny_execs_cons ?_
    with_reducible refine wpAny_Assign_Name ?_ swap_list
    with_reducible refine List_ ?_
    with_reducible refine spliced_ints _ [173, 847, 6150, 6155, 6156, 6157, 8203, 8204, 8205, 8288, 65279] _ _ ?_ fun vs tk hv => ?_
    · rfl
    have hlen : vs.length = 11 := ints_len hv
    with_reducible refine newList_m G₁ ?_ fun h₂ l G₂ hl₂ hlo hln hlL k₂ => ?_
    · rw [hlen, sizeLine_eq]; decide
    with_reducible refine sm G₂ (fun h₃ G₃ hs₃ => ?_) ?_ ?_
    rotate_left
    · rfl
    · rfl
    dsimp only
    have B₃ := G₃.base B (fun b q => q.elim)
    have hl₃ : h₃.PlainList l vs.toArray := hl₂.extBut hs₃.extBut hlL
    with_reducible refine wpAny_execs_cons ?_
    refine wpAny_Expr (Call_method1 rfl rfl rfl (lm G₃ rfl ⟨"list", "list.extend", F.plainAttrs_list, F.slot_list_extend, F.type_list_extend, isList_typeIs hl₃.isList, ?_, ?_⟩))
    · rintro a ⟨⟩
      obtain ⟨c, e⟩ := hl₃
      exact ⟨_, e, rfl⟩
    refine callWith_builtin (by rfl) (Calls.evalArgs_plain (Calls.spliced_cons (Call_Name2 (bname B₃ rfl rfl (m_range X L w) (b_range X L w) (callWith_type2 (wpAny_Constant_int (wpAny_Constant_int ?_))) rfl rfl))))
    dsimp only
    refine call_range_2 ?_
    dsimp only
    refine Calls.spliced_nil ?_
    dsimp only [List.cons_append, List.nil_append]
    have hl₄ : (h₃.push { cls := .type "range", data := .fields #[.int 65024 (tk + 1), .int 65040 (tk + 1 + 1), .int 1 (tk + 1 + 1 + 1)] }).PlainList l vs.toArray := hl₃.at fun o e => Heap.get?_push_of_some _ e
    refine extend_range (n := 16) (a := 65024) (b := 65040) hh hl₄ (Heap.get?_push_size _ rfl) (by decide +kernel) (by decide +kernel) (by decide) (by rw [hlen, sizeLine_eq]; decide) fun h₅ tk₅ ys hl₅ hy k₅ => ?_
    dsimp only
    have G₅ := (G₃.ext (h' := h₃.push { cls := .type "range", data := .fields #[.int 65024 (tk + 1), .int 65040 (tk + 1 + 1), .int 1 (tk + 1 + 1 + 1)] }) fun b o e => Heap.get?_push_of_some _ e).other k₅ hlo hlL
    have B₅ := G₅.base B (fun b q => q.elim)
    with_reducible refine wpAny_execs_cons ?_
    with_reducible refine wpAny_Return_some (Tuple_ ?_)
    have hi : 0 ≤ (x.fdiv 14).fmod 27 ∧ (x.fdiv 14).fmod 27 < 27 := ⟨Int.fmod_nonneg_of_pos _ (by omega), Int.fmod_lt_of_pos _ (by omega)⟩
    have hal : IntsAre (vs ++ ys) unseenL := hv.append hy
    have hnn : ∀ n ∈ unseenL, 0 ≤ n ∧ n ≤ 1114111 := by decide
    obtain ⟨c, hc⟩ : ∃ c, unseenL[((x.fdiv 14).fmod 27).toNat]? = some c := ⟨unseenL[((x.fdiv 14).fmod 27).toNat]'(by show _ < 27; omega), List.getElem?_eq_getElem _⟩
    obtain ⟨tc, hvc⟩ := ints_at hal _ _ hc
    have hcr := hnn c (List.mem_of_getElem? hc)
    refine Calls.spliced_cons (Call_Name1 (bname B₅ rfl rfl (m_chr X L w) (b_chr X L w) (callWith_builtin1 (Subscript_BinOp (lm G₅ rfl (wpAny_BinOp (wpAny_BinOp (lm G₅ rfl (wpAny_Constant_int (floordiv_int (by decide) (wpAny_Constant_int (mod_int' (by decide) ?_)))))))))) rfl rfl))
    dsimp only
    refine ⟨"list", _, slot_list_getitem.lookup, isList_typeIs hl₅.isList, wpAny_getItem_list hl₅.isList hi.1 (by omega) (x := .int c tc) (by simpa using hvc) ?_⟩
    refine P.chr_of_int (by simp; omega) ?_
    dsimp only
    refine Calls.spliced_cons (wpAny_mkText (Calls.spliced_nil (wpAny_newObj_type ?_ (by show (2 : Nat) ≤ sizeLine; rw [sizeLine_eq]; decide))))
    dsimp only
    have e1 : signOf x kd = (c, Str.ofString "") := by
      unfold signOf
      rw [if_pos h13, List.getD_eq_getElem?_getD, hc]; rfl
    rw [e1] at hQ
    have hL5 : s.heap.objs.size ≤ h₅.objs.size := by
      obtain ⟨o, _, _, e, _⟩ := G₅.ns
      exact Nat.le_of_lt (Heap.lt_size e)
    exact hQ _ _ _ _ _ (Heap.get?_push_size _ rfl) (get_none_size hL5) fun b o e => Heap.get?_push_of_some _ (G₅.keep b o (fun q => q) e)
  · rw [if_neg (by simpa using h13)]
    with_reducible refine wpAny_execs_nil ?_
    dsimp only
    with_reducible refine wpAny_execs_cons ?_
    with_reducible refine wpAny_Assign_Name ?_ swap_list
    with_reducible refine List_ ?_
    with_reducible refine spliced_pairs _ shown1 _ _ ?_ fun vs h₂ tk P₂ k₂ => ?_
    · rfl
    have G₂ := G₁.ext k₂
    with_reducible refine newList_m G₂ ?_ fun h₃ l G₃ hl₃ hlo hln hlL k₃ => ?_
    · rw [P₂.length, sizeLine_eq]; decide
    with_reducible refine sm G₃ (fun h₄ G₄ hs₄ => ?_) ?_ ?_
    rotate_left
    · rfl
    · rfl
    dsimp only
    have hl₄ : h₄.PlainList l vs.toArray := hl₃.extBut hs₄.extBut hlL
    with_reducible refine wpAny_execs_cons ?_
    with_reducible refine wpAny_Expr (Call_method1 ?_ ?_ ?_ (lm (v := .ref l) G₄ ?_ ?meth ?_ ?_ ?_)) ?_ ?_
    case meth =>
      unfold MethodOnS
      refine ⟨"list", "list.extend", F.plainAttrs_list, F.slot_list_extend, F.type_list_extend, isList_typeIs hl₄.isList, ?_, ?_⟩
      · rintro a ⟨⟩
        obtain ⟨c, e⟩ := hl₄
        exact ⟨_, e, rfl⟩
      with_reducible refine callWith_builtin ?_ (Calls.evalArgs_plain (Calls.spliced_cons (List_ (spliced_pairs _ shown2 _ _ ?_ fun us h₅ tk₅ P₅ k₅ => newList_m (G₄.ext k₅) ?_ fun h₆ l' G₆ hl₆ hlo' hln' hlL' k₆ => Calls.spliced_nil ?_))))
      · rfl
      · rfl
      · rw [P₅.length, sizeLine_eq]; decide
      dsimp only [List.cons_append, List.nil_append]
      have hl₆' : h₆.PlainList l vs.toArray := hl₄.at fun o e => k₆ _ _ (k₅ _ _ e)
      have hne : l ≠ l' := by
        rintro rfl
        obtain ⟨c, e⟩ := hl₄
        rw [k₅ _ _ e] at hln'
        cases hln'
      refine extend_list hl₆' hl₆.isList (by simp [P₂.length, P₅.length]; rw [sizeLine_eq]; decide) fun h₇ hl₇ hs₇ => ?_
      dsimp only
      have G₇ := G₆.other (h' := h₇) (l := l) (fun b o hb e => (hs₇.2 b hb).trans e) hlo hlL
      have B₇ := G₇.base B (fun b q => q.elim)
      have hLs : ∃ o, h₁.get? s.heap.objs.size = some o := by obtain ⟨o, _, _, e, _⟩ := F₁.ns; exact ⟨o, e⟩
      have hlS : ∃ o, h₄.get? l = some o := by obtain ⟨c, e⟩ := hl₄; exact ⟨_, e⟩
      have P₂' : PairsAt s.heap h₇ vs shown1 := (P₂.mono (h' := h₇) fun b o hb e => by
        have h1 : b ≠ s.heap.objs.size := fun q => by obtain ⟨o', e'⟩ := hLs; rw [q, e'] at hb; cases hb
        have h2 : b ≠ l := fun q => by rw [q, hln] at e; cases e
        exact (hs₇.2 b h2).trans (k₆ _ _ (k₅ _ _ ((hs₄.2 b h1).trans (k₃ _ _ e))))).base F₁.keep
      have P₅' : PairsAt s.heap h₇ us shown2 := (P₅.mono (h' := h₇) fun b o hb e => by
        have h2 : b ≠ l := fun q => by obtain ⟨o', e'⟩ := hlS; rw [q, e'] at hb; cases hb
        exact (hs₇.2 b h2).trans (k₆ _ _ e)).base fun b o e => G₄.keep b o (fun q => q) e
      have PA := P₂'.append P₅'
      obtain ⟨c, y, hcy⟩ : ∃ c y, (shown1 ++ shown2)[(x.fmod kd).toNat]? = some (c, y) := ⟨_, _, List.getElem?_eq_getElem (show (x.fmod kd).toNat < (shown1 ++ shown2).length by show _ < 13; omega)⟩
      have hcr : 0 ≤ c ∧ c ≤ 1114111 := (by decide : ∀ p ∈ shown1 ++ shown2, 0 ≤ p.1 ∧ p.1 ≤ 1114111) (c, y) (List.mem_of_getElem? hcy)
      obtain ⟨a, tc, ty, hva, hoa⟩ := PA.at _ _ _ hcy
      refine wpAny_execs_cons (Assign_Tuple (Subscript_BinOp (lm G₇ rfl (wpAny_BinOp (lm G₇ rfl (lm G₇ rfl (mod_int' (by omega) ⟨"list", _, slot_list_getitem.lookup, isList_typeIs hl₇.isList, wpAny_getItem_list hl₇.isList hr.1 (by omega) (x := .ref a) (by simpa using hva) ?_⟩)))))))
      dsimp only
      have hta : h₇.IsTuple a #[.int c tc, .str y ty] := ⟨_, hoa, rfl, _, rfl⟩
      refine wpAny_assign_Tuple (items := #[.int c tc, .str y ty]) hh hta rfl rfl fun h₈ he₈ => ?_
      have k₈ : ∀ b o, h₇.get? b = some o → h₈.get? b = some o := fun b o e => he₈ b o (Nat.ne_of_lt (Heap.lt_size e)) e
      have G₈ := G₇.ext k₈
      unfold assignInOrder
      refine wpAny_bind (assign_Name (sm G₈ fun h₉ G₉ hs₉ => ?_))
      dsimp only
      unfold assignInOrder
      refine wpAny_bind (assign_Name (sm G₉ fun h₁₀ G₁₀ hs₁₀ => ?_))
      refine wpAny_pure ?_
      dsimp only
      have B₁₀ := G₁₀.base B (fun b q => q.elim)
      refine wpAny_execs_cons (wpAny_Return_some (Tuple_ (Calls.spliced_cons (Call_Name1 (bname B₁₀ rfl rfl (m_chr X L w) (b_chr X L w) (callWith_builtin1 (lm G₁₀ rfl (P.chr_of_int (by simp; omega) ?_))) rfl rfl)))))
      dsimp only
      refine Calls.spliced_cons (lm G₁₀ rfl (Calls.spliced_nil (wpAny_newObj_type ?_ (by show (2 : Nat) ≤ sizeLine; rw [sizeLine_eq]; decide))))
      dsimp only
      have e1 : signOf x kd = (c, y) := by
        unfold signOf
        rw [if_neg h13, List.getD_eq_getElem?_getD, hcy]; rfl
      rw [e1] at hQ
      have hL10 : s.heap.objs.size ≤ h₁₀.objs.size := by
        obtain ⟨o, _, _, e, _⟩ := G₁₀.ns
        exact Nat.le_of_lt (Heap.lt_size e)
      exact hQ _ _ _ _ _ (Heap.get?_push_size _ rfl) (get_none_size hL10) fun b o e => Heap.get?_push_of_some _ (G₁₀.keep b o (fun q => q) e)
    all_goals rfl
end
end Mine
end

-- part W8
section
set_option maxRecDepth 100000
set_option maxHeartbeats 400000
namespace Mine
open PySem PySem.W PySem.Calls PyProof.Rows
section
variable {prog : Program} {w : World} {A : Around} {E : Value → Shared → Prop} {s : Shared} {env : Env}
/-- a for over anything that is walked, by an invariant over the turns done; its body neither leaves nor raises -/
theorem for_walk {R : Result → Shared → Prop} {target : Expr} {body : List Stmt} {I : Addr} {fp wr : List Addr} {n : Nat} {P : Nat → Value → Prop} {St : Nat → Heap → Prop} (W : Walks prog w A I fp wr n P St) (Inv : Nat → Shared → Prop)
    (h0 : Inv 0 s) (hst : St 0 s.heap)
    (step : ∀ i s v h' tk (E' : Value → Shared → Prop), i < n → Inv i s → P i v → St (i + 1) h' → (∀ b o, b ∉ wr → s.heap.get? b = some o → h'.get? b = some o) →
      wpAny (model prog w) A (assign target env v) (fun _ s₂ => wpAny (model prog w) A (execs body env) (fun f s₃ => f = .next ∧ Inv (i + 1) s₃ ∧ St (i + 1) s₃.heap) E' s₂) E' { s with heap := h', toks := tk })
    (fin : ∀ s h' tk, Inv n s → (∀ b o, b ∉ wr → s.heap.get? b = some o → h'.get? b = some o) → R (.ok .next) { s with heap := h', toks := tk })
    (hown : ∀ v, letOwnedTupleGo target (.ref I) v = pure () := by intro _; rfl) :
    codeAny (model prog w) A (.forLoop target (.ref I) body [] env) R s := by
  refine codeAny_forLoop (fun k s' => ∃ i, k = n + 1 - i ∧ i ≤ n ∧ Inv i s' ∧ St i s'.heap) ?_ (n + 1) ⟨0, rfl, Nat.zero_le _, h0, hst⟩ hown
  rintro k s' ⟨i, rfl, hi, hI, hS⟩
  by_cases hlt : i < n
  · refine W.item i s' _ _ hlt hS fun v h' tk hP hS' hk => ?_
    refine wpAny_mono (step i s' v h' tk _ hlt hI hP hS' hk) (fun _ s₂ h₂ => wpAny_mono h₂ (fun f s₃ h₃ => ?_) fun _ _ e => e) fun _ _ e => e
    obtain ⟨rfl, a, b⟩ := h₃
    exact ⟨n + 1 - (i + 1), by omega, i + 1, rfl, hlt, a, b⟩
  · obtain rfl : i = n := by omega
    refine W.done s' _ _ hS fun h' tk hk => ?_
    exact wpAny_execs_nil (fin s' h' tk hI hk)
end
end Mine
end

-- part W9
section
set_option maxRecDepth 100000
set_option maxHeartbeats 400000
namespace Mine
open PySem PySem.W PySem.Calls PyProof.Rows
section
variable {M : Model} {prog : Program} {A : Around} {E : Value → Shared → Prop} {s : Shared}
theorem callWith_fn1 {pos : Pos} {f : Addr} {o : Obj} {fd : FuncData} {t : Sem Value} {Q : Value → Shared → Prop} (hdat : o.data = .func fd)
    (h : wpAny M A t (fun v s₁ => s₁.heap.get? f = some o ∧ wpAny M A (PySem.call (.ref f) [v]) Q E s₁) E s) : wpAny M A (callWith pos (.ref f) [] [(false, t)] []) Q E s :=
  callWith_function (o := o) (fd := fd) (evalArgs_plain (spliced_cons (wpAny_mono h (fun _ _ h₁ => spliced_nil ⟨⟨h₁.1, hdat⟩, h₁.2⟩) fun _ _ x => x)))
theorem callWith_fn2 {pos : Pos} {f : Addr} {o : Obj} {fd : FuncData} {t₁ t₂ : Sem Value} {Q : Value → Shared → Prop} (hdat : o.data = .func fd)
    (h : wpAny M A t₁ (fun v s₁ => wpAny M A t₂ (fun u s₂ => s₂.heap.get? f = some o ∧ wpAny M A (PySem.call (.ref f) [v, u]) Q E s₂) E s₁) E s) : wpAny M A (callWith pos (.ref f) [] [(false, t₁), (false, t₂)] []) Q E s :=
  callWith_function (o := o) (fd := fd) (evalArgs_plain (spliced_cons (wpAny_mono h (fun _ _ h₁ => spliced_cons (wpAny_mono h₁ (fun _ _ h₂ => spliced_nil ⟨⟨h₂.1, hdat⟩, h₂.2⟩) fun _ _ x => x)) fun _ _ x => x)))
theorem callWith_fn3 {pos : Pos} {f : Addr} {o : Obj} {fd : FuncData} {t₁ t₂ t₃ : Sem Value} {Q : Value → Shared → Prop} (hdat : o.data = .func fd)
    (h : wpAny M A t₁ (fun v s₁ => wpAny M A t₂ (fun u s₂ => wpAny M A t₃ (fun z s₃ => s₃.heap.get? f = some o ∧ wpAny M A (PySem.call (.ref f) [v, u, z]) Q E s₃) E s₂) E s₁) E s) : wpAny M A (callWith pos (.ref f) [] [(false, t₁), (false, t₂), (false, t₃)] []) Q E s :=
  callWith_function (o := o) (fd := fd) (evalArgs_plain (spliced_cons (wpAny_mono h (fun _ _ h₁ => spliced_cons (wpAny_mono h₁ (fun _ _ h₂ => spliced_cons (wpAny_mono h₂ (fun _ _ h₃ => spliced_nil ⟨⟨h₃.1, hdat⟩, h₃.2⟩) fun _ _ x => x)) fun _ _ x => x)) fun _ _ x => x)))
end
/-- a list of texts of one sign -/
inductive SignsAre : List Value → List Nat → Prop
  | nil : SignsAre [] []
  | cons (c : Nat) (t : Tok) {vs : List Value} {cs : List Nat} : SignsAre vs cs → SignsAre (.str ⟨#[c]⟩ t :: vs) (c :: cs)
theorem SignsAre.length {vs : List Value} {cs : List Nat} (h : SignsAre vs cs) : vs.length = cs.length := by
  induction h with
  | nil => rfl
  | cons _ _ _ ih => simp [ih]
theorem SignsAre.at {vs : List Value} {cs : List Nat} (h : SignsAre vs cs) : ∀ (i : Nat) (v : Value), vs[i]? = some v → ∃ c t, cs[i]? = some c ∧ v = .str ⟨#[c]⟩ t := by
  induction h with
  | nil => intro i v h; simp at h
  | cons c t _ ih =>
    intro i v h
    cases i with
    | zero => simp at h; subst h; exact ⟨c, t, rfl, rfl⟩
    | succ i => exact ih i v (by simpa using h)
def prepStep (k : Str) (c : Nat) : Str := if (c : Int) ∈ b1L then k else k ++ mapped c
def prepOf (cs : List Nat) : Str := cs.foldl prepStep (Str.ofString "")
theorem prepOf_take_succ {cs : List Nat} {i c : Nat} (h : cs[i]? = some c) : prepOf (cs.take (i + 1)) = prepStep (prepOf (cs.take i)) c := by
  unfold prepOf
  rw [List.take_add_one, h, List.foldl_append]; rfl
section
variable {X : Nat → Obj} {L : Life} {kvs : List (Int × Value)} {w : World} {h h' : Heap} {s : Shared} {A : Around} {E : Value → Shared → Prop}
theorem h1_o172 (X L w) : (H1 X L w).get? 172 = some (o172_p12 w.params) := by kernel_rfl
theorem h1_c172 (X L w) : (H1 X L w).CodeRec (.ref 171) (Str.ofString "_law_prepared") := ⟨171, o171_p12 w.params, _, _, rfl, (by kernel_rfl), rfl, rfl⟩
theorem m_inb1 (X L w) : (H1 X L w).nsMap mainGlobals (Str.ofString "in_table_b1") = some (.ref 46) := by kernel_rfl
theorem m_mapb3 (X L w) : (H1 X L w).nsMap mainGlobals (Str.ofString "map_table_b3") = some (.ref 92) := by kernel_rfl
theorem prepared_ok {l : Addr} {vs : List Value} {cs : List Nat} {Q : Value → Shared → Prop} (B : Base X L kvs w s.heap) (hA : A.depth + 1 < recursionLimit) (hh : A.handled = none) (hl : s.heap.IsList l vs.toArray) (hv : SignsAre vs cs)
    (hn : cs.length ≤ 1000) (hm : ∀ c ∈ cs, (mapped c).length ≤ 1000)
    (hQ : ∀ h' tk t', (∀ b o, s.heap.get? b = some o → h'.get? b = some o) → Q (.str (prepOf cs) t') { s with heap := h', toks := tk }) :
    wpAny (model pw w) A (PySem.call (.ref 172) [.ref l]) Q E s := by
  refine fcall B (by omega) (h1_o172 X L w) (h1_c172 X L w) rfl (binds := [(Str.ofString "signs", .ref l)]) rfl rfl rfl rfl rfl (by decide) fun h₁ F₁ => ?_
  have G₁ := Fm.of (D := fun _ => False) F₁
  have hl₁ : h₁.IsList l vs.toArray := hl.at fun o e => F₁.keep _ _ e
  refine wpAny_execs_cons (wpAny_Assign_Name (wpAny_mkText (sm G₁ fun h₂ G₂ hs₂ => ?_)))
  dsimp only
  have hlL : l ≠ s.heap.objs.size := by obtain ⟨o, ho, _⟩ := hl; exact Nat.ne_of_lt (Heap.lt_size ho)
  have hl₂ : h₂.IsList l vs.toArray := hl₁.extBut hs₂.extBut hlL
  have hL₂ : s.heap.objs.size < h₂.objs.size := by obtain ⟨o, _, _, e, _⟩ := G₂.ns; exact Heap.lt_size e
  have hlI : l ≠ h₂.objs.size := by obtain ⟨o, ho, _⟩ := hl₂; exact Nat.ne_of_lt (Heap.lt_size ho)
  refine wpAny_execs_cons (wpAny_For (lm G₂ rfl (wpAny_pyIter_list hl₂ ?_)))
  dsimp only
  have W := Walks.list (prog := pw) (w := w) (A := A.deeper (envOf (Str.ofString "_law_prepared") (pDef 12).2.2 s.heap.objs.size 172 (.ref 171))) hh h₂.objs.size l hlI vs.toArray
  refine for_walk W (fun i s' => ∃ h' tk m t', s' = { s with heap := h', toks := tk } ∧ Fm (fun _ => False) s.heap s.heap.objs.size h' m ∧ m (Str.ofString "kept") = some (.str (prepOf (cs.take i)) t') ∧ (prepOf (cs.take i)).length ≤ 1000 * i) ?_ ?_ ?_ ?_
  · exact ⟨_, _, _, _, rfl, G₂.ext fun b o e => Heap.get?_push_of_some _ e, rfl, by simp [prepOf]; decide⟩
  · exact ⟨⟨_, Heap.get?_push_size _ rfl, rfl, rfl⟩, hl₂.at fun o e => Heap.get?_push_of_some _ e⟩
  · rintro i s' v h' tk E' hi ⟨h₃, tk₃, m, t', rfl, G₃, hk, hlen⟩ hP hS hkeep
    obtain ⟨c, tc, hc, rfl⟩ := hv.at i v (by simpa using hP)
    have hcm := hm c (List.mem_of_getElem? hc)
    have hi' : i < 1000 := by
      have h1 : i < vs.toArray.size := hi
      have h2 := hv.length
      simp at h1
      omega
    have hIs : s.heap.get? h₂.objs.size = none := get_none_size (Nat.le_of_lt hL₂)
    have hIL : h₂.objs.size ≠ s.heap.objs.size := Nat.ne_of_gt hL₂
    have G₄ : Fm (fun _ => False) s.heap s.heap.objs.size h' m := G₃.other (l := h₂.objs.size) (fun b o hb e => hkeep b o (by simpa using hb) e) hIs hIL
    obtain ⟨hS1, hS2⟩ := hS
    refine assign_Name (sm G₄ fun h₅ G₅ hs₅ => ?_)
    have B₅ := G₅.base B (fun b q => q.elim)
    dsimp only
    refine wpAny_execs_cons (wpAny_Assign_Name (Call_Name1 (gname B₅ rfl (m_inb1 X L w) (callWith_fn1 rfl (lm G₅ rfl ⟨B₅.keep _ _ (h1_o46 X L w), inb1 B₅ hA fun h₆ tk₆ k₆ => ?_⟩)) rfl rfl)))
    dsimp only
    have G₆ := G₅.ext k₆
    refine sm G₆ fun h₇ G₇ hs₇ => ?_
    have B₇ := G₇.base B (fun b q => q.elim)
    dsimp only
    have tr₇ : ∀ b o, b ≠ s.heap.objs.size → h'.get? b = some o → h₇.get? b = some o := fun b o hb e => (hs₇.2 b hb).trans (k₆ _ _ ((hs₅.2 b hb).trans e))
    refine wpAny_execs_cons (wpAny_If (wpAny_isTrue_Compare1 (lm G₇ rfl (wpAny_pure (wpAny_is_plain rfl (wpAny_truthy_bool ?_))))))
    by_cases hb : (c : Int) ∈ b1L
    · rw [decide_eq_true hb, if_neg (by decide)]
      refine wpAny_execs_cons (wpAny_If (wpAny_isTrue_Compare1 (lm G₇ (by rw [decide_eq_true hb]; rfl) (wpAny_pure (wpAny_isNot_plain rfl (wpAny_truthy_bool ?_))))))
      rw [if_neg (by decide)]
      refine wpAny_execs_nil (wpAny_execs_nil (wpAny_execs_nil ?_))
      have e1 : prepOf (cs.take (i + 1)) = prepOf (cs.take i) := by rw [prepOf_take_succ hc]; unfold prepStep; rw [if_pos hb]
      refine ⟨rfl, ⟨h₇, _, _, t', rfl, G₇, ?_, by rw [e1]; omega⟩, hS1.at fun o e => tr₇ _ _ hIL e, hS2.at fun o e => tr₇ _ _ hlL e⟩
      rw [e1]
      exact (if_neg (by decide)).trans ((if_neg (by decide)).trans hk)
    · rw [decide_eq_false hb, if_pos (by decide)]
      have e1 : prepOf (cs.take (i + 1)) = prepOf (cs.take i) ++ mapped c := by rw [prepOf_take_succ hc]; unfold prepStep; rw [if_neg hb]
      have hln : (prepOf (cs.take (i + 1))).length ≤ 1000 * (i + 1) := by rw [e1, Str.length_append]; omega
      refine wpAny_execs_cons (wpAny_Assign_Name (wpAny_BinOp (lm G₇ ((if_neg (by decide)).trans ((if_neg (by decide)).trans hk)) (Call_Name1 (gname B₇ rfl (m_mapb3 X L w) (callWith_fn1 rfl (lm G₇ rfl ⟨B₇.keep _ _ (h1_o92 X L w), mapb3 B₇ hA fun h₈ tk₈ t₈ k₈ => PyProof.Rows.add_str (fun t₉ tk₉ => ?_) ?_⟩)) rfl rfl)))))
      · have G₈ := G₇.ext k₈
        refine sm G₈ fun h₉ G₉ hs₉ => ?_
        dsimp only
        refine wpAny_execs_nil (wpAny_execs_nil ?_)
        have tr₉ : ∀ b o, b ≠ s.heap.objs.size → h'.get? b = some o → h₉.get? b = some o := fun b o hb e => (hs₉.2 b hb).trans (k₈ _ _ (tr₇ b o hb e))
        refine ⟨rfl, ⟨h₉, _, _, t₉, rfl, G₉, ?_, hln⟩, hS1.at fun o e => tr₉ _ _ hIL e, hS2.at fun o e => tr₉ _ _ hlL e⟩
        rw [e1]; rfl
      · rw [sizeLine_eq]; omega
  · rintro s' h' tk ⟨h₃, tk₃, m, t', rfl, G₃, hk, hlen⟩ hkeep
    have hIs : s.heap.get? h₂.objs.size = none := get_none_size (Nat.le_of_lt hL₂)
    have G₄ : Fm (fun _ => False) s.heap s.heap.objs.size h' m := G₃.other (l := h₂.objs.size) (fun b o hb e => hkeep b o (by simpa using hb) e) hIs (Nat.ne_of_gt hL₂)
    have e1 : cs.take vs.toArray.size = cs := by rw [List.size_toArray, hv.length, List.take_length]
    rw [e1] at hk
    dsimp only
    refine wpAny_execs_cons (wpAny_Return_some (lm G₄ hk ?_))
    exact hQ h' _ t' fun b o e => G₄.keep b o (fun q => q) e
end
end Mine
end

-- part W10
section
set_option maxRecDepth 100000
set_option maxHeartbeats 400000
namespace Mine
open PySem PySem.W PySem.Calls PyProof.Rows
section
variable {prog : Program} {w : World} {A : Around} {E : Value → Shared → Prop} {s : Shared} {env : Env}
/-- the tests of a comprehension's clause -/
abbrev testsOf (ifs : List Expr) (cenv : Env) : Sem Bool := forIn ifs true fun c r => if r = true then do let ok ← isTrue c cenv (eval c cenv); pure (ForInStep.yield ok) else pure (ForInStep.yield r)
/-- what stands in a comprehension between two turns: the list D that is built, the block's names C, the iterator's state -/
structure InComp' (D C : Addr) (ys : List Value) (S : Heap → Prop) (h : Heap) : Prop where
  acc : h.PlainList D ys.toArray
  ns : ∃ m, h.Ns C m
  it : S h
theorem comp_loop {R : Result → Shared → Prop} {elt target iter : Expr} {ifs : List Expr} {scope : Scope} {pos : Pos} {I D : Addr} {cenv : Env} {fp wr : List Addr} {n : Nat} {P : Nat → Value → Prop} {St : Nat → Heap → Prop}
    (W : Walks prog w A I fp wr n P St) (Inv : Nat → List Value → Shared → Prop) (hn : n ≤ sizeLine) (hD : D ∉ wr) (hC : cenv.locals ∉ wr) (hDf : D ∉ fp) (hDC : D ≠ cenv.locals)
    (h0 : Inv 0 [] s) (hin : InComp' D cenv.locals [] (St 0) s.heap)
    (step : ∀ i ys s v h' tk (E' : Value → Shared → Prop), i < n → ys.length ≤ i → Inv i ys s → P i v → InComp' D cenv.locals ys (St (i + 1)) h' → (∀ b o, b ∉ wr → s.heap.get? b = some o → h'.get? b = some o) →
      wpAny (model prog w) A (assign target cenv v) (fun _ s₂ => wpAny (model prog w) A (testsOf ifs cenv) (fun ok s₃ =>
        if ok = true then wpAny (model prog w) A (eval elt cenv) (fun y s₄ => InComp' D cenv.locals ys (St (i + 1)) s₄.heap ∧ ∀ h₅, Heap.SameBut D s₄.heap h₅ → Inv (i + 1) (ys ++ [y]) { s₄ with heap := h₅ }) E' s₃
        else InComp' D cenv.locals ys (St (i + 1)) s₃.heap ∧ Inv (i + 1) ys s₃) E' s₂) E' { s with heap := h', toks := tk })
    (fin : ∀ ys s h' tk, Inv n ys s → (∀ b o, b ∉ wr → s.heap.get? b = some o → h'.get? b = some o) → h'.PlainList D ys.toArray → (∃ m, h'.Ns cenv.locals m) → R (.ok .next) { s with heap := h', toks := tk })
    (hown : ∀ v, letOwnedTupleGo target (.ref I) v = pure () := by intro _; rfl) :
    codeAny (model prog w) A (.compLoop (.ListComp elt [⟨target, iter, ifs, 0⟩] scope pos) 0 (.ref I) (.ref D) cenv) R s := by
  refine codeAny_compLoop_tests (fun k s' => ∃ i ys, k = n + 1 - i ∧ i ≤ n ∧ ys.length ≤ i ∧ Inv i ys s' ∧ InComp' D cenv.locals ys (St i) s'.heap) ?_ (n + 1) ⟨0, [], rfl, Nat.zero_le _, Nat.le_refl _, h0, hin⟩ hown
  rintro k s' ⟨i, ys, rfl, hi, hy, hI, hS⟩
  by_cases hlt : i < n
  · refine W.item i s' _ _ hlt hS.it fun v h' tk hP hS' hk => ?_
    have hin' : InComp' D cenv.locals ys (St (i + 1)) h' := ⟨hS.acc.at fun o e => hk _ _ hD e, let ⟨m, hm⟩ := hS.ns; ⟨m, hm.at' fun o e => hk _ _ hC e⟩, hS'⟩
    refine wpAny_mono (step i ys s' v h' tk _ hlt hy hI hP hin' hk) (fun _ s₂ h₂ => wpAny_mono h₂ (fun ok s₃ h₃ => ?_) fun _ _ e => e) fun _ _ e => e
    cases ok with
    | false =>
      simp only [Bool.false_eq_true, if_false] at h₃ ⊢
      exact ⟨n + 1 - (i + 1), by omega, i + 1, ys, rfl, hlt, by omega, h₃.2, h₃.1⟩
    | true =>
      simp only [if_true] at h₃ ⊢
      refine wpAny_mono h₃ (fun y s₄ h₄ => ?_) fun _ _ e => e
      obtain ⟨a, b⟩ := h₄
      refine wpAny_list_append_plain (hsz := by simp; omega) a.acc fun h₅ hl₅ hs₅ => ?_
      refine ⟨n + 1 - (i + 1), by omega, i + 1, ys ++ [y], rfl, hlt, by simp; omega, b h₅ hs₅, by simpa using hl₅, ?_, ?_⟩
      · obtain ⟨m, hm⟩ := a.ns
        exact ⟨m, hm.sameBut hs₅ (Ne.symm hDC)⟩
      · exact W.frame _ _ _ a.it fun q hq o e => (hs₅.2 q (fun z => hDf (z ▸ hq))).trans e
  · obtain rfl : i = n := by omega
    refine W.done s' _ _ hS.it fun h' tk hk => ?_
    exact fin ys s' h' tk hI hk (hS.acc.at fun o e => hk _ _ hD e) (let ⟨m, hm⟩ := hS.ns; ⟨m, hm.at' fun o e => hk _ _ hC e⟩)
end
end Mine
end

-- part W11
section
set_option maxRecDepth 100000
set_option maxHeartbeats 400000
namespace Mine
open PySem PySem.W PySem.Calls PyProof.Rows
section
variable {prog : Program} {w : World} {A : Around} {E : Value → Shared → Prop} {s : Shared} {env : Env}
/-- all that a list comprehension over `it` asks, from the state behind pyIter on; the list lies at the heap's end, its block's names behind it -/
def CompOk (prog : Program) (w : World) (A : Around) (env : Env) (scope : Scope) (cl : List (Str × Addr)) (target : Expr) (ifs : List Expr) (elt : Expr) (it : Value) (s₂ : Shared) (K : List Value → Shared → Prop) : Prop :=
  ∃ (I : Addr) (fp wr : List Addr) (n : Nat) (P : Nat → Value → Prop) (St : Nat → Heap → Prop) (Inv : Nat → List Value → Shared → Prop), it = .ref I ∧ Walks prog w A I fp wr n P St ∧ n ≤ sizeLine ∧ St 0 s₂.heap ∧ (∀ b ∈ fp, b < s₂.heap.objs.size) ∧
    (∀ h₁ tk, (∀ b o, s₂.heap.get? b = some o → h₁.get? b = some o) → h₁.objs.size = s₂.heap.objs.size + 2 → Inv 0 [] { s₂ with heap := h₁, toks := tk }) ∧
    (∀ i ys s v h' tk (E' : Value → Shared → Prop), i < n → ys.length ≤ i → Inv i ys s → P i v → InComp' s₂.heap.objs.size (s₂.heap.objs.size + 1) ys (St (i + 1)) h' → (∀ b o, b ∉ wr → s.heap.get? b = some o → h'.get? b = some o) →
      wpAny (model prog w) A (assign target (compEnvC scope cl (s₂.heap.objs.size + 1) env) v) (fun _ s₂' => wpAny (model prog w) A (testsOf ifs (compEnvC scope cl (s₂.heap.objs.size + 1) env)) (fun ok s₃ =>
        if ok = true then wpAny (model prog w) A (eval elt (compEnvC scope cl (s₂.heap.objs.size + 1) env)) (fun y s₄ => InComp' s₂.heap.objs.size (s₂.heap.objs.size + 1) ys (St (i + 1)) s₄.heap ∧ ∀ h₅, Heap.SameBut s₂.heap.objs.size s₄.heap h₅ → Inv (i + 1) (ys ++ [y]) { s₄ with heap := h₅ }) E' s₃
        else InComp' s₂.heap.objs.size (s₂.heap.objs.size + 1) ys (St (i + 1)) s₃.heap ∧ Inv (i + 1) ys s₃) E' s₂') E' { s with heap := h', toks := tk }) ∧
    (∀ ys s h' tk, Inv n ys s → (∀ b o, b ∉ wr → s.heap.get? b = some o → h'.get? b = some o) → h'.PlainList s₂.heap.objs.size ys.toArray → (∃ m, h'.Ns (s₂.heap.objs.size + 1) m) → K ys { s with heap := h', toks := tk })

theorem comp_block {elt target iter : Expr} {ifs : List Expr} {scope : Scope} {cl : List (Str × Addr)} {pos : Pos} {s₂ : Shared} {it : Value} {RR : Value → Addr → Result → Shared → Prop}
    (hcell : ∀ y ∈ scope.names, y.2 ≠ .cell) (hkind : scope.kind = .function)
    (h : CompOk prog w A env scope cl target ifs elt it s₂ fun _ s' => RR (.ref s₂.heap.objs.size) (s₂.heap.objs.size + 1) (.ok .next) s')
    (hown : ∀ I v, letOwnedTupleGo target (.ref I) v = pure () := by intro _ _; rfl) :
    wpAny (model prog w) A (newList []) (fun acc s₃ => wpAny (model prog w) A (newFunctionEnv scope env.globals cl [] env.qual none .none (some env)) (fun cenv s₄ =>
      codeAny (model prog w) A (.compStart (.ListComp elt [⟨target, iter, ifs, 0⟩] scope pos) 0 it acc { cenv with scope := relabel scope env }) (RR acc cenv.locals) s₄) E s₃) E s₂ := by
  obtain ⟨I, fp, wr, n, P, St, Inv, rfl, W, hsz, hst, hfp, h0, hstep, hfin⟩ := h
  refine wpAny_newObj_type (wpAny_newFunctionEnv hcell (by intro y hy; simp at hy) (fun h₁ hns₁ hsb₁ => ?_) hkind)
  dsimp only at hns₁ hsb₁ ⊢
  have hC : (s₂.heap.push { cls := .type "list", dict := none, data := .seq ([] : List Value).toArray }).objs.size = s₂.heap.objs.size + 1 := Heap.size_push ..
  rw [hC] at hns₁ hsb₁ ⊢
  have hfr : ∀ b, s₂.heap.objs.size ≤ b → b ∉ fp := fun b hb hm => Nat.lt_irrefl _ (Nat.lt_of_lt_of_le (hfp _ hm) hb)
  have old : ∀ b o, s₂.heap.get? b = some o → h₁.get? b = some o := fun b o e => hsb₁.extBut b o (Nat.ne_of_lt (Nat.lt_succ_of_lt (Heap.lt_size e))) (Heap.get?_push_of_some _ (Heap.get?_push_of_some _ e))
  have hacc : h₁.PlainList s₂.heap.objs.size #[] := ⟨_, hsb₁.extBut _ _ (Nat.ne_of_lt (Nat.lt_succ_self _)) (Heap.get?_push_of_some _ (Heap.get?_push_size _ rfl))⟩
  have hst₁ : St 0 h₁ := W.frame _ _ _ hst fun b _ o e => old b o e
  have hs1 : h₁.objs.size = s₂.heap.objs.size + 2 := by
    have := hsb₁.1
    rw [this, Heap.size_push, hC]
  have loop : ∀ s₃ : Shared, s₃ = { s₂ with heap := h₁, toks := s₂.toks + ([] : List (Str × Value)).length } →
      codeAny (model prog w) A (.compLoop (.ListComp elt [⟨target, iter, ifs, 0⟩] scope pos) 0 (.ref I) (.ref s₂.heap.objs.size) (compEnvC scope cl (s₂.heap.objs.size + 1) env))
        (RR (.ref s₂.heap.objs.size) (s₂.heap.objs.size + 1)) s₃ := by
    rintro s₃ rfl
    exact comp_loop (cenv := compEnvC scope cl (s₂.heap.objs.size + 1) env) W Inv hsz (fun hm => hfr _ (Nat.le_refl _) (W.sub _ hm)) (fun hm => hfr _ (Nat.le_succ _) (W.sub _ hm)) (hfr _ (Nat.le_refl _)) (Nat.ne_of_lt (Nat.lt_succ_self _))
      (h0 _ _ old hs1) ⟨hacc, ⟨_, hns₁⟩, hst₁⟩ hstep hfin (hown I)
  exact codeAny_compStart_list (loop _ rfl) (W.self 0 _ _ _ hst₁ (loop _ rfl))

theorem ListComp_ok {elt target iter : Expr} {ifs : List Expr} {scope : Scope} {cl : List (Str × Addr)} {pos : Pos} {Q : Value → Shared → Prop}
    (hclos : closureFor scope env = pure cl) (hcell : ∀ y ∈ scope.names, y.2 ≠ .cell) (hkind : scope.kind = .function)
    (hnames : ∀ y ∈ scope.names, y.2 = .local → scope.names.lookup y.1 = some .local)
    (h : wpAny (model prog w) A (eval iter env) (fun xv s₁ => wpAny (model prog w) A (pyIter xv) (fun it s₂ => CompOk prog w A env scope cl target ifs elt it s₂ fun ys s' =>
      ∀ h', Heap.SameBut (s₂.heap.objs.size + 1) s'.heap h' → h'.PlainList s₂.heap.objs.size ys.toArray → Q (.ref s₂.heap.objs.size) { s' with heap := h' }) E s₁) E s)
    (hs : ∀ x, foldedSetIterable iter env x = pure x := by intro _; rfl) (hown : ∀ I v, letOwnedTupleGo target (.ref I) v = pure () := by intro _ _; rfl) :
    wpAny (model prog w) A (eval (.ListComp elt [⟨target, iter, ifs, 0⟩] scope pos) env) Q E s := by
  rw [eval_ListComp]
  refine wpAny_comprehension_free (use := none) rfl hs hclos hkind hnames (wpAny_mono h (fun xv s₁ h₁ => wpAny_mono h₁ (fun it s₂ h₂ => ?_) fun _ _ e => e) fun _ _ e => e)
  refine comp_block (RR := fun acc C => compPost (model prog w) A E none Q acc C) hcell hkind ?_ hown
  obtain ⟨I, fp, wr, n, P, St, Inv, hI, W, hsz, hst, hfp, h0, hstep, hfin⟩ := h₂
  refine ⟨I, fp, wr, n, P, St, Inv, hI, W, hsz, hst, hfp, h0, hstep, fun ys s' h' tk hi hk hl ⟨m, hm⟩ => ?_⟩
  exact ⟨m, hm, fun h'' hs'' => hfin ys s' h' tk hi hk hl ⟨m, hm⟩ h'' hs'' (hl.extBut hs''.extBut (Nat.ne_of_lt (Nat.lt_succ_self _)))⟩
theorem Assign_ListComp_ok {elt target iter : Expr} {ifs : List Expr} {scope : Scope} {cl : List (Str × Addr)} {y : Str} {py pos spos : Pos} {Q : Flow → Shared → Prop}
    (hsw : swapsWith (.ListComp elt [⟨target, iter, ifs, 0⟩] scope pos) (some (.Name y py)) spos.line env = pure true)
    (hclos : closureFor scope env = pure cl) (hcell : ∀ y ∈ scope.names, y.2 ≠ .cell) (hkind : scope.kind = .function)
    (hnames : ∀ y ∈ scope.names, y.2 = .local → scope.names.lookup y.1 = some .local)
    (h : wpAny (model prog w) A (eval iter env) (fun xv s₁ => wpAny (model prog w) A (pyIter xv) (fun it s₂ => CompOk prog w A env scope cl target ifs elt it s₂ fun ys s' => s'.heap.PlainList s₂.heap.objs.size ys.toArray →
      (∃ m, s'.heap.Ns (s₂.heap.objs.size + 1) m) →
      wpAny (model prog w) A (assign (.Name y py) env (.ref s₂.heap.objs.size)) (fun _ s'' => (∃ m, s''.heap.Ns (s₂.heap.objs.size + 1) m) ∧ ∀ h', Heap.SameBut (s₂.heap.objs.size + 1) s''.heap h' → Q .next { s'' with heap := h' }) E s') E s₁) E s)
    (hs : ∀ x, foldedSetIterable iter env x = pure x := by intro _; rfl) (hown : ∀ I v, letOwnedTupleGo target (.ref I) v = pure () := by intro _ _; rfl) :
    wpAny (model prog w) A (exec (.Assign [.Name y py] (.ListComp elt [⟨target, iter, ifs, 0⟩] scope pos) spos) env) Q E s := by
  rw [exec_Assign_Name_used _ _ _ _ hsw]
  refine wpAny_bind (wpAny_standAt (wpAny_bind ?_))
  show wpAny _ A (do let _ ← comprehension (.ListComp elt [⟨target, iter, ifs, 0⟩] scope pos) scope env _ (newList []) false (eval iter env) (some (assign (.Name y py) env))) _ _ s
  refine wpAny_bind (wpAny_mono (wpAny_comprehension_free (use := some (assign (.Name y py) env)) (Q := fun _ s' => Q .next s') rfl hs hclos hkind hnames
    (wpAny_mono h (fun xv s₁ h₁ => wpAny_mono h₁ (fun it s₂ h₂ => ?_) fun _ _ e => e) fun _ _ e => e)) (fun _ s' hq => wpAny_pure (wpAny_pure hq)) fun _ _ e => e)
  refine comp_block (RR := fun acc C => compPost (model prog w) A E (some (assign (.Name y py) env)) (fun _ s' => Q .next s') acc C) hcell hkind ?_ hown
  obtain ⟨I, fp, wr, n, P, St, Inv, hI, W, hsz, hst, hfp, h0, hstep, hfin⟩ := h₂
  refine ⟨I, fp, wr, n, P, St, Inv, hI, W, hsz, hst, hfp, h0, hstep, fun ys s' h' tk hi hk hl hm => ?_⟩
  show wpAny _ A (assign (.Name y py) env _) _ _ _
  exact wpAny_mono (hfin ys s' h' tk hi hk hl hm hl hm) (fun _ s'' ⟨⟨m, hm⟩, hq⟩ => ⟨m, hm, hq⟩) fun _ _ e => e
end
end Mine
end

-- part W12
section
set_option maxRecDepth 100000
set_option maxHeartbeats 400000
namespace Mine
open PySem PySem.W PySem.Calls PyProof.Rows
section
variable {X : Nat → Obj} {L : Life} {kvs : List (Int × Value)} {w : World} {h h' : Heap} {s : Shared} {A : Around} {E : Value → Shared → Prop}
/-- the place of a letter among f, i, s -/
def rk (c : Nat) : Nat := if c = 102 then 0 else if c = 105 then 1 else 2
def Fis (c : Nat) : Prop := c = 102 ∨ c = 105 ∨ c = 115
def tabL (c : Nat) : List Nat := List.replicate (rk c) 32 ++ [9]
def indentL (cs : List Nat) : List Nat := cs.flatMap tabL
theorem Walks.imp {prog : Program} {I : Addr} {fp wr : List Addr} {n : Nat} {P P' : Nat → Value → Prop} {St : Nat → Heap → Prop} (W : Walks prog w A I fp wr n P St) (hP : ∀ i v, P i v → P' i v) : Walks prog w A I fp wr n P' St :=
  ⟨W.sub, W.frame, fun i s Q E hi st hQ => W.item i s Q E hi st fun v h' tk hv => hQ v h' tk (hP i v hv), W.done, W.self⟩
def SignIs (cs : List Nat) (i : Nat) (v : Value) : Prop := ∃ c t, cs[i]? = some c ∧ v = .str ⟨#[c]⟩ t
/-- a text, or a list of texts of one sign each -/
inductive Letters (h : Heap) (cs : List Nat) : Value → Prop
  | str (x : Str) (t : Tok) : x.cps.toList = cs → Letters h cs (.str x t)
  | list (a : Addr) (vs : List Value) : h.IsList a vs.toArray → SignsAre vs cs → Letters h cs (.ref a)
theorem Letters.keeps {cs : List Nat} {v : Value} (l : Letters h cs v) (k : ∀ b o, h.get? b = some o → h'.get? b = some o) : Letters h' cs v := by
  cases l with
  | str x t e => exact .str x t e
  | list a vs hl hs => exact .list a vs (hl.at fun o e => k _ o e) hs
theorem letters_iter {cs : List Nat} {v : Value} {Q : Value → Shared → Prop} (l : Letters s.heap cs v) (hh : A.handled = none)
    (hQ : ∀ o fp wr St, Walks pw w A s.heap.objs.size fp wr cs.length (SignIs cs) St → St 0 (s.heap.push o) → (∀ b ∈ fp, b < (s.heap.push o).objs.size) → (∀ b ∈ wr, b = s.heap.objs.size) → Q (.ref s.heap.objs.size) { s with heap := s.heap.push o }) :
    wpAny (model pw w) A (pyIter v) Q E s := by
  cases l with
  | str x t e =>
    subst e
    refine wpAny_pyIter_str fun o St W hst => ?_
    refine hQ o [s.heap.objs.size] [s.heap.objs.size] St ?_ hst (by intro b hb; simp at hb; subst hb; rw [Heap.size_push]; exact Nat.lt_succ_self _) (by intro b hb; simpa using hb)
    have := (W A hh)
    rw [Array.length_toList]
    exact Mine.Walks.imp this fun i v ⟨c, u, hc, hv⟩ => ⟨c, u, by simpa using hc, hv⟩
  | list a vs hl hs =>
    have hne : a ≠ s.heap.objs.size := by obtain ⟨o, ho, _⟩ := hl; exact Nat.ne_of_lt (Heap.lt_size ho)
    have hla : a < s.heap.objs.size := by obtain ⟨o, ho, _⟩ := hl; exact Heap.lt_size ho
    refine wpAny_pyIter_list hl (hQ _ [s.heap.objs.size, a] [s.heap.objs.size] (fun i h => h.IsListIter s.heap.objs.size a i ∧ h.IsList a vs.toArray) ?_ ⟨⟨_, Heap.get?_push_size _ rfl, rfl, rfl⟩, hl.at fun o e => Heap.get?_push_of_some _ e⟩ ?_ ?_)
    · have W := Walks.list (prog := pw) (w := w) hh s.heap.objs.size a hne vs.toArray
      rw [← hs.length]
      exact Mine.Walks.imp W fun i v hv => by
        obtain ⟨c, t, hc, e⟩ := hs.at i v (by simpa using hv)
        exact ⟨c, t, hc, e⟩
    · intro b hb
      simp at hb
      rw [Heap.size_push]
      rcases hb with rfl | rfl
      · exact Nat.lt_succ_self _
      · exact Nat.lt_succ_of_lt hla
    · intro b hb; simpa using hb
theorem h1_o177 (X L w) : (H1 X L w).get? 177 = some (o177_p13 w.params) := by kernel_rfl
theorem h1_c177 (X L w) : (H1 X L w).CodeRec (.ref 176) (Str.ofString "_law_indent") := ⟨176, o176_p13 w.params, _, _, rfl, (by kernel_rfl), rfl, rfl⟩
theorem fis_index {c : Nat} (hc : Fis c) : Builtin.Str.occurrences (Str.ofString "fis") ⟨#[c]⟩ 0 (Str.ofString "fis").length 1 = [rk c] := by
  rcases hc with rfl | rfl | rfl <;> kernel_rfl
theorem join_empty : ∀ (ls : List (List Nat)), Txt.join (Str.ofString "") (ls.map fun l => (⟨l.toArray⟩ : Str)) = ⟨ls.flatten.toArray⟩ := by
  intro ls
  show Builtin.Str.glued _ _ = _
  rw [StrLaws.glued_eq_join]
  induction ls with
  | nil => rfl
  | cons a r ih =>
    cases r with
    | nil => simp [Str.join]
    | cons b r =>
      show (⟨a.toArray⟩ : Str) ++ Str.ofString "" ++ Str.join (Str.ofString "") ((b :: r).map fun l => (⟨l.toArray⟩ : Str)) = _
      rw [ih]
      apply Str.ext'
      simp [Str.cps_append, show (Str.ofString "").cps = #[] from rfl]
theorem join_fits : ∀ (ls : List (List Nat)), ls.length ≤ 10000 → (∀ l ∈ ls, l.length ≤ 100) → JoinOk (Str.ofString "") (ls.map fun l => (⟨l.toArray⟩ : Str)) = true := by
  intro ls hn h
  unfold JoinOk
  rw [StrLaws.joinTotal]
  have key : ((ls.map fun l => (⟨l.toArray⟩ : Str)).map (·.length)).sum ≤ 100 * ls.length := by
    clear hn
    induction ls with
    | nil => simp
    | cons a r ih =>
      have h1 := h a (by simp)
      have h2 := ih fun l hl => h l (by simp [hl])
      simp only [List.map_cons, List.sum_cons, List.length_cons]
      have h3 : (⟨a.toArray⟩ : Str).length = a.length := by simp [Str.length]
      omega
  have e0 : (Str.ofString "").length = 0 := rfl
  rw [e0]
  unfold Builtin.Str.tooLong
  simp only [Bool.not_eq_true', decide_eq_false_iff_not, Nat.not_lt, gt_iff_lt, sizeLine_eq]
  simp only [List.length_map]
  omega
theorem paired_strs {f : Nat → List Nat} : ∀ {vs ys : List Value} {cs : List Nat}, vs.length = cs.length → (∀ j v, vs[j]? = some v → SignIs cs j v) →
    Paired (fun x y => ∃ c t u, x = .str ⟨#[c]⟩ t ∧ y = .str ⟨(f c).toArray⟩ u) vs ys → ∃ l : List (Str × Tok), ys = strValues l ∧ l.map (·.1) = (cs.map f).map fun l => (⟨l.toArray⟩ : Str)
  | [], [], [], _, _, _ => ⟨[], rfl, rfl⟩
  | [], [], c :: cs, h, _, _ => by simp at h
  | v :: vs, _, [], h, _, _ => by simp at h
  | v :: vs, y :: ys, c :: cs, h, hs, .cons ⟨c', t, u, e1, e2⟩ hp => by
    obtain ⟨l, h1, h2⟩ := paired_strs (vs := vs) (ys := ys) (cs := cs) (by simpa using h) (fun j v hv => by
      obtain ⟨c, t, hc, e⟩ := hs (j + 1) v (by simpa using hv)
      exact ⟨c, t, by simpa using hc, e⟩) hp
    obtain ⟨c₀, t₀, hc, e⟩ := hs 0 v rfl
    simp only [List.getElem?_cons_zero, Option.some.injEq] at hc
    subst hc
    rw [e] at e1
    injection e1 with e1 e3
    injection e1 with e1
    injection e1 with e1
    injection e1 with e1
    subst e1
    exact ⟨(_, u) :: l, by rw [e2, h1]; rfl, by simp only [List.map_cons, h2]⟩
theorem indent_ok {cs : List Nat} {v : Value} {Q : Value → Shared → Prop} (B : Base X L kvs w s.heap) (hA : A.depth < recursionLimit) (hh : A.handled = none) (hl : Letters s.heap cs v) (hf : ∀ c ∈ cs, Fis c) (hn : cs.length ≤ 1000)
    (hQ : ∀ h' tk t', (∀ b o, s.heap.get? b = some o → h'.get? b = some o) → Q (.str ⟨(indentL cs).toArray⟩ t') { s with heap := h', toks := tk }) :
    wpAny (model pw w) A (PySem.call (.ref 177) [v]) Q E s := by
  refine fcall B hA (h1_o177 X L w) (h1_c177 X L w) rfl (binds := [(Str.ofString "letters", v)]) rfl rfl rfl rfl rfl (by decide) fun h₁ F₁ => ?_
  have B₁ := B.mono F₁.keep
  refine wpAny_execs_cons (wpAny_Return_some (Call_method1 rfl rfl rfl (wpAny_mkText (SB.join ?_))))
  refine wpAny_ListComp_free (fun _ => true) (fun x y => ∃ c t u, x = .str ⟨#[c]⟩ t ∧ y = .str ⟨(tabL c).toArray⟩ u) rfl (by decide) rfl (by decide) rfl ?_
  have G₁ := Fm.of (D := fun _ => False) F₁
  refine lm G₁ (v := v) rfl ?_
  have l₁ := hl.keeps F₁.keep
  refine letters_iter l₁ hh fun o fp wr St W hst hfp hwr => ?_
  refine ⟨_, fp, wr, cs.length, SignIs cs, St, rfl, W, by rw [sizeLine_eq]; omega, hst, hfp, ⟨?_, ?_⟩, ?_⟩
  · intro C i v' s₃ m₃ E' _ hP hns hm hk htk
    exact wpAny_pure ⟨rfl, _, _, rfl, fun _ _ e => e⟩
  · rintro C i v' s₃ m₃ E' _ ⟨c, t, hc, rfl⟩ _ hns hm hk htk
    have hcf := hf c (List.mem_of_getElem? hc)
    refine wpAny_BinOp (wpAny_BinOp (wpAny_mkText (Call_method1 rfl rfl rfl (wpAny_mkText (SB.index (wpAny_Name (wpAny_loadName_local rfl rfl hns hm ?_) (by decide)))))))
    refine ⟨_, _, rfl, _, _, fis_index hcf, ?_⟩
    dsimp only
    have fin : ∀ (tt : Tok) (k : Nat), wpAny (model pw w) (A.deeper (envOf (Str.ofString "_law_indent") (pDef 13).2.2 s.heap.objs.size 177 (.ref 176))) (binaryOp .Add (.str ⟨(List.replicate (rk c) 32).toArray⟩ tt) (.str (Str.ofString "\t") k)) (fun y s₄ => (∃ c' t' u, Value.str ⟨#[c]⟩ t = .str ⟨#[c']⟩ t' ∧ y = .str ⟨(tabL c').toArray⟩ u) ∧ Keeps s₃ s₄) E' { s₃ with toks := k + 1 } := fun tt k => by
      refine PyProof.Rows.add_str (fun t₉ tk₉ => ⟨⟨c, t, t₉, rfl, ?_⟩, _, _, rfl, fun _ _ e => e⟩) ?_
      · rcases hcf with rfl | rfl | rfl <;> rfl
      · rcases hcf with rfl | rfl | rfl <;> decide
    refine P.mul_str ?_ ?_ ?_ ?_
    · rcases hcf with rfl | rfl | rfl <;> decide
    · rcases hcf with rfl | rfl | rfl <;> decide
    · rcases hcf with rfl | rfl | rfl <;> decide
    · rcases hcf with rfl | rfl | rfl
      · exact ⟨by decide, wpAny_mkText (fin _ _)⟩
      · exact wpAny_mkText (fin _ _)
      · exact ⟨by decide, wpAny_mkText (fin _ _)⟩
  · intro D h' tk ys vs hD hli hpl hlen hP hF hk
    rw [List.filter_eq_self.mpr (fun _ _ => rfl)] at hF
    obtain ⟨l, h1, h2⟩ := paired_strs (f := tabL) hlen hP hF
    refine ⟨D, l, rfl, ?_, _, h2, join_fits _ (by rw [List.length_map]; omega) ?_, fun t' k => ?_⟩
    · rw [← h1]; exact hli
    · intro x hx
      obtain ⟨c, hc, rfl⟩ := List.mem_map.mp hx
      rcases hf c hc with rfl | rfl | rfl <;> decide
    · rw [join_empty]
      refine hQ _ _ _ fun b o e => hk b o ?_ (Heap.get?_push_of_some _ (F₁.keep _ _ e))
      intro hb
      exact absurd (hwr b hb) (Nat.ne_of_lt (Heap.lt_size (F₁.keep _ _ e)))
end
end Mine
end

-- part W13
section
set_option maxRecDepth 100000
set_option maxHeartbeats 400000
namespace Mine
open PySem PySem.W PySem.Calls PyProof.Rows
section
variable {X : Nat → Obj} {L : Life} {kvs : List (Int × Value)} {w : World} {h h' : Heap} {s : Shared} {A : Around} {E : Value → Shared → Prop}
theorem h1_o154 (X L w) : (H1 X L w).get? 154 = some (o154_p9 w.params) := by kernel_rfl
theorem h1_ns153 (X L w) : (H1 X L w).isNs 153 = true := by kernel_rfl
theorem h1_cls (X L w) : ClsAt (H1 X L w) 154 153 ((H1 X L w).nsMap 153) :=
  ⟨⟨_, _, _, _, _, _, _, _, _, _, _, _, h1_o154 X L w⟩, Heap.Ns.of_isNs (h1_ns153 X L w)⟩
theorem Base.cls (B : Base X L kvs w h) : ClsAt h 154 153 ((H1 X L w).nsMap 153) := (h1_cls X L w).keeps B.keep
theorem h1_o109 (X L w) : (H1 X L w).get? 109 = some (o109_p9 w.params) := by kernel_rfl
theorem h1_c109 (X L w) : (H1 X L w).CodeRec (.ref 108) (Str.ofString "Whitespace.__init__") := ⟨108, o108_p9 w.params, _, _, rfl, (by kernel_rfl), rfl, rfl⟩
theorem h1_o130 (X L w) : (H1 X L w).get? 130 = some (o130_p9 w.params) := by kernel_rfl
theorem h1_c130 (X L w) : (H1 X L w).CodeRec (.ref 129) (Str.ofString "Whitespace.equal") := ⟨129, o129_p9 w.params, _, _, rfl, (by kernel_rfl), rfl, rfl⟩
theorem n_init (X L w) : (H1 X L w).nsMap 153 (Str.ofString "__init__") = some (.ref 109) := by kernel_rfl
theorem n_equal (X L w) : (H1 X L w).nsMap 153 (Str.ofString "equal") = some (.ref 130) := by kernel_rfl
theorem n_sa (X L w) : (H1 X L w).nsMap 153 (Str.ofString "__setattr__") = none := by kernel_rfl
theorem n_ga (X L w) : (H1 X L w).nsMap 153 (Str.ofString "__getattribute__") = none := by kernel_rfl
theorem n_gh (X L w) : (H1 X L w).nsMap 153 (Str.ofString "__getattr__") = none := by kernel_rfl
theorem n_raw (X L w) : (H1 X L w).nsMap 153 (Str.ofString "raw") = none := by kernel_rfl
theorem n_n (X L w) : (H1 X L w).nsMap 153 (Str.ofString "n") = none := by kernel_rfl
theorem n_nt (X L w) : (H1 X L w).nsMap 153 (Str.ofString "nt") = none := by kernel_rfl
theorem n_norm (X L w) : (H1 X L w).nsMap 153 (Str.ofString "norm") = none := by kernel_rfl
theorem n_simple (X L w) : (H1 X L w).nsMap 153 (Str.ofString "is_simple") = none := by kernel_rfl
theorem m_ws (X L w) : (H1 X L w).nsMap mainGlobals (Str.ofString "Whitespace") = some (.ref 154) := by kernel_rfl
theorem h1_o153 (X L w) : (H1 X L w).get? 153 = some (o153_p9 w.params) := by kernel_rfl
theorem h1_o2 (X L w) : (H1 X L w).get? 2 = some (boot_o_2 w.params) := by kernel_rfl
noncomputable def wsK (w : World) : Frag := [(154, o154_p9 w.params), (153, o153_p9 w.params), (2, boot_o_2 w.params)]
theorem Base.wsK (B : Base X L kvs w h) : (wsK w).In h := Frag.In.keeps (h := H1 X L w) (Frag.in_of (as := [154, 153, 2]) rfl (by
  show [_, _, _] = [_, _, _]
  rw [h1_o154, h1_o153, h1_o2])) B.keep
theorem ws_reads (w : World) : readsIn (wsK w) 154 (.type "type") = true := by kernel_rfl
theorem ws_S {expr : Bool} {Q : Value → Shared → Prop} (B : Base X L kvs w s.heap) (hQ : ∀ t, Q (.str ⟨#[32]⟩ t) { s with toks := s.toks + 1 }) : wpAny (model pw w) A (getAttr (.ref 154) (Str.ofString "S") expr) Q E s :=
  cls_value B.wsK (ws_reads w) (show findCls (wsK w) (.ref 154) (.type "type") (Str.ofString "S") = some (.val (.str ⟨#[32]⟩ 2248)) by kernel_rfl) rfl (hQ _)
theorem ws_T {expr : Bool} {Q : Value → Shared → Prop} (B : Base X L kvs w s.heap) (hQ : ∀ t, Q (.str ⟨#[9]⟩ t) { s with toks := s.toks + 1 }) : wpAny (model pw w) A (getAttr (.ref 154) (Str.ofString "T") expr) Q E s :=
  cls_value B.wsK (ws_reads w) (show findCls (wsK w) (.ref 154) (.type "type") (Str.ofString "T") = some (.val (.str ⟨#[9]⟩ 2249)) by kernel_rfl) rfl (hQ _)
end
end Mine
end

-- part W14
section
set_option maxRecDepth 100000
set_option maxHeartbeats 400000
namespace Mine
open PySem PySem.W PySem.Calls PyProof.Rows
section
variable {prog : Program} {w : World} {A : Around} {E : Value → Shared → Prop} {s : Shared}
theorem mul_list' {l : Addr} {items : Array Value} {k : Nat} {x : Int} {u : Tok} {Q : Value → Shared → Prop}
    (hl : IsL s.heap l items k) (hlo : -(2 ^ 63 : Int) ≤ x) (hhi : x < 2 ^ 63) (hsz : items.size * x.toNat ≤ 2 ^ 24)
    (h : Q (.ref s.heap.objs.size) { s with heap := s.heap.push { cls := .type "list", data := .seq (List.foldl (fun x1 x2 => x1 ++ x2) #[] (List.replicate (if items.isEmpty = true then 0 else x.toNat) items)) } }) :
    wpAny (model prog w) A (binaryOp .Mult (.ref l) (.int x u)) Q E s :=
  wpAny_binaryOp_repeat_ref (T := "list") (U := "int") (by decide) ⟨_, hl, rfl⟩ (fun s' => typeIs_int s' x u) noFill_list_mul F.fills_int_mul F.slot_int_rmul repeat_list F.slot_int_index.lookup
    (call_meets F.slot_int_rmul (typeIs_int s x u) F.entry_int_rmul (F.args_int_rmul_2 _ _) (int___rmul___int_list x u l items k)
      ⟨hl, rfl, ⟨_, hl, rfl⟩, call_meets F.slot_list_mul ⟨_, hl, rfl⟩ F.entry_list_mul (F.args_list_mul_2 _ _)
        (AutoListH.list___mul___list_int_3 l items k x u (by simp [Builtin.List.listFitsIndex]; omega) (by omega) (by simp [Builtin.List.listTooLong, sizeLine]; omega))
        ⟨hl, h⟩⟩)
theorem setItem_plain {l : Addr} {items : Array Value} {k : Int} {t : Tok} {v : Value} {Q : Unit → Shared → Prop} (hl : s.heap.PlainList l items)
    (h0 : 0 ≤ k) (hfit : k < 2 ^ 63) (hn : k < items.size)
    (hQ : ∀ h', h'.PlainList l (items.setIfInBounds k.toNat v) → Heap.SameBut l s.heap h' → Q () { s with heap := h' }) :
    wpAny (model prog w) A (setItem (.ref l) (.int k t) v) Q E s := by
  obtain ⟨ne, ho⟩ := id hl
  have hl' := hl.isList
  unfold setItem
  try with_reducible refine wpAny_holding ?_
  first | refine wpAny_bind (wpAny_pure ?_) | skip
  refine wpAny_bind (wpAny_sequenceKey hl'.typeIs (by decide) ?_)
  refine wpAny_bind (wpAny_callSpecial?_slot (name := Str.ofString "__setitem__") hl'.typeIs slot_list_setitem
    (wpAny_call_entry slot_list_setitem hl'.typeIs entry_list_setitem ?_ (args_list_setitem _ _ _)))
  show wpAny _ _ (Builtin.List.listSubscript? (.int k t) >>= _) _ _ s
  refine wpAny_bind (wpAny_listSubscript_int (fitsIndex_of h0 hfit) ?_)
  clear hfit
  obtain ⟨j, rfl⟩ := Int.eq_ofNat_of_zero_le h0
  have hj : j < items.size := by omega
  have hx' : items[j]? = some items[j] := Array.getElem?_eq_getElem hj
  show wpAny _ _ ((seqItemAt l j >>= fun r => pure (r.map (j, ·))) >>= _) _ _ s
  refine wpAny_bind (wpAny_bind (wpAny_seqItemAt ho rfl (wpAny_pure ?_)))
  rw [hx']
  show wpAny _ _ (setSeqItemAt l j v >>= _) _ _ s
  refine wpAny_bind (wpAny_setSeqItemAt ho rfl ?_)
  have hfin : (s.heap.update l (Obj.mapSeq (·.setIfInBounds j v))).PlainList l (items.setIfInBounds j v) := ⟨_, Heap.get?_update_self _ ho rfl⟩
  first
    | exact wpAny_bind (wpAny_pure (wpAny_pure ⟨.none, rfl, wpAny_pure (hQ _ hfin (Heap.SameBut.update ..))⟩))
    | exact wpAny_pure ⟨.none, rfl, wpAny_pure (hQ _ hfin (Heap.SameBut.update ..))⟩
theorem setItem_plain_neg {l : Addr} {items : Array Value} {k : Int} {t : Tok} {v : Value} {Q : Unit → Shared → Prop} (hl : s.heap.PlainList l items)
    (h0 : k < 0) (h1 : -(items.size : Int) ≤ k) (hfit : -(2 ^ 63) ≤ k)
    (hQ : ∀ h', h'.PlainList l (items.setIfInBounds (k + items.size).toNat v) → Heap.SameBut l s.heap h' → Q () { s with heap := h' }) :
    wpAny (model prog w) A (setItem (.ref l) (.int k t) v) Q E s := by
  obtain ⟨ne, ho⟩ := id hl
  have hl' := hl.isList
  unfold setItem
  try with_reducible refine wpAny_holding ?_
  first | refine wpAny_bind (wpAny_pure ?_) | skip
  refine wpAny_bind (wpAny_sequenceKey hl'.typeIs (by decide) ?_)
  refine wpAny_bind (wpAny_callSpecial?_slot (name := Str.ofString "__setitem__") hl'.typeIs slot_list_setitem
    (wpAny_call_entry slot_list_setitem hl'.typeIs entry_list_setitem ?_ (args_list_setitem _ _ _)))
  show wpAny _ _ (Builtin.List.listSubscript? (.int k t) >>= _) _ _ s
  refine wpAny_bind (wpAny_listSubscript_int (fitsIndex_neg h0 hfit) ?_)
  clear hfit
  have hidx := seqIndex_neg h0 h1
  have hj : (k + items.size).toNat < items.size := by omega
  have hx' : items[(k + items.size).toNat]? = some items[(k + items.size).toNat] := Array.getElem?_eq_getElem hj
  obtain ⟨j, rfl⟩ : ∃ j : Nat, k = Int.negSucc j := by
    cases k with
    | ofNat n => exact absurd h0 (Int.not_lt.mpr (Int.ofNat_nonneg n))
    | negSucc n => exact ⟨n, rfl⟩
  show wpAny _ _ ((Builtin.List.listItems (.ref l) >>= fun xs => pure ((seqIndex? (Int.negSucc j) xs.size).bind fun i => xs[i]?.map (i, ·))) >>= _) _ _ s
  refine wpAny_bind (wpAny_bind ?_)
  show wpAny _ _ (seqItems? (.ref l) >>= _) _ _ s
  refine wpAny_bind (wpAny_seqItems ho rfl (wpAny_pure (wpAny_pure ?_)))
  rw [hidx]
  simp only [Option.bind_some, hx', Option.map_some]
  show wpAny _ _ (setSeqItemAt l _ v >>= _) _ _ s
  refine wpAny_bind (wpAny_setSeqItemAt ho rfl ?_)
  have hfin : (s.heap.update l (Obj.mapSeq (·.setIfInBounds (Int.negSucc j + items.size).toNat v))).PlainList l (items.setIfInBounds (Int.negSucc j + items.size).toNat v) := ⟨_, Heap.get?_update_self _ ho rfl⟩
  first
    | exact wpAny_bind (wpAny_pure (wpAny_pure ⟨.none, rfl, wpAny_pure (hQ _ hfin (Heap.SameBut.update ..))⟩))
    | exact wpAny_pure ⟨.none, rfl, wpAny_pure (hQ _ hfin (Heap.SameBut.update ..))⟩
end
section
variable {X : Nat → Obj} {L : Life} {kvs : List (Int × Value)} {w : World} {h h' : Heap} {s : Shared} {A : Around} {E : Value → Shared → Prop}
theorem mcall {fa : Addr} {o : Obj} {name qual : Str} {params : Arguments} {body : List Stmt} {scope : Scope} {pm cd doc : Value} {args : List Value} {binds : List (Str × Value)} {Q : Value → Shared → Prop}
    (B : Base X L kvs w s.heap) (hA : A.depth < recursionLimit) (ho : (H1 X L w).get? fa = some o) (hcd : (H1 X L w).CodeRec cd qual) (hdata : o.data = .func (methDef name qual params body scope pm cd doc))
    (hbind : bindArgs (methDef name qual params body scope pm cd doc) ⟨args, []⟩ = pure binds) (hloc : (binds.all fun x => decide (scope.names.lookup x.1 = some .local)) = true)
    (hco : scope.isCoroutine = false) (hgen : scope.isGenerator = false) (hk : scope.kind = .function) (hcell : ∀ x ∈ scope.names, x.2 ≠ .cell)
    (hb : ∀ h₁, Fr s.heap s.heap.objs.size h₁ (fun x => binds.reverse.lookup x) → wpAny (model pw w) (A.deeper (envOf qual scope s.heap.objs.size fa cd)) (execs body (envOf qual scope s.heap.objs.size fa cd))
      (fun f s' => Q (retOf f) s') (fun _ _ => False) { s with heap := h₁, toks := s.toks + binds.length }) :
    wpAny (model pw w) A (PySem.call (.ref fa) args) Q E s := by
  refine wpAny_call (codeAny_call_def (fd := methDef name qual params body scope pm cd doc) (body := body) (binds := binds) hA (B.keep _ _ ho) hdata B.noLimit (hcd.keeps B.keep) rfl (.of_eq hbind) hcell (locs hloc)
    (fun h₁ hns hk₁ => ?_) hco hgen hk)
  exact wpAny_mono (hb h₁ ⟨hns, hk₁, Nat.le_refl _⟩) (fun f s' q => by cases f <;> exact q) fun _ _ f => f.elim
end
end Mine
end

-- part W15
section
set_option maxRecDepth 100000
set_option maxHeartbeats 400000
namespace Mine
open PySem PySem.W PySem.Calls PyProof.Rows
/-- a tab behind b blanks, told into the counts -/
def padded (cnt : List Int) (b : Nat) : List Int := if cnt.length ≤ b then cnt ++ List.replicate (b + 1 - cnt.length) 0 else cnt
def tally (cnt : List Int) (b : Nat) : List Int := (padded cnt b).set b ((padded cnt b).getD b 0 + 1)
def wsStep (p : List Int × Nat) (c : Nat) : List Int × Nat := if c = 32 then (p.1, p.2 + 1) else (tally p.1 p.2, 0)
def wsFold (ts : List Nat) : List Int × Nat := ts.foldl wsStep ([], 0)
def normOf (cs : List Nat) : List Int := (cs.map rk).foldl tally []
theorem padded_length (cnt : List Int) (b : Nat) : (padded cnt b).length = max cnt.length (b + 1) := by
  unfold padded
  split
  · simp; omega
  · omega
theorem tally_length (cnt : List Int) (b : Nat) : (tally cnt b).length = max cnt.length (b + 1) := by
  unfold tally; rw [List.length_set, padded_length]
theorem fold_blanks : ∀ (k : Nat) (p : List Int × Nat), (List.replicate k 32).foldl wsStep p = (p.1, p.2 + k)
  | 0, p => rfl
  | k + 1, p => by
    rw [List.replicate_succ, List.foldl_cons, fold_blanks k]
    show ((wsStep p 32).1, (wsStep p 32).2 + k) = _
    unfold wsStep; rw [if_pos rfl]; simp; omega
theorem fold_tabL (c : Nat) (cnt : List Int) : (tabL c).foldl wsStep (cnt, 0) = (tally cnt (rk c), 0) := by
  unfold tabL
  rw [List.foldl_append, fold_blanks]
  show wsStep (cnt, 0 + rk c) 9 = _
  unfold wsStep
  rw [if_neg (by decide), Nat.zero_add]
theorem fold_indent : ∀ (cs : List Nat) (cnt : List Int), (indentL cs).foldl wsStep (cnt, 0) = ((cs.map rk).foldl tally cnt, 0)
  | [], cnt => rfl
  | c :: cs, cnt => by
    unfold indentL
    rw [List.flatMap_cons, List.foldl_append, fold_tabL, List.map_cons, List.foldl_cons]
    exact fold_indent cs _
theorem wsFold_indent (cs : List Nat) : wsFold (indentL cs) = (normOf cs, 0) := fold_indent cs []
theorem wsFold_take_succ {ts : List Nat} {i c : Nat} (h : ts[i]? = some c) : wsFold (ts.take (i + 1)) = wsStep (wsFold (ts.take i)) c := by
  unfold wsFold
  rw [List.take_add_one, h, List.foldl_append]; rfl
theorem wsFold_small (ts : List Nat) : ∀ i, i ≤ ts.length → (wsFold (ts.take i)).1.length + (wsFold (ts.take i)).2 ≤ i
  | 0, _ => by simp [wsFold]
  | i + 1, hi => by
    have ih := wsFold_small ts i (by omega)
    rw [wsFold_take_succ (List.getElem?_eq_getElem (by omega))]
    unfold wsStep
    split
    · simp; omega
    · simp only [tally_length]; omega
theorem indent_signs {cs : List Nat} {c : Nat} (h : c ∈ indentL cs) : c = 32 ∨ c = 9 := by
  unfold indentL at h
  obtain ⟨d, _, hd⟩ := List.mem_flatMap.mp h
  unfold tabL at hd
  rcases List.mem_append.mp hd with h | h
  · exact .inl (List.eq_of_mem_replicate h)
  · exact .inr (by simpa using h)
theorem indent_length {cs : List Nat} : (indentL cs).length ≤ 3 * cs.length := by
  unfold indentL
  induction cs with
  | nil => simp
  | cons c cs ih =>
    rw [List.flatMap_cons, List.length_append, List.length_cons]
    have : (tabL c).length ≤ 3 := by
      unfold tabL rk
      split
      · simp
      · split <;> simp
    omega
/-- an instance of Whitespace with its own dict -/
structure InstX (h : Heap) (x dx : Addr) (mA : Str → Option Value) (k : Nat) : Prop where
  obj : ∃ o, h.get? x = some o ∧ o.cls = .ref 154 ∧ o.dict = some dx ∧ ∀ c, o.data ≠ .cls c
  ns : h.Ns1 dx mA
  apart : dx ≠ x
  few : ∃ ns, Within mA ns ∧ ns.length ≤ k
theorem InstX.inst {h : Heap} {x dx : Addr} {mA : Str → Option Value} {k : Nat} (I : InstX h x dx mA k) : h.Inst x 154 mA :=
  let ⟨o, e, c, dd, nc⟩ := I.obj; ⟨o, e, c, nc, .inr ⟨dx, dd, I.apart, I.ns⟩⟩
theorem InstX.keeps {h h' : Heap} {x dx : Addr} {mA : Str → Option Value} {n : Nat} (I : InstX h x dx mA n) (k : ∀ b o, b = x ∨ b = dx → h.get? b = some o → h'.get? b = some o) : InstX h' x dx mA n := by
  obtain ⟨o, e, r⟩ := I.obj
  exact ⟨⟨o, k _ _ (.inl rfl) e, r⟩, I.ns.at fun o e => k _ _ (.inr rfl) e, I.apart, I.few⟩
section
variable {X : Nat → Obj} {L : Life} {kvs : List (Int × Value)} {w : World} {h h' : Heap} {s : Shared} {A : Around} {E : Value → Shared → Prop}
theorem setattr_x {x dx : Addr} {mA : Str → Option Value} {n : Nat} {name : Str} {v : Value} {Q : Unit → Shared → Prop} (B : Base X L kvs w s.heap) (I : InstX s.heap x dx mA n) (hn : n ≤ 1000) (hx : (H1 X L w).get? x = none)
    (hna : (H1 X L w).nsMap 153 name = none) (hB : typeLookup (.type "object") name = pure none)
    (h : ∀ h' tk, InstX h' x dx (fun y => if y = name then some v else mA y) (n + 1) → (∀ b o, b ≠ x → b ≠ dx → s.heap.get? b = some o → h'.get? b = some o) → Q () { s with heap := h', toks := tk }) :
    wpAny (model pw w) A (setAttr (.ref x) name v) Q E s := by
  obtain ⟨hh, g, d, t, os⟩ := s
  obtain ⟨nm, q, bs, sn, sub, col, dd, k0, k1, k2, k3, k5, hC₀⟩ := B.cls.obj
  obtain ⟨ox, ex, hcx, hdx, hncx⟩ := I.obj
  obtain ⟨ns, hw, hsz⟩ := I.few
  have hxC : x ≠ 154 := by rintro rfl; rw [h1_o154] at hx; cases hx
  refine store_attr PySem.F.store_object hC₀ B.cls.ns (n_sa X L w) hna hB hxC I.inst (fun h' tk' I' hk hsame => ?_) hw (by rw [sizeLine_eq]; omega)
  have kk : ∀ b o, b ≠ x → b ≠ dx → hh.get? b = some o → h'.get? b = some o := fun b o h1 h2 e => hk b o h1 (fun o₀ d' e₀ ed => by
    obtain rfl := Option.some.inj (ex.symm.trans e₀); obtain rfl := Option.some.inj (hdx.symm.trans ed); exact h2) e
  refine h h' tk' ?_ kk
  obtain ⟨o₁, e₁, c₁, dt₁, _, dk₁⟩ := hsame ox ex
  obtain ⟨o', e', _, _, hd'⟩ := I'
  obtain rfl := Option.some.inj (e₁.symm.trans e')
  rcases hd' with ⟨hn0, _⟩ | ⟨d', hd', _, hns'⟩
  · rw [dk₁ dx hdx] at hn0; cases hn0
  · obtain rfl := Option.some.inj ((dk₁ dx hdx).symm.trans hd')
    exact ⟨⟨o₁, e₁, c₁.trans hcx, dk₁ _ hdx, fun c => dt₁ ▸ hncx c⟩, hns', I.apart, name :: ns, Within.cons name v hw, by rw [List.length_cons]; omega⟩
theorem getattr_x {x : Addr} {mA : Str → Option Value} {name : Str} {v : Value} {expr : Bool} {Q : Value → Shared → Prop} (B : Base X L kvs w s.heap) (I : s.heap.Inst x 154 mA) (hv : mA name = some v)
    (hna : (H1 X L w).nsMap 153 name = none) (hB : typeLookup (.type "object") name = pure none) (hh : handedOut v = pure v)
    (h : Q v { s with toks := s.toks + 1 }) : wpAny (model pw w) A (getAttr (.ref x) name expr) Q E s := by
  obtain ⟨hh', g, d, t, os⟩ := s
  obtain ⟨nm, q, bs, sn, sub, col, dd, k0, k1, k2, k3, k5, hC⟩ := B.cls.obj
  exact load_attr hC B.cls.ns (n_ga X L w) hna hB I hv hh h
theorem ob_raw : typeLookup (.type "object") (Str.ofString "raw") = pure none := by rw [typeLookup_type, builtinLookup_eq_fast]; kernel_rfl
theorem ob_n : typeLookup (.type "object") (Str.ofString "n") = pure none := by rw [typeLookup_type, builtinLookup_eq_fast]; kernel_rfl
theorem ob_nt : typeLookup (.type "object") (Str.ofString "nt") = pure none := by rw [typeLookup_type, builtinLookup_eq_fast]; kernel_rfl
theorem ob_norm : typeLookup (.type "object") (Str.ofString "norm") = pure none := by rw [typeLookup_type, builtinLookup_eq_fast]; kernel_rfl
theorem ob_simple : typeLookup (.type "object") (Str.ofString "is_simple") = pure none := by rw [typeLookup_type, builtinLookup_eq_fast]; kernel_rfl
theorem ob_equal : typeLookup (.type "object") (Str.ofString "equal") = pure none := by rw [typeLookup_type, builtinLookup_eq_fast]; kernel_rfl
theorem b_len (X L w) : (H1 X L w).nsMap builtinsNs (Str.ofString "len") = some (.builtin "len") := by kernel_rfl
theorem m_len (X L w) : (H1 X L w).nsMap mainGlobals (Str.ofString "len") = none := by kernel_rfl
theorem b_tuple (X L w) : (H1 X L w).nsMap builtinsNs (Str.ofString "tuple") = some (.type "tuple") := by kernel_rfl
theorem m_tuple (X L w) : (H1 X L w).nsMap mainGlobals (Str.ofString "tuple") = none := by kernel_rfl
/-- an instance of Whitespace whose norm is these counts and no blank behind; all its objects lie in Y -/
def WsAt (h : Heap) (Y : Addr → Prop) (x : Addr) (cnt : List Int) : Prop := ∃ dx mA n tp tc t vs, InstX h x dx mA n ∧ mA (Str.ofString "norm") = some (.ref tp) ∧ mA (Str.ofString "equal") = none ∧ h.get? tp = some { cls := .type "tuple", data := .seq #[.ref tc, .int 0 t] } ∧
  h.get? tc = some { cls := .type "tuple", data := .seq vs.toArray } ∧ IntsAre vs cnt ∧ Y x ∧ Y dx ∧ Y tp ∧ Y tc
theorem WsAt.keeps {Y : Addr → Prop} {x : Addr} {cnt : List Int} (H : WsAt h Y x cnt) (k : ∀ b o, Y b → h.get? b = some o → h'.get? b = some o) : WsAt h' Y x cnt := by
  obtain ⟨dx, mA, n, tp, tc, t, vs, h1, h2, h3, h4, h5, h6, y1, y2, y3, y4⟩ := H
  exact ⟨dx, mA, n, tp, tc, t, vs, h1.keeps (fun b o hb e => k b o (by rcases hb with rfl | rfl <;> assumption) e), h2, h3, k _ _ y3 h4, k _ _ y4 h5, h6, y1, y2, y3, y4⟩
end
end Mine
end

-- part W16
section
set_option maxRecDepth 100000
set_option maxHeartbeats 400000
namespace Mine
open PySem PySem.W PySem.Calls PyProof.Rows
/-- a fact of one object -/
structure Ent where
  a : Addr
  fact : Heap → Prop
  loc : ∀ h h', fact h → (∀ o, h.get? a = some o → h'.get? a = some o) → fact h'
  ex : ∀ h, fact h → ∃ o, h.get? a = some o
def Ent.ns (a : Addr) (m : Str → Option Value) : Ent := ⟨a, fun h => h.Ns a m, fun _ _ x k => x.at' k, fun _ x => let ⟨o, _, _, e, _⟩ := x; ⟨o, e⟩⟩
def Ent.cell (a : Addr) (v : Option Value) : Ent := ⟨a, fun h => h.IsCell a v, fun _ _ x k => let ⟨o, e, r⟩ := x; ⟨o, k o e, r⟩, fun _ x => let ⟨o, e, _⟩ := x; ⟨o, e⟩⟩
def Ent.plain (a : Addr) (xs : Array Value) : Ent := ⟨a, fun h => h.PlainList a xs, fun _ _ x k => x.at k, fun _ x => let ⟨_, e⟩ := x; ⟨_, e⟩⟩
def Ent.lit (a l : Addr) (i : Nat) : Ent := ⟨a, fun h => h.IsListIter a l i, fun _ _ x k => x.at k, fun _ x => let ⟨o, e, _⟩ := x; ⟨o, e⟩⟩
def Ent.rng (a : Addr) (x left step : Int) : Ent := ⟨a, fun h => IsRangeIter h a x left step, fun _ _ x k => k _ x, fun _ x => ⟨_, x⟩⟩
def Ent.sit (a : Addr) (x : Str) (t : Tok) (i : Nat) : Ent := ⟨a, fun h => h.IsStrIter a "str_ascii_iterator" x t i, fun _ _ x k => let ⟨o, e, r⟩ := x; ⟨o, k o e, r⟩, fun _ x => let ⟨o, e, _⟩ := x; ⟨o, e⟩⟩
def Ent.obj (a : Addr) (o : Obj) : Ent := ⟨a, fun h => h.get? a = some o, fun _ _ x k => k _ x, fun _ x => ⟨_, x⟩⟩
def Ent.some (a : Addr) : Ent := ⟨a, fun h => ∃ o, h.get? a = .some o, fun _ _ x k => let ⟨o, e⟩ := x; ⟨o, k o e⟩, fun _ x => x⟩
/-- what is known of a heap: the old objects but those of D kept, and facts of objects that lie apart -/
structure Bag (D : Addr → Prop) (h₀ h : Heap) (es : List Ent) : Prop where
  keep : ∀ b o, ¬ D b → h₀.get? b = some o → h.get? b = some o
  has : ∀ e ∈ es, e.fact h
  new : ∀ e ∈ es, D e.a ∨ h₀.get? e.a = none
  apart : (es.map (·.a)).Nodup
namespace Bag
variable {D : Addr → Prop} {h₀ h h' : Heap} {es : List Ent}
theorem at_ (B : Bag D h₀ h es) (i : Nat) {e : Ent} (hi : es[i]? = some e) : e.fact h := B.has e (List.mem_of_getElem? hi)
theorem ext (B : Bag D h₀ h es) (k : ∀ b o, h.get? b = some o → h'.get? b = some o) : Bag D h₀ h' es :=
  ⟨fun b o hb e => k b o (B.keep b o hb e), fun e he => e.loc _ _ (B.has e he) fun o => k _ o, B.new, B.apart⟩
theorem off (B : Bag D h₀ h es) (wr : Addr → Prop) (k : ∀ b o, ¬ wr b → h.get? b = some o → h'.get? b = some o) (h1 : ∀ b o, ¬ D b → h₀.get? b = some o → ¬ wr b) (h2 : ∀ e ∈ es, ¬ wr e.a) : Bag D h₀ h' es :=
  ⟨fun b o hb e => k b o (h1 b o hb e) (B.keep b o hb e), fun e he => e.loc _ _ (B.has e he) fun o => k _ o (h2 e he), B.new, B.apart⟩
theorem push (B : Bag D h₀ h es) (e : Ent) (k : ∀ b o, h.get? b = some o → h'.get? b = some o) (he : e.fact h') (hn : h.get? e.a = none) : Bag D h₀ h' (es ++ [e]) := by
  refine ⟨fun b o hb q => k b o (B.keep b o hb q), fun e' he' => ?_, fun e' he' => ?_, ?_⟩
  · rcases List.mem_append.mp he' with h1 | h1
    · exact e'.loc _ _ (B.has e' h1) fun o => k _ o
    · rw [List.mem_singleton.mp h1]; exact he
  · rcases List.mem_append.mp he' with h1 | h1
    · exact B.new e' h1
    · rw [List.mem_singleton.mp h1]
      by_cases hD : D e.a
      · exact .inl hD
      · refine .inr ?_
        cases q : h₀.get? e.a with
        | none => rfl
        | some o => rw [B.keep _ o hD q] at hn; cases hn
  · rw [List.map_append, List.nodup_append]
    refine ⟨B.apart, by simp, fun a ha b hb => ?_⟩
    obtain ⟨e', he', rfl⟩ := List.mem_map.mp ha
    simp at hb
    subst hb
    intro q
    obtain ⟨o, eo⟩ := e'.ex _ (B.has e' he')
    rw [q, hn] at eo; cases eo
theorem but (B : Bag D h₀ h es) (i : Nat) (e' : Ent) {e : Ent} (hi : es[i]? = some e) (ha : e'.a = e.a) (k : ∀ b o, b ≠ e.a → h.get? b = some o → h'.get? b = some o) (he : e'.fact h') : Bag D h₀ h' (es.set i e') := by
  have hmap : (es.set i e').map (·.a) = es.map (·.a) := by
    rw [List.map_set, ha]
    refine List.ext_getElem? fun j => ?_
    rw [List.getElem?_set]
    split
    · rename_i hj; subst hj
      split
      · rw [List.getElem?_map, hi]; rfl
      · rename_i hj; rw [List.getElem?_eq_none (by omega)]
    · rfl
  have hl : i < es.length := (List.getElem?_eq_some_iff.mp hi).1
  have hne : ∀ e₂ ∈ es.set i e', e₂ = e' ∨ (e₂ ∈ es ∧ e₂.a ≠ e.a) := by
    intro e₂ h2
    obtain ⟨j, hj⟩ := List.getElem?_of_mem h2
    rw [List.getElem?_set] at hj
    split at hj
    · rename_i q; subst q
      first | (rw [if_pos hl] at hj; exact .inl (Option.some.inj hj).symm) | exact .inl (Option.some.inj hj).symm
    · rename_i q
      refine .inr ⟨List.mem_of_getElem? hj, fun q2 => q ?_⟩
      have n := B.apart
      have e1 : (es.map (·.a))[j]? = some e.a := by rw [List.getElem?_map, hj]; exact congrArg some q2
      have e2 : (es.map (·.a))[i]? = some e.a := by rw [List.getElem?_map, hi]; rfl
      exact (List.getElem?_inj (by rw [List.length_map]; exact hl) n).mp (e2.trans e1.symm)
  refine ⟨fun b o hb q => ?_, fun e₂ h2 => ?_, fun e₂ h2 => ?_, by rw [hmap]; exact B.apart⟩
  · refine k b o (fun q2 => ?_) (B.keep b o hb q)
    rcases B.new e (List.mem_of_getElem? hi) with h1 | h1
    · exact hb (q2 ▸ h1)
    · rw [q2, h1] at q; cases q
  · rcases hne e₂ h2 with rfl | ⟨h1, h3⟩
    · exact he
    · exact e₂.loc _ _ (B.has e₂ h1) fun o => k _ o h3
  · rcases hne e₂ h2 with rfl | ⟨h1, _⟩
    · rw [ha]; exact B.new e (List.mem_of_getElem? hi)
    · exact B.new e₂ h1
theorem same (B : Bag D h₀ h es) (i : Nat) (e' : Ent) {e : Ent} (hi : es[i]? = some e) (ha : e'.a = e.a) (k : Heap.SameBut e.a h h') (he : e'.fact h') : Bag D h₀ h' (es.set i e') :=
  B.but i e' hi ha (fun b _ hb q => (k.2 b hb).trans q) he
theorem sub (B : Bag D h₀ h es) {es' : List Ent} (hs : es'.Sublist es) : Bag D h₀ h es' :=
  ⟨B.keep, fun e he => B.has e (hs.subset he), fun e he => B.new e (hs.subset he), B.apart.sublist (hs.map _)⟩
theorem perm (B : Bag D h₀ h es) {es' : List Ent} (hs : es'.Perm es) : Bag D h₀ h es' :=
  ⟨B.keep, fun e he => B.has e (hs.mem_iff.mp he), fun e he => B.new e (hs.mem_iff.mp he), ((hs.map _).nodup_iff).mpr B.apart⟩
theorem lose (B : Bag D h₀ h es) (i : Nat) {e : Ent} (hi : es[i]? = some e) (k : ∀ b o, b ≠ e.a → h.get? b = some o → h'.get? b = some o) : Bag D h₀ h' (es.eraseIdx i) := by
  have hs := List.eraseIdx_sublist (l := es) i
  refine ⟨fun b o hb q => ?_, fun e₂ h2 => ?_, fun e₂ h2 => B.new e₂ (hs.subset h2), B.apart.sublist (hs.map _)⟩
  · refine k b o (fun q2 => ?_) (B.keep b o hb q)
    rcases B.new e (List.mem_of_getElem? hi) with h1 | h1
    · exact hb (q2 ▸ h1)
    · rw [q2, h1] at q; cases q
  · obtain ⟨j, hj, hje⟩ := List.mem_eraseIdx_iff_getElem?.mp h2
    refine e₂.loc _ _ (B.has e₂ (hs.subset h2)) fun o => k _ o fun q2 => ?_
    have e1 : (es.map (·.a))[j]? = some e.a := by rw [List.getElem?_map, hje]; exact congrArg some q2
    have e2 : (es.map (·.a))[i]? = some e.a := by rw [List.getElem?_map, hi]; rfl
    exact hj ((List.getElem?_inj (by rw [List.length_map]; exact (List.getElem?_eq_some_iff.mp hi).1) B.apart).mp (e2.trans e1.symm)).symm
theorem rebase (B : Bag D h₀ h es) : Bag (fun b => ∃ e ∈ es, b = e.a) h h es := ⟨fun _ _ _ e => e, B.has, fun e he => .inl ⟨e, he, rfl⟩, B.apart⟩
theorem back (B : Bag D h₀ h es) {es' : List Ent} (B' : Bag (fun b => ∃ e ∈ es, b = e.a) h h' es') (hn : ∀ e ∈ es', (∃ e₂ ∈ es, e.a = e₂.a) ∨ h.get? e.a = none) : Bag D h₀ h' es' := by
  refine ⟨fun b o hb q => ?_, B'.has, fun e he => ?_, B'.apart⟩
  · refine B'.keep b o ?_ (B.keep b o hb q)
    rintro ⟨e, he, rfl⟩
    rcases B.new e he with h1 | h1
    · exact hb h1
    · rw [h1] at q; cases q
  · by_cases hD : D e.a
    · exact .inl hD
    refine .inr ?_
    rcases hn e he with ⟨e₂, h2, q⟩ | h2
    · rcases B.new e₂ h2 with h1 | h1
      · exact absurd (q ▸ h1) hD
      · exact q ▸ h1
    · cases q : h₀.get? e.a with
      | none => rfl
      | some o => rw [B.keep _ o hD q] at h2; cases h2
theorem one {m : Str → Option Value} {L : Addr} (F : Fm D h₀ L h m) (hL : D L ∨ h₀.get? L = none := by exact .inr (get_none_size (Nat.le_refl _))) : Bag D h₀ h [.ns L m] :=
  ⟨F.keep, fun e he => by rw [List.mem_singleton.mp he]; exact F.ns, fun e he => by rw [List.mem_singleton.mp he]; exact hL, by simp⟩
end Bag
/-- what the names of a frame hold -/
def Vs (m : Str → Option Value) (vs : List (Str × Value)) : Prop := ∀ x v, vs.lookup x = some v → m x = some v
theorem Vs.store {m : Str → Option Value} {vs : List (Str × Value)} (V : Vs m vs) (x : Str) (v : Value) : Vs (fun y => if y = x then some v else m y) ((x, v) :: vs) := by
  intro y u h
  rw [List.lookup_cons] at h
  by_cases e : y = x
  · subst e; simp at h; subst h; simp
  · have : (y == x) = false := by simpa using e
    rw [this] at h
    simp only [if_neg e]
    exact V y u h
def AllIn : List (Str × Value) → List (Str × Value) → Prop
  | [], _ => True
  | p :: r, vs => vs.lookup p.1 = some p.2 ∧ AllIn r vs
theorem AllIn.mem {vs' vs : List (Str × Value)} (h : AllIn vs' vs) : ∀ p ∈ vs', vs.lookup p.1 = some p.2 := by
  induction vs' with
  | nil => intro p hp; cases hp
  | cons q r ih =>
    intro p hp
    rcases List.mem_cons.mp hp with rfl | hp
    · exact h.1
    · exact ih h.2 p hp
theorem Vs.fewer {m : Str → Option Value} {vs vs' : List (Str × Value)} (V : Vs m vs) (h : AllIn vs' vs) : Vs m vs' := fun x v e => V x v (h.mem (x, v) (PySem.mem_of_lookup e))
/-- a frame: its names, and what else is known of the heap -/
def Lf (D : Addr → Prop) (h₀ : Heap) (LL : Addr) (h : Heap) (vs : List (Str × Value)) (es : List Ent) : Prop := ∃ m, Vs m vs ∧ Bag D h₀ h (.ns LL m :: es)
namespace Lf
variable {D : Addr → Prop} {h₀ h h' : Heap} {LL : Addr} {vs vs' : List (Str × Value)} {es : List Ent}
theorem at_ (F : Lf D h₀ LL h vs es) (i : Nat) {e : Ent} (hi : es[i]? = some e) : e.fact h := let ⟨_, _, B⟩ := F; B.at_ (i + 1) hi
theorem keep (F : Lf D h₀ LL h vs es) : ∀ b o, ¬ D b → h₀.get? b = some o → h.get? b = some o := let ⟨_, _, B⟩ := F; B.keep
theorem ext (F : Lf D h₀ LL h vs es) (k : ∀ b o, h.get? b = some o → h'.get? b = some o) : Lf D h₀ LL h' vs es := let ⟨m, V, B⟩ := F; ⟨m, V, B.ext k⟩
theorem push (F : Lf D h₀ LL h vs es) (e : Ent) (k : ∀ b o, h.get? b = some o → h'.get? b = some o) (he : e.fact h') (hn : h.get? e.a = none) : Lf D h₀ LL h' vs (es ++ [e]) := let ⟨m, V, B⟩ := F; ⟨m, V, B.push e k he hn⟩
theorem but (F : Lf D h₀ LL h vs es) (i : Nat) (e' : Ent) {e : Ent} (hi : es[i]? = some e) (ha : e'.a = e.a) (k : ∀ b o, b ≠ e.a → h.get? b = some o → h'.get? b = some o) (he : e'.fact h') : Lf D h₀ LL h' vs (es.set i e') :=
  let ⟨m, V, B⟩ := F; ⟨m, V, B.but (i + 1) e' hi ha k he⟩
theorem lose (F : Lf D h₀ LL h vs es) (i : Nat) {e : Ent} (hi : es[i]? = some e) (k : ∀ b o, b ≠ e.a → h.get? b = some o → h'.get? b = some o) : Lf D h₀ LL h' vs (es.eraseIdx i) := let ⟨m, V, B⟩ := F; ⟨m, V, B.lose (i + 1) hi k⟩
theorem same (F : Lf D h₀ LL h vs es) (i : Nat) (e' : Ent) {e : Ent} (hi : es[i]? = some e) (ha : e'.a = e.a) (k : Heap.SameBut e.a h h') (he : e'.fact h') : Lf D h₀ LL h' vs (es.set i e') :=
  F.but i e' hi ha (fun b _ hb q => (k.2 b hb).trans q) he
theorem sub (F : Lf D h₀ LL h vs es) {es' : List Ent} (hs : es'.Sublist es) : Lf D h₀ LL h vs es' := let ⟨m, V, B⟩ := F; ⟨m, V, B.sub (hs.cons_cons _)⟩
theorem fewer (F : Lf D h₀ LL h vs es) (hv : AllIn vs' vs) : Lf D h₀ LL h vs' es := let ⟨m, V, B⟩ := F; ⟨m, V.fewer hv, B⟩
theorem base {X : Nat → Obj} {L : Life} {kvs : List (Int × Value)} {w : World} (F : Lf D h₀ LL h vs es) (B : Base X L kvs w h₀) (hD : ∀ b, D b → (H1 X L w).get? b = none) : Base X L kvs w h :=
  ⟨fun b o e => F.keep b o (fun q => by rw [hD b q] at e; cases e) (B.keep b o e), B.dict, B.tab⟩
theorem perm (F : Lf D h₀ LL h vs es) {es' : List Ent} (hs : es'.Perm es) : Lf D h₀ LL h vs es' := let ⟨m, V, B⟩ := F; ⟨m, V, B.perm (hs.cons _)⟩
/-- two entries lie apart -/
theorem ne (F : Lf D h₀ LL h vs es) {i j : Nat} {e e' : Ent} (hi : es[i]? = some e) (hj : es[j]? = some e') (hij : i ≠ j) : e.a ≠ e'.a := by
  obtain ⟨m, V, B⟩ := F
  intro q
  have n := (List.nodup_cons.mp B.apart).2
  have e1 : (es.map (·.a))[i]? = some e.a := by rw [List.getElem?_map, hi]; rfl
  have e2 : (es.map (·.a))[j]? = some e.a := by rw [List.getElem?_map, hj]; exact congrArg some q.symm
  exact hij ((List.getElem?_inj (by rw [List.length_map]; exact (List.getElem?_eq_some_iff.mp hi).1) n).mp (e1.trans e2.symm))
theorem new (F : Lf D h₀ LL h vs es) (i : Nat) {e : Ent} (hi : es[i]? = some e) : D e.a ∨ h₀.get? e.a = none := let ⟨_, _, B⟩ := F; B.new e (List.mem_cons_of_mem _ (List.mem_of_getElem? hi))
end Lf
section
variable {M : Model} {A : Around} {E : Value → Shared → Prop} {s : Shared} {env : Env} {D : Addr → Prop} {h₀ : Heap} {vs : List (Str × Value)} {es : List Ent}
/-- a local name, read -/
theorem lf {x : Str} {pos : Pos} {v : Value} {Q : Value → Shared → Prop} (F : Lf D h₀ env.locals s.heap vs es) (hv : vs.lookup x = some v) (h : Q v s)
    (hk : env.scope.kind = .function := by rfl) (hl : env.kindOf x = some .local := by rfl) (hd : (x == ("__debug__" : Str)) = false := by decide) :
    wpAny M A (eval (.Name x pos) env) Q E s := let ⟨_, V, B⟩ := F; wpAny_Name (wpAny_loadName_local hk hl (B.at_ 0 rfl) (V _ _ hv) h) hd
theorem lfn {x : Str} {v : Value} {Q : Value → Shared → Prop} (F : Lf D h₀ env.locals s.heap vs es) (hv : vs.lookup x = some v) (h : Q v s)
    (hk : env.scope.kind = .function := by rfl) (hl : env.kindOf x = some .local := by rfl) :
    wpAny M A (loadName env x) Q E s := let ⟨_, V, B⟩ := F; wpAny_loadName_local hk hl (B.at_ 0 rfl) (V _ _ hv) h
/-- a local name, bound -/
theorem sf {x : Str} {v : Value} {Q : Unit → Shared → Prop} (F : Lf D h₀ env.locals s.heap vs es)
    (h : ∀ h', Lf D h₀ env.locals h' ((x, v) :: vs) es → Q () { s with heap := h', toks := s.toks + 1 })
    (hk : env.scope.kind = .function := by rfl) (hl : env.kindOf x = some .local := by rfl) :
    wpAny M A (storeName env x v) Q E s := by
  obtain ⟨m, V, B⟩ := F
  refine wpAny_storeName_local hl (B.at_ 0 rfl) (fun h' hn hs => h h' ⟨_, V.store x v, B.same 0 (.ns env.locals _) rfl rfl hs hn⟩) ?_
  rw [hk]; rfl
/-- a cell of the frame, read -/
theorem lc {x : Str} {pos : Pos} {c : Addr} {v : Value} {Q : Value → Shared → Prop} (F : Lf D h₀ env.locals s.heap vs es) (i : Nat) (hi : es[i]? = some (.cell c (some v))) (h : Q v s)
    (hk : env.scope.kind = .function := by rfl) (hl : env.kindOf x = some .cell := by rfl) (hc : env.cells.lookup x = some c := by rfl) (hd : (x == ("__debug__" : Str)) = false := by decide) :
    wpAny M A (eval (.Name x pos) env) Q E s := wpAny_Name (wpAny_loadName_cell hk hl hc (F.at_ i hi) h) hd
theorem lfree {x : Str} {pos : Pos} {c : Addr} {v : Value} {Q : Value → Shared → Prop} (hx : s.heap.IsCell c (some v)) (h : Q v s)
    (hk : env.scope.kind = .function := by rfl) (hl : env.kindOf x = some .free := by rfl) (hc : env.cells.lookup x = some c := by rfl) (hd : (x == ("__debug__" : Str)) = false := by decide)
    (hn : (x == ("__classdict__" : Str)) = false := by decide) :
    wpAny M A (eval (.Name x pos) env) Q E s := wpAny_Name (wpAny_loadName_free hk hl hc hx h hn) hd
/-- a cell of the frame, bound -/
theorem sc {x : Str} {c : Addr} {v₀ : Option Value} {v : Value} {Q : Unit → Shared → Prop} (F : Lf D h₀ env.locals s.heap vs es) (i : Nat) (hi : es[i]? = some (.cell c v₀))
    (h : ∀ h', Lf D h₀ env.locals h' vs (es.set i (.cell c (some v))) → Q () { s with heap := h' })
    (hk : env.scope.kind = .function := by rfl) (hl : env.kindOf x = some .cell := by rfl) (hc : env.cells.lookup x = some c := by rfl) :
    wpAny M A (storeName env x v) Q E s :=
  wpAny_storeName_cell hk hl hc (F.at_ i hi) fun h' hv hs => h h' (F.same i (.cell c (some v)) hi rfl hs hv)
end
end Mine
end

-- part W17
section
set_option maxRecDepth 100000
set_option maxHeartbeats 400000
namespace Mine
open PySem PySem.W PySem.Calls PyProof.Rows
theorem ints_set {vs : List Value} {ns : List Int} (h : IntsAre vs ns) (n : Int) (t : Tok) : ∀ i, IntsAre (vs.set i (.int n t)) (ns.set i n) := by
  induction h with
  | nil => intro i; exact .nil
  | cons m u hr ih =>
    intro i
    cases i with
    | zero => exact .cons n t hr
    | succ i => exact .cons m u (ih i)
theorem ints_zero : ∀ (k : Nat) (t : Tok), IntsAre (List.replicate k (.int 0 t)) (List.replicate k 0)
  | 0, _ => .nil
  | k + 1, t => .cons 0 t (ints_zero k t)
theorem zeros_arr (v : Value) (k : Nat) (xs : Array Value) : List.foldl (fun x1 x2 => x1 ++ x2) xs (List.replicate k #[v]) = xs ++ (List.replicate k v).toArray := by
  induction k generalizing xs with
  | zero => simp
  | succ k ih =>
    rw [List.replicate_succ, List.foldl_cons, ih, List.replicate_succ]
    apply Array.toList_inj.mp
    simp
theorem Bag.re {D : Addr → Prop} {h₀ h h' : Heap} {es : List Ent} (B : Bag D h₀ h es) (es' : List Ent) (ha : es'.map (·.a) = es.map (·.a)) (wr : Addr → Prop) (hw : ∀ b, wr b → ∃ e ∈ es, b = e.a)
    (k : ∀ b o, ¬ wr b → h.get? b = some o → h'.get? b = some o) (hf : ∀ e ∈ es', e.fact h') : Bag D h₀ h' es' := by
  refine ⟨fun b o hb q => k b o (fun hwb => ?_) (B.keep b o hb q), hf, fun e he => ?_, by rw [ha]; exact B.apart⟩
  · obtain ⟨e, he, rfl⟩ := hw b hwb
    rcases B.new e he with h1 | h1
    · exact hb h1
    · rw [h1] at q; cases q
  · have : e.a ∈ es.map (·.a) := ha ▸ List.mem_map_of_mem he
    obtain ⟨e₂, h2, q⟩ := List.mem_map.mp this
    rw [← q]; exact B.new e₂ h2
def Ent.inst (x dx : Addr) : Ent := ⟨x, fun h => ∃ o, h.get? x = .some o ∧ o.cls = .ref 154 ∧ o.dict = .some dx ∧ ∀ c, o.data ≠ .cls c, fun _ _ x k => let ⟨o, e, r⟩ := x; ⟨o, k o e, r⟩, fun _ x => let ⟨o, e, _⟩ := x; ⟨o, e⟩⟩
def Ent.ns1 (a : Addr) (m : Str → Option Value) : Ent := ⟨a, fun h => h.Ns1 a m, fun _ _ x k => x.at k, fun _ x => let ⟨o, _, _, e, _⟩ := x; ⟨o, e⟩⟩
section
variable {X : Nat → Obj} {L : Life} {kvs : List (Int × Value)} {w : World} {h h' : Heap} {s : Shared} {A : Around} {E : Value → Shared → Prop}
theorem Lf.of {D : Addr → Prop} {l : List (Str × Value)} (F : Fr s.heap s.heap.objs.size h (fun x => l.lookup x)) : Lf D s.heap s.heap.objs.size h l [] := ⟨_, fun _ _ e => e, Bag.one (Fm.of F)⟩
/-- the frame of __init__: the instance and its dict stand in it -/
theorem Lf.with {D : Addr → Prop} {l : List (Str × Value)} {x dx : Addr} {mA : Str → Option Value} {n : Nat} (F : Fr s.heap s.heap.objs.size h (fun x => l.lookup x)) (I : InstX s.heap x dx mA n) (hx : D x) (hdx : D dx) :
    Lf D s.heap s.heap.objs.size h l [.inst x dx, .ns1 dx mA] := by
  have I₁ : InstX h x dx mA n := I.keeps fun b o _ e => F.keep b o e
  have hxa : x < s.heap.objs.size := let ⟨o, e, _⟩ := I.obj; Heap.lt_size e
  have hda : dx < s.heap.objs.size := let ⟨o, _, _, e, _⟩ := I.ns; Heap.lt_size e
  refine ⟨_, fun _ _ e => e, fun b o _ e => F.keep b o e, ?_, ?_, ?_⟩
  · intro e he
    rcases List.mem_cons.mp he with rfl | he
    · exact F.ns
    rcases List.mem_cons.mp he with rfl | he
    · exact I₁.obj
    rw [List.mem_singleton.mp he]; exact I₁.ns
  · intro e he
    rcases List.mem_cons.mp he with rfl | he
    · exact .inr (get_none_size (Nat.le_refl _))
    rcases List.mem_cons.mp he with rfl | he
    · exact .inl hx
    rw [List.mem_singleton.mp he]; exact .inl hdx
  · show [s.heap.objs.size, x, dx].Nodup
    have := I.apart
    simp
    exact ⟨⟨Nat.ne_of_gt hxa, Nat.ne_of_gt hda⟩, fun q => this q.symm⟩
theorem Lf.instX {D : Addr → Prop} {h₀ h : Heap} {LL x dx : Addr} {vs : List (Str × Value)} {es : List Ent} {mA : Str → Option Value} {ns : List Str} {n : Nat} (F : Lf D h₀ LL h vs (.inst x dx :: .ns1 dx mA :: es)) (hw : Within mA ns) (hn : ns.length ≤ n) : InstX h x dx mA n :=
  ⟨F.at_ 0 rfl, F.at_ 1 rfl, fun q => F.ne (i := 0) (j := 1) rfl rfl (by decide) q.symm, ns, hw, hn⟩
theorem set_x {D : Addr → Prop} {h₀ : Heap} {LL x dx : Addr} {vs : List (Str × Value)} {es : List Ent} {mA : Str → Option Value} {ns : List Str} {name : Str} {v : Value} {Q : Unit → Shared → Prop}
    (F : Lf D h₀ LL s.heap vs (.inst x dx :: .ns1 dx mA :: es)) (hw : Within mA ns) (B : Base X L kvs w s.heap) (hn : ns.length ≤ 1000) (hx : (H1 X L w).get? x = none)
    (hna : (H1 X L w).nsMap 153 name = none) (hB : typeLookup (.type "object") name = pure none)
    (h : ∀ h' tk, Lf D h₀ LL h' vs (.inst x dx :: .ns1 dx (fun y => if y = name then some v else mA y) :: es) → Q () { s with heap := h', toks := tk }) :
    wpAny (model pw w) A (setAttr (.ref x) name v) Q E s := by
  refine setattr_x B (F.instX hw (Nat.le_refl _)) hn hx hna hB fun h' tk I' k => h h' tk ?_
  obtain ⟨m, V, BB⟩ := F
  have hnd := BB.apart
  refine ⟨m, V, BB.re (.ns LL m :: .inst x dx :: .ns1 dx _ :: es) rfl (fun b => b = x ∨ b = dx) ?_ (fun b o hb e => k b o (fun q => hb (.inl q)) (fun q => hb (.inr q)) e) ?_⟩
  · rintro b (rfl | rfl)
    · exact ⟨.inst b dx, by simp, rfl⟩
    · exact ⟨.ns1 b mA, by simp, rfl⟩
  · intro e he
    rcases List.mem_cons.mp he with rfl | he
    · refine Ent.loc _ _ _ (BB.at_ 0 rfl) fun o => k _ o ?_ ?_
      · intro q; simp [Ent.ns, Ent.inst] at hnd q; exact hnd.1.1 q
      · intro q; simp [Ent.ns, Ent.inst, Ent.ns1] at hnd q; exact hnd.1.2.1 q
    rcases List.mem_cons.mp he with rfl | he
    · exact I'.obj
    rcases List.mem_cons.mp he with rfl | he
    · exact I'.ns
    refine e.loc _ _ (BB.has e (by simp [he])) fun o => k _ o ?_ ?_
    · intro q; simp [Ent.inst] at hnd q; exact hnd.2.1.2 e he q
    · intro q; simp [Ent.ns1] at hnd q; exact hnd.2.2.1 e he q
end
end Mine
end

-- part W18
section
set_option maxRecDepth 100000
set_option maxHeartbeats 400000
namespace Mine
open PySem PySem.W PySem.Calls PyProof.Rows
section
variable {X : Nat → Obj} {L : Life} {kvs : List (Int × Value)} {w : World} {h h' : Heap} {s : Shared} {A : Around} {E : Value → Shared → Prop}
theorem newList_f {M : Model} {D : Addr → Prop} {h₀ : Heap} {LL : Addr} {vs : List (Str × Value)} {es : List Ent} {xs : List Value} {Q : Value → Shared → Prop} (F : Lf D h₀ LL s.heap vs es) (hsz : xs.length ≤ sizeLine)
    (h : ∀ h' l, Lf D h₀ LL h' vs (es ++ [.plain l xs.toArray]) → s.heap.get? l = none → (∀ b o, s.heap.get? b = some o → h'.get? b = some o) → Q (.ref l) { s with heap := h' }) : wpAny M A (newList xs) Q E s :=
  wpAny_newObj_type (h _ _ (F.push (.plain s.heap.objs.size xs.toArray) (fun b o e => Heap.get?_push_of_some _ e) ⟨_, Heap.get?_push_size _ rfl⟩ (get_none_size (Nat.le_refl _))) (get_none_size (Nat.le_refl _)) fun b o e => Heap.get?_push_of_some _ e) (by show xs.toArray.size ≤ sizeLine; rw [List.size_toArray]; exact hsz)
theorem padded_ge (cnt : List Int) (b : Nat) : b < (padded cnt b).length := by rw [padded_length]; omega
theorem init_ok {x dx : Addr} {Y : Addr → Prop} {cs : List Nat} {t : Tok} {Q : Value → Shared → Prop} (B : Base X L kvs w s.heap) (hA : A.depth < recursionLimit) (hh : A.handled = none)
    (I : InstX s.heap x dx (fun _ => none) 0) (hx : (H1 X L w).get? x = none) (hdx : (H1 X L w).get? dx = none) (hn : cs.length ≤ 1000)
    (hYx : Y x) (hYd : Y dx) (hY : ∀ b, s.heap.get? b = none → Y b)
    (hQ : ∀ h' tk, WsAt h' Y x (normOf cs) → (∀ b o, b ≠ x → b ≠ dx → s.heap.get? b = some o → h'.get? b = some o) → Q .none { s with heap := h', toks := tk }) :
    wpAny (model pw w) A (PySem.call (.ref 109) [.ref x, .str ⟨(indentL cs).toArray⟩ t]) Q E s := by
  refine mcall B hA (h1_o109 X L w) (h1_c109 X L w) rfl (binds := [(Str.ofString "self", .ref x), (Str.ofString "ws", .str ⟨(indentL cs).toArray⟩ t)]) rfl rfl rfl rfl rfl (by decide) fun h₁ F₁ => ?_
  have G₁ := Lf.with (D := fun b => b = x ∨ b = dx) F₁ I (.inl rfl) (.inr rfl)
  have hD : ∀ b, (b = x ∨ b = dx) → (H1 X L w).get? b = none := fun b e => by rcases e with rfl | rfl <;> assumption
  have hlen : (indentL cs).length ≤ 3000 := by have := @indent_length cs; omega
  -- self.raw = ws
  refine wpAny_execs_cons (plainObj_wpAny_Assign_Attribute (lf G₁ rfl (lf G₁ rfl ?_)))
  dsimp only
  refine set_x G₁ (ns := []) .nil (B.mono F₁.keep) (Nat.zero_le _) hx (n_raw X L w) ob_raw fun h₂ tk₂ G₂ => ?_
  dsimp only
  have B₂ := G₂.base B hD
  -- S, T = Whitespace.S, Whitespace.T
  with_reducible refine wpAny_execs_cons ?_
  refine Assign_Tuple_swapped (names := [Str.ofString "S", Str.ofString "T"]) (Tuple_ (Calls.spliced_cons (Attribute_Name_ (gname B₂ rfl (m_ws X L w) (ws_S B₂ fun t₁ => ?_) rfl rfl)))) rfl rfl
  refine Calls.spliced_cons (Attribute_Name_ (gname B₂ rfl (m_ws X L w) (ws_T B₂ fun t₂ => ?_) rfl rfl))
  refine Calls.spliced_nil (wpAny_newObj_type ?_ (by show (2 : Nat) ≤ sizeLine; rw [sizeLine_eq]; decide))
  dsimp only
  have k₃ : ∀ b o, h₂.get? b = some o → (h₂.push { cls := .type "tuple", data := .seq #[.str ⟨#[32]⟩ t₁, .str ⟨#[9]⟩ t₂] }).get? b = some o := fun b o e => Heap.get?_push_of_some _ e
  have ht : (h₂.push { cls := .type "tuple", data := .seq #[.str ⟨#[32]⟩ t₁, .str ⟨#[9]⟩ t₂] }).IsTuple h₂.objs.size #[.str ⟨#[32]⟩ t₁, .str ⟨#[9]⟩ t₂] := ⟨_, Heap.get?_push_size _ rfl, rfl, _, rfl⟩
  have G₃ := G₂.ext k₃
  refine wpAny_unpackItems_tuple (items := #[.str ⟨#[32]⟩ t₁, .str ⟨#[9]⟩ t₂]) hh ht fun h₄ he₄ => ?_
  have G₄ := G₃.ext (h' := h₄) fun b o e => he₄ b o (Nat.ne_of_lt (Heap.lt_size e)) e
  unfold assignInOrder
  refine wpAny_bind (bindName_ (sf G₄ fun h₅ G₅ => ?_))
  dsimp only
  unfold assignInOrder
  refine wpAny_bind (bindName_ (sf G₅ fun h₆ G₆ => ?_))
  refine wpAny_pure ?_
  dsimp only
  -- count = []
  with_reducible refine wpAny_execs_cons ?_
  with_reducible refine wpAny_Assign_Name ?_ swap_list
  with_reducible refine List_ ?_
  refine Calls.spliced_nil ?_
  refine newList_f G₆ (Nat.zero_le _) fun h₇ l G₇ _ _ => ?_
  refine sf G₇ fun h₈ G₈ => ?_
  dsimp only
  -- b = n = nt = 0
  refine wpAny_execs_cons (wpAny_Assign_three (wpAny_Constant_int (assign_Name (sf G₈ fun h₉ G₉ => ?_))))
  dsimp only
  refine assign_Name (sf G₉ fun h₁₀ G₁₀ => ?_)
  dsimp only
  refine assign_Name (sf G₁₀ fun h₁₁ G₁₁ => ?_)
  dsimp only
  have B₁₁ := G₁₁.base B hD
  have hasc : ((indentL cs).toArray).all (· < 128) = true := by
    rw [Array.all_eq_true]
    intro i hi
    rcases indent_signs (List.getElem_mem (l := indentL cs) (n := i) (by simpa using hi)) with h | h <;> simp [h]
  have I₁₁ := G₁₁.instX (n := 1) (.cons _ _ .nil) (Nat.le_refl _)
  refine wpAny_execs_cons (wpAny_For (Attribute_Name_ (lf G₁₁ rfl (getattr_x B₁₁ I₁₁.inst rfl (n_raw X L w) ob_raw rfl (wpAny_pyIter_ascii hasc ?_)))))
  dsimp only
  have G₁₂ := G₁₁.push (.sit h₁₁.objs.size ⟨(indentL cs).toArray⟩ t 0) (h' := h₁₁.push { cls := .type "str_ascii_iterator", data := .fields #[.str ⟨(indentL cs).toArray⟩ t, .int 0 0] }) (fun b o e => Heap.get?_push_of_some _ e) ⟨_, Heap.get?_push_size _ rfl, rfl, rfl⟩ (get_none_size (Nat.le_refl _))
  have W := Walks.strAscii (prog := pw) (w := w) (A := A.deeper (envOf (Str.ofString "Whitespace.__init__") (pMeth 9 1).2.2 s.heap.objs.size 109 (.ref 108))) hh h₁₁.objs.size ⟨(indentL cs).toArray⟩ t
  refine for_walk W (fun i s' => ∃ h' tk l vs tb tn tnt nt, s' = { s with heap := h', toks := tk } ∧ Lf (fun b => b = x ∨ b = dx) s.heap s.heap.objs.size h'
      [(Str.ofString "self", .ref x), (Str.ofString "S", .str ⟨#[32]⟩ t₁), (Str.ofString "T", .str ⟨#[9]⟩ t₂), (Str.ofString "count", .ref l), (Str.ofString "b", .int ((wsFold ((indentL cs).take i)).2 : Nat) tb), (Str.ofString "n", .int (i : Nat) tn), (Str.ofString "nt", .int nt tnt)]
      [.inst x dx, .ns1 dx (fun y => if y = Str.ofString "raw" then some (Value.str ⟨(indentL cs).toArray⟩ t) else none), .sit h₁₁.objs.size ⟨(indentL cs).toArray⟩ t i, .plain l vs.toArray] ∧ IntsAre vs (wsFold ((indentL cs).take i)).1) ?_ ?_ ?_ ?_
  · refine ⟨_, _, l, [], _, _, _, 0, rfl, Lf.perm (Lf.fewer (vs' := [(Str.ofString "self", .ref x), (Str.ofString "S", _), (Str.ofString "T", _), (Str.ofString "count", _), (Str.ofString "b", _), (Str.ofString "n", _), (Str.ofString "nt", _)]) G₁₂ ⟨rfl, rfl, rfl, rfl, rfl, rfl, rfl, trivial⟩) ?_, .nil⟩
    exact .cons _ (.cons _ (.swap _ _ _))
  · exact G₁₂.at_ 3 rfl
  · rintro i s' v h' tk E' hi ⟨h₃, tk₃, l₃, vs, tb, tn, tnt, nt, rfl, G, hiv⟩ ⟨c, tc, hc, rfl⟩ hS hkeep
    have G := G.but (h' := h') 2 (.sit h₁₁.objs.size ⟨(indentL cs).toArray⟩ t (i + 1)) rfl rfl (fun b o hb e => hkeep b o (fun q => hb (List.mem_singleton.mp q)) e) hS
    have hc' : (indentL cs)[i]? = some c := by simpa using hc
    have hcs := indent_signs (List.mem_of_getElem? hc')
    have hfold := wsFold_take_succ hc'
    have hfs := wsFold_small (indentL cs) i (by simpa using Nat.le_of_lt hi)
    have hil : i < 3000 := by have : i < (indentL cs).length := by simpa using hi
                              omega
    refine assign_Name (sf G fun h₅ G₅ => ?_)
    dsimp only
    refine wpAny_execs_cons (wpAny_If (wpAny_isTrue_Compare1 (lf G₅ rfl (lf G₅ rfl (PyProof.Rows.eq_str (wpAny_truthy_bool ?_))))))
    rcases hcs with rfl | rfl
    · rw [if_pos (by decide)]
      refine wpAny_execs_cons (wpAny_Assign_Name (wpAny_BinOp (lf G₅ rfl (wpAny_Constant_int (PyProof.Rows.add_int (sf G₅ fun h₆ G₆ => ?_))))))
      dsimp only
      refine wpAny_execs_cons (wpAny_Assign_Name (wpAny_BinOp (lf G₆ rfl (wpAny_Constant_int (PyProof.Rows.add_int (sf G₆ fun h₇ G₇ => ?_))))))
      dsimp only
      refine wpAny_execs_nil (wpAny_execs_nil ?_)
      have e1 : wsFold ((indentL cs).take (i + 1)) = ((wsFold ((indentL cs).take i)).1, (wsFold ((indentL cs).take i)).2 + 1) := by rw [hfold]; rfl
      rw [e1]
      refine ⟨rfl, ⟨_, _, l₃, vs, _, _, tnt, nt, rfl, G₇.fewer ⟨rfl, rfl, rfl, rfl, rfl, rfl, rfl, trivial⟩, hiv⟩, G₇.at_ 2 rfl⟩
    · rw [if_neg (by decide)]
      refine wpAny_execs_cons (wpAny_If (wpAny_isTrue_Compare1 (lf G₅ rfl (lf G₅ rfl (PyProof.Rows.eq_str (wpAny_truthy_bool ?_))))))
      rw [if_pos (by decide)]
      refine wpAny_execs_cons (wpAny_Assign_Name (wpAny_BinOp (lf G₅ rfl (wpAny_Constant_int (PyProof.Rows.add_int (sf G₅ fun h₆ G₆ => ?_))))))
      dsimp only
      refine wpAny_execs_cons (wpAny_Assign_Name (wpAny_BinOp (lf G₆ rfl (wpAny_Constant_int (PyProof.Rows.add_int (sf G₆ fun h₇ G₇ => ?_))))))
      dsimp only
      generalize hcnt : (wsFold ((indentL cs).take i)).1 = cnt at *
      generalize hbb : (wsFold ((indentL cs).take i)).2 = b at *
      have hvl : vs.length = cnt.length := ints_len hiv
      have B₇ := G₇.base B hD
      refine wpAny_execs_cons (wpAny_mono (Q := fun f s' => f = .next ∧ ∃ h' l' vs' tk tn' tnt', s' = { s with heap := h', toks := tk } ∧ Lf (fun b => b = x ∨ b = dx) s.heap s.heap.objs.size h'
        [(Str.ofString "self", .ref x), (Str.ofString "S", .str ⟨#[32]⟩ t₁), (Str.ofString "T", .str ⟨#[9]⟩ t₂), (Str.ofString "count", .ref l'), (Str.ofString "b", .int (b : Nat) tb), (Str.ofString "n", .int ((i : Nat) + 1) tn'), (Str.ofString "nt", .int (nt + 1) tnt')]
        [.inst x dx, .ns1 dx (fun y => if y = Str.ofString "raw" then some (Value.str ⟨(indentL cs).toArray⟩ t) else none), .sit h₁₁.objs.size ⟨(indentL cs).toArray⟩ t (i + 1), .plain l' vs'.toArray] ∧ IntsAre vs' (padded cnt b)) ?_ (fun f s' hq => ?_) (fun _ _ e => e))
      · refine wpAny_If (wpAny_isTrue_Compare1 (lf G₇ rfl (Call_Name1 (bname B₇ rfl rfl (m_len X L w) (b_len X L w) (callWith_builtin1 (lf G₇ rfl (call_len_list (G₇.at_ 3 rfl : Heap.PlainList _ _ _).isList (by simp; omega) (PyProof.Rows.ge_int (wpAny_truthy_bool ?_))))) rfl rfl))))
        dsimp only
        by_cases hge : cnt.length ≤ b
        · rw [if_pos (by simp [hvl]; omega)]
          refine wpAny_execs_cons (wpAny_Assign_Name (wpAny_BinOp (lf G₇ rfl (wpAny_BinOp (List_ ?_)))))
          with_reducible refine spliced_ints _ [0] _ _ ?_ fun zs tkz hzs => ?_
          · rfl
          obtain ⟨tz, rfl⟩ : ∃ tz, zs = [.int 0 tz] := by
            cases hzs with
            | cons _ tz h => cases h; exact ⟨tz, rfl⟩
          refine newList_f G₇ (by show (1 : Nat) ≤ sizeLine; rw [sizeLine_eq]; decide) fun h₈ l₈ G₈ hln k₈ => ?_
          have B₈ := G₈.base B hD
          dsimp only
          refine wpAny_BinOp (wpAny_BinOp (lf G₈ rfl (Call_Name1 (bname B₈ rfl rfl (m_len X L w) (b_len X L w) (callWith_builtin1 (lf G₈ rfl ?_)) rfl rfl))))
          refine call_len_list (G₈.at_ 3 rfl : Heap.PlainList _ _ _).isList (by simp; omega) ?_
          refine PyProof.Rows.sub_int (wpAny_Constant_int (PyProof.Rows.add_int ?_))
          dsimp only
          obtain ⟨kz, hz⟩ : h₈.PlainList l₈ #[.int 0 _] := G₈.at_ 4 rfl
          obtain ⟨kc, hcl⟩ : h₈.PlainList l₃ vs.toArray := G₈.at_ 3 rfl
          have ek : ((b : Nat) : Int) - (vs.toArray.size : Nat) + 1 = ((b + 1 - cnt.length : Nat) : Int) := by simp [hvl]; omega
          rw [ek]
          refine mul_list' hz (by omega) (by omega) (by simp; omega) ?_
          rw [show (if (#[Value.int 0 tz] : Array Value).isEmpty = true then 0 else ((b + 1 - cnt.length : Nat) : Int).toNat) = b + 1 - cnt.length from by simp, zeros_arr]
          dsimp only
          refine P.add_list (Heap.get?_push_of_some _ hcl) (Heap.get?_push_size _ rfl) ?_ (by rw [sizeLine_eq]; simp; omega)
          dsimp only
          have G₉ := G₈.ext (h' := h₈.push { cls := .type "list", data := .seq (#[] ++ (List.replicate (b + 1 - cnt.length) (Value.int 0 tz)).toArray) }) fun b o e => Heap.get?_push_of_some _ e
          have G₁₀ := G₉.push (.plain (h₈.push { cls := .type "list", data := .seq (#[] ++ (List.replicate (b + 1 - cnt.length) (Value.int 0 tz)).toArray) }).objs.size (vs ++ List.replicate (b + 1 - cnt.length) (Value.int 0 tz)).toArray) (fun b o e => Heap.get?_push_of_some _ e)
            (h' := (h₈.push { cls := .type "list", data := .seq (#[] ++ (List.replicate (b + 1 - cnt.length) (Value.int 0 tz)).toArray) }).push { cls := .type "list", data := .seq (vs.toArray ++ (#[] ++ (List.replicate (b + 1 - cnt.length) (Value.int 0 tz)).toArray)) })
            ⟨_, by rw [show (vs ++ List.replicate (b + 1 - cnt.length) (Value.int 0 tz)).toArray = vs.toArray ++ (#[] ++ (List.replicate (b + 1 - cnt.length) (Value.int 0 tz)).toArray) by simp]; exact Heap.get?_push_size _ rfl⟩ (get_none_size (Nat.le_refl _))
          refine sf G₁₀ fun h₁₁' G₁₁' => ?_
          dsimp only
          refine wpAny_execs_nil ⟨rfl, _, _, vs ++ List.replicate (b + 1 - cnt.length) (Value.int 0 tz), _, _, _, rfl, Lf.fewer (Lf.sub G₁₁' ?_) ⟨rfl, rfl, rfl, rfl, rfl, rfl, rfl, trivial⟩, ?_⟩
          · exact .cons_cons _ (.cons_cons _ (.cons_cons _ (.cons _ (.cons _ (.cons_cons _ .slnil)))))
          · unfold padded; rw [if_pos hge]
            exact hiv.append (ints_zero _ _)
        · rw [if_neg (by simp [hvl]; omega)]
          refine wpAny_execs_nil ⟨rfl, _, _, vs, _, _, _, rfl, G₇.fewer ⟨rfl, rfl, rfl, rfl, rfl, rfl, rfl, trivial⟩, ?_⟩
          unfold padded; rw [if_neg hge]; exact hiv
      · obtain ⟨rfl, h₈, l₈, vs₈, tk₈, tn₈, tnt₈, rfl, G₈, hi₈⟩ := hq
        dsimp only
        have hp : b < (padded cnt b).length := padded_ge cnt b
        have hpl := ints_len hi₈
        have hpm : (padded cnt b).length ≤ 3000 := by rw [padded_length]; omega
        obtain ⟨tb', htb⟩ := ints_at hi₈ b ((padded cnt b).getD b 0) (by rw [List.getD_eq_getElem?_getD, List.getElem?_eq_getElem hp]; rfl)
        refine wpAny_execs_cons (wpAny_Assign_Subscript (wpAny_BinOp (Subscript_Name (lf G₈ rfl (lf G₈ rfl ⟨"list", _, slot_list_getitem.lookup, isList_typeIs (G₈.at_ 3 rfl : Heap.PlainList _ _ _).isList, wpAny_getItem_list (G₈.at_ 3 rfl : Heap.PlainList _ _ _).isList (by omega) (by omega) (x := .int ((padded cnt b).getD b 0) tb') (by simpa using htb) ?_⟩)))))
        dsimp only
        refine wpAny_Constant_int (PyProof.Rows.add_int (lf G₈ rfl (lf G₈ rfl (setItem_plain (G₈.at_ 3 rfl : Heap.PlainList _ _ _) (by omega) (by omega) (by simp; omega) fun h₉ hl₉ hs₉ => ?_))))
        dsimp only
        have G₉ := G₈.same 3 (.plain l₈ (vs₈.set b (.int ((padded cnt b).getD b 0 + 1) (tk₈ + 1))).toArray) rfl rfl hs₉ (show h₉.PlainList l₈ _ from by simpa using hl₉)
        refine wpAny_execs_cons (wpAny_Assign_Name (wpAny_Constant_int (sf G₉ fun h₁₀ G₁₀ => ?_)))
        dsimp only
        refine wpAny_execs_nil (wpAny_execs_nil (wpAny_execs_nil ?_))
        have e1 : wsFold ((indentL cs).take (i + 1)) = (tally cnt b, 0) := by rw [hfold, ← hcnt, ← hbb]; rfl
        rw [e1]
        exact ⟨rfl, ⟨_, _, l₈, _, _, _, _, _, rfl, G₁₀.fewer ⟨rfl, rfl, rfl, rfl, rfl, rfl, rfl, trivial⟩, ints_set hi₈ _ _ b⟩, G₁₀.at_ 2 rfl⟩
  · rintro s' h' tk ⟨h₃, tk₃, l₃, vs, tb, tn, tnt, nt, rfl, G, hiv⟩ hkeep
    have G₁ := G.lose (h' := h') 2 rfl fun b o hb e => hkeep b o (fun q => hb (List.mem_singleton.mp q)) e
    have efold : wsFold ((indentL cs).take (Array.size (⟨(indentL cs).toArray⟩ : Str).cps)) = (normOf cs, 0) := by
      rw [show Array.size (⟨(indentL cs).toArray⟩ : Str).cps = (indentL cs).length from by simp, List.take_length]; exact wsFold_indent cs
    rw [efold] at G₁ hiv
    have hvl : vs.length = (normOf cs).length := ints_len hiv
    have hsm := wsFold_small (indentL cs) (indentL cs).length (Nat.le_refl _)
    rw [List.take_length, wsFold_indent] at hsm
    dsimp only at hsm
    dsimp only
    refine wpAny_execs_cons (plainObj_wpAny_Assign_Attribute (lf G₁ rfl (lf G₁ rfl ?_)))
    refine set_x G₁ (ns := [Str.ofString "raw"]) (.cons _ _ .nil) (G₁.base B hD) (by decide) hx (n_n X L w) ob_n fun h₄ tk₄ G₂ => ?_
    dsimp only
    refine wpAny_execs_cons (plainObj_wpAny_Assign_Attribute (lf G₂ rfl (lf G₂ rfl ?_)))
    refine set_x G₂ (ns := [Str.ofString "n", Str.ofString "raw"]) (.cons _ _ (.cons _ _ .nil)) (G₂.base B hD) (by decide) hx (n_nt X L w) ob_nt fun h₅ tk₅ G₃ => ?_
    dsimp only
    refine wpAny_execs_cons (plainObj_wpAny_Assign_Attribute (Tuple_ (Calls.spliced_cons (Call_Name1 (bname (G₃.base B hD) rfl rfl (m_tuple X L w) (b_tuple X L w) (callWith_type1 (lf G₃ rfl (call_tuple_list (G₃.at_ 2 rfl : Heap.PlainList _ _ _).isList (fun h₆ k₆ => ?_) (by rw [sizeLine_eq]; simp; omega)))) rfl rfl)))))
    dsimp only
    have G₄ := (G₃.ext k₆).push (.obj h₆.objs.size { cls := .type "tuple", data := .seq vs.toArray }) (h' := h₆.push { cls := .type "tuple", data := .seq vs.toArray }) (fun b o e => Heap.get?_push_of_some _ e) (Heap.get?_push_size _ rfl) (get_none_size (Nat.le_refl _))
    refine Calls.spliced_cons (lf G₄ rfl (Calls.spliced_nil (wpAny_newObj_type ?_ (by show (2 : Nat) ≤ sizeLine; rw [sizeLine_eq]; decide))))
    dsimp only
    have G₅ := G₄.push (.obj (h₆.push { cls := .type "tuple", data := .seq vs.toArray }).objs.size { cls := .type "tuple", data := .seq #[.ref h₆.objs.size, .int 0 tb] })
      (h' := (h₆.push { cls := .type "tuple", data := .seq vs.toArray }).push { cls := .type "tuple", data := .seq #[.ref h₆.objs.size, .int 0 tb] }) (fun b o e => Heap.get?_push_of_some _ e) (Heap.get?_push_size _ rfl) (get_none_size (Nat.le_refl _))
    refine lf G₅ rfl ?_
    refine set_x G₅ (ns := [Str.ofString "nt", Str.ofString "n", Str.ofString "raw"]) (.cons _ _ (.cons _ _ (.cons _ _ .nil))) (G₅.base B hD) (by decide) hx (n_norm X L w) ob_norm fun h₇ tk₇ G₆ => ?_
    dsimp only
    refine wpAny_execs_cons (plainObj_wpAny_Assign_Attribute (wpAny_Compare1 (Call_Name1 (bname (G₆.base B hD) rfl rfl (m_len X L w) (b_len X L w) (callWith_builtin1 (lf G₆ rfl ?_)) rfl rfl))))
    refine call_len_list (G₆.at_ 2 rfl : Heap.PlainList _ _ _).isList (by simp; omega) ?_
    refine wpAny_Constant_int (PyProof.Rows.le_int (lf G₆ rfl ?_))
    refine set_x G₆ (ns := [Str.ofString "norm", Str.ofString "nt", Str.ofString "n", Str.ofString "raw"]) (.cons _ _ (.cons _ _ (.cons _ _ (.cons _ _ .nil)))) (G₆.base B hD) (by decide) hx (n_simple X L w) ob_simple fun h₈ tk₈ G₇ => ?_
    dsimp only
    refine wpAny_execs_nil ?_
    refine hQ _ _ ?_ (fun b o h1 h2 e => G₇.keep b o (by rintro (q | q) <;> contradiction) e)
    have hYY : ∀ b, ((b = x ∨ b = dx) ∨ s.heap.get? b = none) → Y b := by
      rintro b ((rfl | rfl) | e)
      · exact hYx
      · exact hYd
      · exact hY b e
    exact ⟨dx, _, 5, _, _, tb, vs, G₇.instX (.cons _ _ (.cons _ _ (.cons _ _ (.cons _ _ (.cons _ _ .nil))))) (by decide), rfl, rfl, G₇.at_ 4 rfl, G₇.at_ 3 rfl, hiv, hYx, hYd, hYY _ (G₇.new 4 rfl), hYY _ (G₇.new 3 rfl)⟩
end
end Mine
end

-- part W19
section
set_option maxRecDepth 100000
set_option maxHeartbeats 400000
namespace Mine
open PySem PySem.W PySem.Calls PyProof.Rows
section
variable {prog : Program} {w : World} {A : Around} {E : Value → Shared → Prop} {s : Shared}
def loVal : Option (Nat × Tok) → Value
  | none => .none
  | some p => .int (p.1 : Nat) p.2
def loNat : Option (Nat × Tok) → Nat
  | none => 0
  | some p => p.1
theorem adjust_plain (lo : Option (Nat × Tok)) (b n : Nat) : Builtin.Slice.sliceAdjust (lo.map fun p => ((p.1 : Nat) : Int)) (some (b : Int)) 1 (n : Int) = (((min (loNat lo) n : Nat) : Int), ((min b n : Nat) : Int)) := by
  unfold Builtin.Slice.sliceAdjust
  have h1 : ¬ ((1 : Int) < 0) := by omega
  have h2 : ¬ ((b : Int) < 0) := by omega
  cases lo with
  | none => simp only [h1, h2, if_false, Option.map, loNat]; congr 1 <;> omega
  | some p =>
    have h3 : ¬ ((p.1 : Int) < 0) := by omega
    simp only [h1, h2, h3, if_false, Option.map, loNat]; congr 1 <;> omega
theorem places_plain (a b : Nat) : Builtin.Slice.slicePlaces (a : Int) (b : Int) 1 = b - a := by
  unfold Builtin.Slice.slicePlaces
  have h1 : (1 : Int) > 0 := by omega
  simp only [h1, if_true, Int.ediv_one]
  split <;> omega
theorem slicePart_lo {lo : Option (Nat × Tok)} {Q : Option Int → Shared → Prop} (h : Q (lo.map fun p => ((p.1 : Nat) : Int)) s) : wpAny (model prog w) A (Builtin.Slice.slicePartIndex (loVal lo)) Q E s := by
  cases lo with
  | none => exact slicePart_none h
  | some p => exact slicePart_int h
theorem sliceApplied_plain {sl : Addr} {lo : Option (Nat × Tok)} {b n : Nat} {u : Tok} {Q : Int × Int × Nat → Shared → Prop} (hs : s.heap.IsSliceOf sl (loVal lo) (.int (b : Nat) u) .none)
    (h : Q (((min (loNat lo) n : Nat) : Int), 1, min b n - min (loNat lo) n) s) :
    wpAny (model prog w) A (Builtin.Slice.sliceApplied (.ref sl) (pure (n : Int))) Q E s := by
  obtain ⟨os, hos, hcs, hds⟩ := id hs
  unfold Builtin.Slice.sliceApplied Builtin.Slice.sliceFields
  refine wpAny_bind (wpAny_bind (wpAny_field hos hds (x := loVal lo) rfl (wpAny_bind (wpAny_field hos hds (x := .int (b : Nat) u) rfl (wpAny_bind (wpAny_field hos hds (x := .none) rfl (wpAny_pure ?_)))))))
  refine wpAny_bind (slicePart_none ?_)
  show wpAny _ _ (if ((1 : Int) == 0) = true then _ else _) _ _ s
  rw [if_neg (by decide)]
  refine wpAny_bind (slicePart_lo (wpAny_bind (slicePart_int (wpAny_bind (wpAny_pure ?_)))))
  show wpAny _ _ (match Builtin.Slice.sliceAdjust (lo.map fun p => ((p.1 : Nat) : Int)) (some (b : Int)) 1 (n : Int) with | (lo, hi) => pure (lo, (1 : Int), Builtin.Slice.slicePlaces lo hi 1)) _ _ s
  rw [adjust_plain]
  show wpAny _ _ (pure (_, (1 : Int), Builtin.Slice.slicePlaces _ _ 1)) _ _ s
  rw [places_plain]
  exact wpAny_pure h
theorem clip_list {α : Type} (l : List α) (a b : Nat) : (l.drop (min a l.length)).take (min b l.length - min a l.length) = (l.drop a).take (b - a) := by
  rcases Nat.le_total a l.length with h | h
  · rw [Nat.min_eq_left h]
    rcases Nat.le_total b l.length with h2 | h2
    · rw [Nat.min_eq_left h2]
    · rw [Nat.min_eq_right h2, List.take_of_length_le (by simp), List.take_of_length_le (by simp; omega)]
  · rw [Nat.min_eq_right h, List.drop_of_length_le (Nat.le_refl _), List.drop_of_length_le h]; simp
theorem getItem_tuple_slice {t sl : Addr} {items : List Value} {lo : Option (Nat × Tok)} {b : Nat} {u : Tok} {Q : Value → Shared → Prop} (ht : IsTup s.heap t items.toArray) (hs : s.heap.IsSliceOf sl (loVal lo) (.int (b : Nat) u) .none)
    (h : ∀ h' r, IsTup h' r ((items.drop (loNat lo)).take (b - loNat lo)).toArray → (∀ q o, s.heap.get? q = some o → h'.get? q = some o) → Q (.ref r) { s with heap := h' })
    (hsz : items.length ≤ sizeLine) : wpAny (model prog w) A (getItem (.ref t) (.ref sl)) Q E s := by
  obtain ⟨os, hos, hcs, hds⟩ := id hs
  have hTs : s.TypeIs (.ref sl) "slice" := ⟨os, hos, hcs⟩
  have hcl := clip_list items (loNat lo) b
  unfold getItem
  try with_reducible refine wpAny_holding ?_
  first | refine wpAny_bind (wpAny_pure ?_) | skip
  refine wpAny_bind (wpAny_sequenceKey ht.typeIs (by decide) ?_)
  refine wpAny_bind (wpAny_callSpecial?_slot (name := Str.ofString "__getitem__") ht.typeIs slot_tuple_getitem
    (wpAny_call_entry slot_tuple_getitem ht.typeIs entry_tuple_getitem ?_ (args_tuple_getitem _ _)))
  show wpAny _ _ (Builtin.Tuple.tupleItemsOf (.ref t) >>= _) _ _ s
  refine wpAny_bind (tupleItemsOf_ ht ?_)
  refine wpAny_bind (wpAny_typeOf hTs ?_)
  rw [if_pos (by decide)]
  refine wpAny_bind (sliceApplied_plain hs ?_)
  have hsz' : items.toArray.size = items.length := by simp
  rw [hsz']
  generalize ha : min (loNat lo) items.length = a at *
  generalize hk : min b items.length - a = k at *
  show wpAny _ _ (if ((a : Int) == 0 && (1 : Int) == 1 && k == items.toArray.size) = true then _ else _) _ _ s
  have pick : ((List.range k).filterMap fun (j : Nat) => items.toArray[((a : Int) + (j : Int) * 1).toNat]?).toArray = ((items.drop (loNat lo)).take (b - loNat lo)).toArray := by
    have e : (fun (j : Nat) => items.toArray[((a : Int) + (j : Int) * 1).toNat]?) = fun j => items.toArray[a + j]? := by
      funext j
      have : ((a : Int) + (j : Int) * 1).toNat = a + j := by omega
      rw [this]
    rw [e]
    have := pick_run items.toArray a k
    rw [List.filterMap_map] at this
    have e2 : ((fun x => items.toArray[x]?) ∘ fun x => a + x) = fun j => items.toArray[a + j]? := rfl
    rw [e2] at this
    rw [this, ← hcl]
  by_cases hw : ((a : Int) == 0 && (1 : Int) == 1 && k == items.toArray.size) = true
  · rw [if_pos hw]
    simp at hw
    obtain ⟨rfl, rfl⟩ := hw
    obtain ⟨ot, hot, hct, nt, hdt⟩ := id ht
    have hres : IsTup s.heap t ((items.drop (loNat lo)).take (b - loNat lo)).toArray := by rw [← hcl]; simpa using ht
    refine wpAny_bind (m := Builtin.Tuple.tupleIsExact (.ref t)) (wpAny_bind (wpAny_typeOf ht.typeIs (wpAny_pure ?_)))
    rw [if_pos (by decide)]
    have hfin := h s.heap t hres fun _ _ e => e
    exact wpAny_bind (wpAny_rule (wpAny_bind (wpAny_pure (wpAny_pure ⟨_, rfl, wpAny_pure hfin⟩))))
  · rw [if_neg hw, pick]
    have hfin := h (s.heap.push { cls := .type "tuple", data := .seq ((items.drop (loNat lo)).take (b - loNat lo)).toArray }) s.heap.objs.size ⟨_, Heap.get?_push_size _ rfl, rfl, _, rfl⟩ fun q o e => Heap.get?_push_of_some _ e
    have hdrop : sizeOk (.seq ((items.drop (loNat lo)).take (b - loNat lo)).toArray) := by
      show ((items.drop (loNat lo)).take (b - loNat lo)).toArray.size ≤ sizeLine
      rw [List.size_toArray, List.length_take, List.length_drop]
      omega
    first
      | exact wpAny_bind (m := Builtin.Tuple.tupleExact _) (wpAny_newObj_type (wpAny_pure ⟨_, rfl, wpAny_pure hfin⟩) hdrop)
      | exact wpAny_bind (m := Builtin.Tuple.tupleExact _) (wpAny_newObj_type (wpAny_bind (wpAny_pure (wpAny_pure ⟨_, rfl, wpAny_pure hfin⟩))) hdrop)
      | exact wpAny_bind (wpAny_bind (m := Builtin.Tuple.tupleExact _) (wpAny_newObj_type (wpAny_pure (wpAny_pure ⟨_, rfl, wpAny_pure hfin⟩)) hdrop))
      | exact wpAny_bind (wpAny_bind (m := Builtin.Tuple.tupleExact _) (wpAny_newObj_type (wpAny_pure ⟨_, rfl, wpAny_pure hfin⟩) hdrop))
end
end Mine
end

-- part W20
section
set_option maxRecDepth 100000
set_option maxHeartbeats 400000
namespace Mine
open PySem PySem.W PySem.Calls PyProof.Rows
section
variable {prog : Program} {w : World} {A : Around} {E : Value → Shared → Prop} {s : Shared} {env : Env}
theorem Call_methodI {o e : Expr} {name : Str} {apos pos : Pos} {Q : Value → Shared → Prop}
    (hbase : attributeBase o name env (eval o env) = eval o env) (hs : starEach [e] env = [(false, eval e env)]) (hline : (apos.endLine == pos.line) = true)
    (h : wpAny (model prog w) A (eval o env) (fun ov s₁ => ∀ pl, wpAny (model prog w) A (getMethod ov name pl) (fun r s₂ => wpAny (model prog w) A (callWith pos r.1 r.2 [(false, eval e env)] []) Q E s₂) E s₁) E s) :
    wpAny (model prog w) A (eval (.Call (.Attribute o name apos) [e] [] pos) env) Q E s := by
  have hbt : backTo pos (starEach [e] env) = [(false, eval e env)] := by rw [hs]; rfl
  have hfew : ((backTo pos (starEach [e] env)).all (fun x => !x.1) && (backToKw pos (keywordEach [] env)).all (fun x => x.1.isSome)
      && decide ([e].length + ([] : List Keyword).length + (if ([] : List Keyword).isEmpty then 0 else 1) < 30)) = true := by rw [hbt]; rfl
  rw [arm_eval_Call, hbase]
  refine wpAny_bind (wpAny_mono h (fun ov s₁ h₁ => ?_) fun _ _ e => e)
  refine wpAny_bind (wpAny_standAt ?_)
  have hform : methodCallForm ([e].length + ([] : List Keyword).length) (backTo pos (starEach [e] env)) (backToKw pos (keywordEach [] env)) = true := hfew
  have hpos : methodCallPos true o env apos pos = pure pos := by unfold methodCallPos; simp [hline]
  unfold methodCall
  rw [hform]
  refine wpAny_bind (wpAny_holding (wpAny_mono (h₁ _) (fun r s₂ h₂ => ?_) fun _ _ e => e))
  rw [hbt]
  exact wpAny_bind (wpAny_of_eq hpos h₂)
theorem sum_tuple {t : Addr} {vs : List Value} {ns : List Int} {Q : Value → Shared → Prop} (hh : A.handled = none) (ht : s.heap.IsTuple t vs.toArray) (hv : IntsAre vs ns)
    (hQ : ∀ h' tk t', (∀ b o, s.heap.get? b = some o → h'.get? b = some o) → Q (.int ns.sum t') { s with heap := h', toks := tk }) : wpAny (model prog w) A (PySem.call (.builtin "sum") [.ref t]) Q E s := by
  have hts : t < s.heap.objs.size := by obtain ⟨o, ho, _⟩ := ht; exact Heap.lt_size ho
  refine call_sum_walkG (wpAny_pyIter_tuple ht ?_)
  refine ⟨_, [s.heap.objs.size, t], [s.heap.objs.size], vs.length, fun i v => vs.toArray[i]? = some v, fun i h => h.IsTupleIter s.heap.objs.size t i ∧ h.IsTuple t vs.toArray, fun i => ns.getD i 0, rfl, ?_, ?_, ?_, ?_⟩
  · exact (Walks.tuple (prog := prog) (w := w) (A := A.in1) hh s.heap.objs.size t (Nat.ne_of_lt hts) vs.toArray)
  · exact ⟨⟨_, Heap.get?_push_size _ rfl, rfl, rfl⟩, Heap.IsTuple.at ht fun o e => Heap.get?_push_of_some _ e⟩
  · intro b hb
    dsimp only
    rw [Heap.size_push]
    rcases List.mem_cons.mp hb with rfl | hb
    · exact Nat.lt_succ_self _
    · rw [List.mem_singleton.mp hb]; exact Nat.lt_succ_of_lt hts
  · refine ⟨fun i v hi => ?_, fun h' tk t' k => ?_⟩
    · have hi' : vs[i]? = some v := by simpa using hi
      have hl := ints_len hv
      have hlt : i < ns.length := by rw [← hl]; exact (List.getElem?_eq_some_iff.mp hi').1
      obtain ⟨tt, e⟩ := ints_at hv i ns[i] (List.getElem?_eq_getElem hlt)
      rw [hi'] at e
      refine ⟨tt, ?_⟩
      show v = .int (ns.getD i 0) tt
      rw [Option.some.inj e, List.getD_eq_getElem?_getD, List.getElem?_eq_getElem hlt]; rfl
    · rw [preSum_getD, ints_len hv, List.take_length]
      refine hQ h' tk t' fun b o e => k b o (fun q => ?_) (Heap.get?_push_of_some _ e)
      rw [List.mem_singleton.mp q] at e
      exact absurd (Heap.lt_size e) (Nat.lt_irrefl _)
end
section
variable {X : Nat → Obj} {L : Life} {kvs : List (Int × Value)} {w : World} {h h' : Heap} {s : Shared} {A : Around} {E : Value → Shared → Prop}
theorem ws_call {pos : Pos} {e : Expr} {env : Env} {Q : Value → Shared → Prop} (B : Base X L kvs w s.heap) (hs : starEach [e] env = [(false, eval e env)])
    (h : wpAny (model pw w) A (eval e env) (fun v s₁ => (∀ b o, s.heap.get? b = some o → s₁.heap.get? b = some o) ∧ wpAny (model pw w) A (PySem.call (.ref 154) [v]) Q E s₁) E s) :
    wpAny (model pw w) A (callWith pos (.ref 154) [] [(false, eval e env)] []) Q E s := by
  have hbt : backTo pos (starEach [e] env) = [(false, eval e env)] := by rw [hs]; rfl
  have := callWith_cls (prog := pw) (w := w) (A := A) (env := env) (pos := pos) (e := e) (rest := []) (Q := Q) (E := E) (s := s) B.cls
    (by rw [hbt]; exact Calls.spliced_cons (wpAny_mono h (fun _ _ h₁ => Calls.spliced_nil h₁) fun _ _ e => e)) (by rw [hs]; rfl) rfl
  rw [hbt] at this
  exact this
theorem ws_new {cs : List Nat} {t : Tok} {Y : Addr → Prop} {Q : Value → Shared → Prop} (B : Base X L kvs w s.heap) (hA : A.depth + 2 < recursionLimit) (hh : A.handled = none) (hn : cs.length ≤ 1000)
    (hY : ∀ b, s.heap.get? b = none → Y b)
    (hQ : ∀ h' tk x, WsAt h' Y x (normOf cs) → s.heap.get? x = none → (∀ b o, s.heap.get? b = some o → h'.get? b = some o) → Q (.ref x) { s with heap := h', toks := tk }) :
    wpAny (model pw w) A (PySem.call (.ref 154) [.str ⟨(indentL cs).toArray⟩ t]) Q E s := by
  obtain ⟨hh', g, d, tt, os⟩ := s
  obtain ⟨nm, q, bs, sn, sub, col, dd, k0, k1, k2, k3, k5, hC⟩ := B.cls.obj
  refine wpAny_call_obj_init PySem.F.objNew hC B.cls.ns (n_init X L w) (B.keep _ _ (h1_o109 X L w)) rfl fun h' x dx Mk => ?_
  have B' := B.mono Mk.keeps
  have hx0 : (H1 X L w).get? x = none := by
    cases e : (H1 X L w).get? x with
    | none => rfl
    | some o => have := B.keep _ _ e; dsimp only at this; rw [Mk.newX] at this; cases this
  have hd0 : (H1 X L w).get? dx = none := by
    cases e : (H1 X L w).get? dx with
    | none => rfl
    | some o => have := B.keep _ _ e; dsimp only at this; rw [Mk.newD] at this; cases this
  have I : InstX h' x dx (fun _ => none) 0 := by
    obtain ⟨ox, hx, hcx, hncx, hdx⟩ := Mk.inst
    have hdd := Mk.dict ox hx
    rcases hdx with ⟨hn0, _⟩ | ⟨d', hd', hne, hns'⟩
    · rw [hn0] at hdd; cases hdd
    · obtain rfl := Option.some.inj (hd'.symm.trans hdd)
      exact ⟨⟨ox, hx, hcx, hdd, hncx⟩, hns', hne, [], .nil, Nat.le_refl _⟩
  refine init_ok (s := ⟨h', g, d, tt, os⟩) (Y := Y) B' ?_ hh I hx0 hd0 hn (hY _ Mk.newX) (hY _ Mk.newD) (fun b hb => hY b ?_) fun h₂ tk₂ W k => ⟨rfl, ?_⟩
  · show A.depth + (Code.builtin "type.__call__" _).weight < recursionLimit
    exact (show A.depth + 1 < recursionLimit by omega)
  · cases e : hh'.get? b with
    | none => rfl
    | some o => have := Mk.keeps _ _ e; dsimp only at hb; rw [hb] at this; cases this
  · refine hQ h₂ tk₂ x W Mk.newX fun b o e => k b o ?_ ?_ (Mk.keeps _ _ e)
    · rintro rfl; dsimp only at e; rw [Mk.newX] at e; cases e
    · rintro rfl; dsimp only at e; rw [Mk.newD] at e; cases e
theorem reads_ints {h : Heap} {vs : List Value} {ns : List Int} (hi : IntsAre vs ns) : ReadsAll h vs (ns.map PyData.int) [] := by
  induction hi with
  | nil => exact .nil
  | cons n t _ ih => exact .cons (.int n t) ih
theorem WsAt.reads {Y : Addr → Prop} {x : Addr} {cnt : List Int} (W : WsAt h Y x cnt) : ∃ mA v, h.Inst x 154 mA ∧ mA (Str.ofString "norm") = some v ∧ mA (Str.ofString "equal") = none ∧ handedOut v = pure v ∧ Reads h v (.tuple [.tuple (cnt.map PyData.int), .int 0]) [] := by
  obtain ⟨dx, mA, n, tp, tc, t, vs, h1, h2, h3, h4, h5, h6, _⟩ := W
  exact ⟨mA, .ref tp, h1.inst, h2, h3, rfl, .tuple h4 rfl rfl (.cons (.tuple h5 rfl rfl (reads_ints h6)) (.cons (.int 0 t) .nil))⟩
theorem equal_ok {x y : Addr} {Y Y' : Addr → Prop} {cnt : List Int} {Q : Value → Shared → Prop} (B : Base X L kvs w s.heap) (hA : A.depth < recursionLimit) (hu : A.units + 100 < cLine) (hx : WsAt s.heap Y x cnt) (hy : WsAt s.heap Y' y cnt)
    (hQ : ∀ h' tk, (∀ b o, s.heap.get? b = some o → h'.get? b = some o) → Q (.bool true) { s with heap := h', toks := tk }) :
    wpAny (model pw w) A (PySem.call (.ref 130) [.ref x, .ref y]) Q E s := by
  refine mcall B hA (h1_o130 X L w) (h1_c130 X L w) rfl (binds := [(Str.ofString "self", .ref x), (Str.ofString "other", .ref y)]) rfl rfl rfl rfl rfl (by decide) fun h₁ F₁ => ?_
  have B₁ := B.mono F₁.keep
  obtain ⟨mA, v, I, q1, _, q3, q4⟩ := (hx.keeps fun b o _ e => F₁.keep b o e).reads
  obtain ⟨mA', v', I', q1', _, q3', q4'⟩ := (hy.keeps fun b o _ e => F₁.keep b o e).reads
  have G := Lf.of (D := fun _ => False) F₁
  refine wpAny_execs_cons (wpAny_Return_some (wpAny_Compare1 (Attribute_Name_ (lf G rfl (getattr_x B₁ I q1 (n_norm X L w) ob_norm q3 (Attribute_Name_ (lf G rfl (getattr_x B₁ I' q1' (n_norm X L w) ob_norm q3' ?_))))))))
  have hsh : SeqAt.shaped (.tuple [.tuple (cnt.map PyData.int), .int 0]) = true := by
    have h1 := W.depthAll_ints cnt
    unfold SeqAt.shaped
    rw [Bool.and_eq_true]
    refine ⟨?_, decide_eq_true ?_⟩
    · simp only [PyData.canLay0, PyData.canLayAll0, canLayAll0_ints cnt]; rfl
    · simp only [PyData.depth, PyData.depthAll]; omega
  refine eq_dataH_same q4 q4' hsh hsh (by show A.units + 3 + 64 < cLine; omega) ?_ ?_
  · simp only [SeqAt.noMix, SeqAt.noMixAll, noMix_ints]; rfl
  · have : Spec.same (.tuple [.tuple (cnt.map PyData.int), .int 0]) (.tuple [.tuple (cnt.map PyData.int), .int 0]) = true := by
      simp only [Spec.same, Spec.sameAll, same_ints]; simp
    rw [this]
    exact hQ _ _ F₁.keep
end
end Mine
end

-- part W21
section
set_option maxRecDepth 100000
set_option maxHeartbeats 400000
namespace Mine
open PySem PySem.W PySem.Calls PyProof.Rows
section
variable {X : Nat → Obj} {L : Life} {kvs : List (Int × Value)} {w : World} {h h' : Heap} {s : Shared} {A : Around} {E : Value → Shared → Prop} {env : Env}
theorem h1_o184 (X L w) : (H1 X L w).get? 184 = some (o184_p14 w.params) := by kernel_rfl
theorem h1_c184 (X L w) : (H1 X L w).CodeRec (.ref 183) (Str.ofString "_law_ahead") := ⟨183, o183_p14 w.params, _, _, rfl, (by kernel_rfl), rfl, rfl⟩
theorem b_sum (X L w) : (H1 X L w).nsMap builtinsNs (Str.ofString "sum") = some (.builtin "sum") := by kernel_rfl
theorem m_sum (X L w) : (H1 X L w).nsMap mainGlobals (Str.ofString "sum") = none := by kernel_rfl
/-- the norm's counts of an instance -/
theorem WsAt.norm {Y : Addr → Prop} {x : Addr} {cnt : List Int} (W : WsAt h Y x cnt) : ∃ mA tp tc t vs, h.Inst x 154 mA ∧ mA (Str.ofString "norm") = some (.ref tp) ∧ IsTup h tp #[.ref tc, .int 0 t] ∧ IsTup h tc vs.toArray ∧ IntsAre vs cnt := by
  obtain ⟨dx, mA, n, tp, tc, t, vs, h1, h2, h3, h4, h5, h6, _⟩ := W
  exact ⟨mA, tp, tc, t, vs, h1.inst, h2, ⟨_, h4, rfl, _, rfl⟩, ⟨_, h5, rfl, _, rfl⟩, h6⟩
theorem swap_sub {a b : Expr} {pos : Pos} {t : Option Expr} {l : Nat} {env : Env} : swapsWith (.Subscript a b pos) t l env = pure false := by unfold swapsWith; rfl
theorem swap_call {a : Expr} {b c} {pos : Pos} {t : Option Expr} {l : Nat} {env : Env} : swapsWith (.Call a b c pos) t l env = pure false := by unfold swapsWith; rfl
theorem swap_bin {a b : Expr} {o} {pos : Pos} {t : Option Expr} {l : Nat} {env : Env} : swapsWith (.BinOp a o b pos) t l env = pure false := by unfold swapsWith; rfl
theorem swap_const {c k} {pos : Pos} {t : Option Expr} {l : Nat} {env : Env} : swapsWith (.Constant c k pos) t l env = pure false := by unfold swapsWith; rfl
theorem ab_const {c : Const} {k p n} {env : Env} {t : Sem Value} : attributeBase (.Constant c k p) n env t = t := by unfold attributeBase; rfl
theorem ab_name {x : Str} {p n} {env : Env} {t : Sem Value} : attributeBase (.Name x p) n env t = t := by unfold attributeBase; rfl
theorem ab_sub {a b : Expr} {p n} {env : Env} {t : Sem Value} : attributeBase (.Subscript a b p) n env t = t := by unfold attributeBase; rfl
theorem Subscript_go {prog : Program} {value slice : Expr} {pos : Pos} {Q : Value → Shared → Prop}
    (h : wpAny (model prog w) A (eval value env) (fun o s₁ => wpAny (model prog w) A (eval slice env) (fun i s₂ => ItemOn (model prog w) A E o i Q s₂ ∧ subscripted slice false o i = operate [o, i] (getItem o i)) E s₁) E s) :
    wpAny (model prog w) A (eval (.Subscript value slice pos) env) Q E s := by
  refine Subscript_ (wpAny_mono h (fun o s₁ h₁ => wpAny_mono h₁ (fun i s₂ h₂ => ?_) fun _ _ e => e) fun _ _ e => e)
  obtain ⟨⟨T, id, hl, hT, hg⟩, hs⟩ := h₂
  unfold subscriptTail
  refine wpAny_bind ?_
  rw [getitemInPython_of_ne hT.not_modules]
  refine wpAny_bind (wpAny_specialOf hT hl ?_)
  have fin : wpAny (model prog w) A (subscripted slice false o i) (fun r s₃ => wpAny (model prog w) A (letTemporaryGo value o r >>= fun _ => pure r) Q E s₃) E s₂ := by
    rw [hs]
    exact wpAny_operating (wpAny_mono hg (fun r s₃ h₃ => wpAny_bind (wpAny_letTemporaryGo (wpAny_pure h₃))) fun _ _ x => x)
  first
    | exact wpAny_pure (wpAny_bind fin)
    | exact wpAny_bind (wpAny_pure (wpAny_bind fin))
    | exact wpAny_bind fin
theorem ints_drop {vs : List Value} {ns : List Int} (h : IntsAre vs ns) : ∀ k, IntsAre (vs.drop k) (ns.drop k) := by
  induction h with
  | nil => intro k; simp; exact .nil
  | cons n t hr ih =>
    intro k
    cases k with
    | zero => exact .cons n t hr
    | succ k => exact ih k
theorem ints_take {vs : List Value} {ns : List Int} (h : IntsAre vs ns) : ∀ k, IntsAre (vs.take k) (ns.take k) := by
  induction h with
  | nil => intro k; simp; exact .nil
  | cons n t hr ih =>
    intro k
    cases k with
    | zero => exact .nil
    | succ k => exact .cons n t (ih k)
/-- x.norm[0] for an instance x -/
theorem norm0 {value : Expr} {apos cpos pos : Pos} {Q : Value → Shared → Prop} (B : Base X L kvs w s.heap)
    (he : eval (.Attribute value (Str.ofString "norm") apos) env = (do
      let o ← eval value env
      standAt apos.atName
      let r ← holding [o] (getAttr o (Str.ofString "norm") true)
      letTemporaryGo value o r
      pure r))
    (h : wpAny (model pw w) A (eval value env) (fun v s₁ => ∃ x mA tp tc t, v = .ref x ∧ s₁.heap = s.heap ∧ s₁.heap.Inst x 154 mA ∧ mA (Str.ofString "norm") = some (.ref tp) ∧ IsTup s₁.heap tp #[.ref tc, .int 0 t] ∧ ∀ tk, Q (.ref tc) { s₁ with toks := tk }) E s) :
    wpAny (model pw w) A (eval (.Subscript (.Attribute value (Str.ofString "norm") apos) (.Constant (.int 0) 0 cpos) pos) env) Q E s := by
  refine Subscript_go (Attribute_any_ (wpAny_mono h (fun v s₁ h₁ => ?_) fun _ _ e => e) he)
  obtain ⟨x, mA, tp, tc, t, rfl, hheap, I, q1, q2, hQ⟩ := h₁
  refine getattr_x (B.mono fun b o e => by rw [hheap]; exact e) I q1 (n_norm X L w) ob_norm rfl ?_
  refine wpAny_Constant_int ⟨⟨"tuple", _, slot_tuple_getitem.lookup, q2.typeIs, getItem_tuple q2 (by decide) (by decide) (j := 0) rfl (x := .ref tc) rfl ?_⟩, by with_unfolding_all rfl⟩
  exact hQ _
set_option maxHeartbeats 4000000 in
theorem ahead_ok {lh : Addr} {hs : List Addr} {cn : Nat → List Int} {n c row : Nat} {t tr : Tok} {Y : Addr → Prop} {Q : Value → Shared → Prop} (B : Base X L kvs w s.heap) (hA : A.depth < recursionLimit) (hh : A.handled = none)
    (hl : s.heap.IsList lh (hs.map Value.ref).toArray) (hlen : hs.length = n + 1) (hn : n ≤ 1000) (hw : ∀ j x, hs[j]? = some x → WsAt s.heap Y x (cn j)) (hc : Fis c) (hrow : row ≤ n) (hcl : ∀ j, j ≤ n → (cn j).length ≤ 1000)
    (hQ : ∀ h' tk t', (∀ b o, s.heap.get? b = some o → h'.get? b = some o) → Q (.int (((cn n).take (rk c)).sum + (((cn row).drop (rk c)).take 1).sum) t') { s with heap := h', toks := tk }) :
    wpAny (model pw w) A (PySem.call (.ref 184) [.ref lh, .str ⟨#[c]⟩ t, .int (row : Nat) tr]) Q E s := by
  refine fcall B hA (h1_o184 X L w) (h1_c184 X L w) rfl (binds := [(Str.ofString "heads", .ref lh), (Str.ofString "letter", .str ⟨#[c]⟩ t), (Str.ofString "row", .int (row : Nat) tr)]) rfl rfl rfl rfl rfl (by decide) fun h₁ F₁ => ?_
  have G₁ := Lf.of (D := fun _ => False) F₁
  have hD : ∀ b, False → (H1 X L w).get? b = none := fun b q => q.elim
  refine wpAny_execs_cons ?_
  with_reducible refine wpAny_Assign_Name ?_ swap_call
  with_reducible refine Call_method1 ab_const ?_ ?_ ?_
  · rfl
  · rfl
  refine wpAny_mkText ?_
  refine SB.index ?_
  refine lf G₁ rfl ?_
  refine ⟨_, _, rfl, _, _, fis_index hc, ?_⟩
  refine sf G₁ fun h₂ G₂ => ?_
  dsimp only
  have kp : ∀ {h' : Heap} {vs es}, Lf (fun _ => False) s.heap s.heap.objs.size h' vs es → ∀ b o, s.heap.get? b = some o → h'.get? b = some o := fun G b o e => G.keep b o (fun q => q) e
  have hsz : (hs.map Value.ref).toArray.size = n + 1 := by simp [hlen]
  obtain ⟨xn, hxn⟩ : ∃ xn, hs[n]? = some xn := ⟨hs[n]'(by omega), List.getElem?_eq_getElem _⟩
  obtain ⟨xr, hxr⟩ : ∃ xr, hs[row]? = some xr := ⟨hs[row]'(by omega), List.getElem?_eq_getElem _⟩
  obtain ⟨mN, tpN, tcN, tN, vsN, IN, qN1, qN2, qN3, qN4⟩ := (hw n xn hxn).norm
  obtain ⟨mR, tpR, tcR, tR, vsR, IR, qR1, qR2, qR3, qR4⟩ := (hw row xr hxr).norm
  have hl₂ : h₂.IsList lh (hs.map Value.ref).toArray := hl.at fun o e => kp G₂ _ o e
  with_reducible refine wpAny_execs_cons ?_
  with_reducible refine wpAny_Assign_Name ?_ swap_sub
  refine norm0 (G₂.base B hD) (by with_unfolding_all rfl) ?_
  refine (Subscript_UnaryOp (lf G₂ rfl (wpAny_UnaryOp (wpAny_Constant_int (PyProof.Rows.neg_int ?_)))))
  refine ⟨"list", _, slot_list_getitem.lookup, isList_typeIs hl₂, wpAny_getItem_list_neg hl₂ (by decide) (by rw [hsz]; omega) (by decide) (x := .ref xn) ?_ ?_⟩
  · rw [hsz]
    have : ((-1 : Int) + ((n + 1 : Nat) : Int)).toNat = n := by omega
    rw [this]
    simp [hxn]
  refine ⟨xn, mN, tpN, tcN, tN, rfl, rfl, IN.keeps (kp G₂), qN1, qN2.keeps (kp G₂), fun tk => ?_⟩
  refine sf G₂ fun h₃ G₃ => ?_
  dsimp only
  have hl₃ : h₃.IsList lh (hs.map Value.ref).toArray := hl.at fun o e => kp G₃ _ o e
  with_reducible refine wpAny_execs_cons ?_
  with_reducible refine wpAny_Assign_Name ?_ swap_sub
  refine norm0 (G₃.base B hD) (by with_unfolding_all rfl) ?_
  refine (Subscript_Name (lf G₃ rfl (lf G₃ rfl ?_)))
  refine ⟨"list", _, slot_list_getitem.lookup, isList_typeIs hl₃, wpAny_getItem_list hl₃ (by omega) (by omega) (x := .ref xr) (by simp [hxr]) ?_⟩
  refine ⟨xr, mR, tpR, tcR, tR, rfl, rfl, IR.keeps (kp G₃), qR1, qR2.keeps (kp G₃), fun tk => ?_⟩
  refine sf G₃ fun h₄ G₄ => ?_
  dsimp only
  have B₄ := G₄.base B hD
  have hlN : vsN.length ≤ 1000 := by rw [ints_len qN4]; exact hcl n (Nat.le_refl _)
  have hlR : vsR.length ≤ 1000 := by rw [ints_len qR4]; exact hcl row hrow
  with_reducible refine wpAny_execs_cons ?_
  with_reducible refine wpAny_Return_some ?_
  refine wpAny_BinOp (Call_Name1 (bname B₄ rfl rfl (m_sum X L w) (b_sum X L w) (callWith_builtin1 (wpAny_Subscript_Slice (T := "tuple") slot_tuple_getitem.lookup (lf G₄ rfl (wpAny_Slice ?_)))) rfl rfl))
  refine wpAny_pure (lf G₄ rfl (wpAny_pure ?_))
  have k₅ : ∀ {o : Obj} b o', h₄.get? b = some o' → (h₄.push o).get? b = some o' := fun b o e => Heap.get?_push_of_some _ e
  refine ⟨((qN3.keeps (kp G₄)).keeps k₅).typeIs, getItem_tuple_slice (lo := none) ((qN3.keeps (kp G₄)).keeps k₅) (Heap.IsSliceOf.new ..) (fun h₅ r₁ ht₁ k₆ => ?_) (by rw [sizeLine_eq]; omega)⟩
  have G₅ := (G₄.ext k₅).ext k₆
  have hv₁ : IntsAre ((vsN.drop (loNat none)).take (rk c - loNat none)) ((cn n).take (rk c)) := ints_take (ints_drop qN4 0) (rk c)
  refine sum_tuple hh ht₁ hv₁ fun h₆ tk₆ t₆ k₇ => ?_
  have G₆ := G₅.ext k₇
  have B₆ := G₆.base B hD
  refine Call_Name1 (bname B₆ rfl rfl (m_sum X L w) (b_sum X L w) (callWith_builtin1 (wpAny_Subscript_Slice (T := "tuple") slot_tuple_getitem.lookup (lf G₆ rfl (wpAny_Slice ?_)))) rfl rfl)
  refine lf G₆ rfl (wpAny_BinOp (lf G₆ rfl (wpAny_Constant_int (PyProof.Rows.add_int (wpAny_pure ?_)))))
  have k₈ : ∀ {o : Obj} b o', h₆.get? b = some o' → (h₆.push o).get? b = some o' := fun b o e => Heap.get?_push_of_some _ e
  refine ⟨((qR3.keeps (kp G₆)).keeps k₈).typeIs, getItem_tuple_slice (lo := some (rk c, _)) (b := rk c + 1) ((qR3.keeps (kp G₆)).keeps k₈) (Heap.IsSliceOf.new ..) (fun h₇ r₂ ht₂ k₉ => ?_) (by rw [sizeLine_eq]; omega)⟩
  have G₇ := (G₆.ext k₈).ext k₉
  have hv₂ : IntsAre ((vsR.drop (rk c)).take (rk c + 1 - rk c)) (((cn row).drop (rk c)).take 1) := by
    rw [show rk c + 1 - rk c = 1 by omega]
    exact ints_take (ints_drop qR4 _) _
  refine sum_tuple hh ht₂ hv₂ fun h₈ tk₈ t₈ k₁₀ => ?_
  have G₈ := G₇.ext k₁₀
  refine PyProof.Rows.add_int ?_
  exact hQ _ _ _ (kp G₈)
end
end Mine
end

-- part W22
section
set_option maxRecDepth 100000
set_option maxHeartbeats 1000000
namespace Mine
open PySem PySem.W PySem.Calls PyProof.Rows
/-- the heap without an object -/
def sans (h : Heap) (a : Addr) : Heap := h.update a fun o => { o with data := .freed }
theorem sans_self (h : Heap) (a : Addr) : (sans h a).get? a = none := by
  unfold sans
  obtain ⟨objs, life⟩ := h
  simp only [Heap.update, Heap.get?, Array.getElem?_modify, if_true]
  cases hq : objs[a]? <;> simp
theorem sans_other (h : Heap) {a b : Addr} (hb : b ≠ a) : (sans h a).get? b = h.get? b := Heap.get?_update_other _ _ (Ne.symm hb)
section
variable {X : Nat → Obj} {L : Life} {kvs : List (Int × Value)} {w : World} {h h' : Heap} {s : Shared} {A : Around} {E : Value → Shared → Prop}
theorem varint_stop {I l LL : Addr} {i : Nat} {items : Array Value} {env₀ : Env} {Q : Value → Shared → Prop} (B : Base X L kvs w s.heap) (hA : A.depth < recursionLimit) (hh : A.handled = none)
    (hfr : A.frames = some [env₀]) (hf₀ : env₀.frame = some LL) (hk₀ : env₀.scope.kind = .function) (hLL : ∃ o, s.heap.get? LL = some o ∧ ∀ vs, o.data ≠ .fields vs)
    (hit : s.heap.IsListIter I l i) (hl : s.heap.IsList l items) (hx : items[i]? = none) (hIL : I ≠ LL)
    (hE : ∀ base h' tk e a0, (∀ b o, b ≠ I → b ≠ LL → s.heap.get? b = some o → base.get? b = some o) → Heap.FlyingW base [env₀] e (.type "StopIteration") a0 h' →
      (∀ o, s.heap.get? LL = some o → (∀ vs, o.data ≠ .fields vs) → ∃ sl, h'.get? LL = some { o with slots := sl }) → E (.ref e) { s with heap := h', toks := tk }) :
    wpAny (model pw w) A (PySem.call (.ref 28) [.ref I]) Q E s := by
  refine wpAny_call (call_plain hA (B.keep _ _ (h1_o28 X L w)) rfl B.noLimit ((h1_c28 X L w).keeps B.keep) (binds := [(Str.ofString "iterator", .ref I)]) rfl (locs rfl) (fun h₁ F₁ => ?_) rfl rfl rfl (by decide))
  have B₁ := B.mono F₁.keep
  have hit₁ : h₁.IsListIter I l i := hit.at fun o e => F₁.keep _ _ e
  have hl₁ : h₁.IsList l items := hl.at fun o e => F₁.keep _ _ e
  have hIs : I < s.heap.objs.size := by obtain ⟨o, ho, _⟩ := hit; exact Heap.lt_size ho
  obtain ⟨oL, hoL, hnL⟩ := hLL
  have hLs : LL < s.heap.objs.size := Heap.lt_size hoL
  refine wpAny_execs_cons ?_
  with_reducible refine wpAny_Assign_Name ?_ swap_call
  refine Call_Name1 (bname B₁ rfl rfl (m_next X L w) (b_next X L w) (callWith_builtin1 (ld F₁ rfl ?_)) rfl rfl)
  refine next_end hh hit₁ hl₁ hx fun h₂ e t he hen k₂ => ?_
  dsimp only at hen ⊢
  have hbs : ∀ b o, ((sans (sans s.heap I) LL).get? b = some o) → b ≠ I ∧ b ≠ LL ∧ s.heap.get? b = some o := by
    intro b o hb
    by_cases h1 : b = LL
    · subst h1; rw [sans_self] at hb; cases hb
    rw [sans_other _ h1] at hb
    by_cases h2 : b = I
    · subst h2; rw [sans_self] at hb; cases hb
    rw [sans_other _ h2] at hb
    exact ⟨h2, h1, hb⟩
  have hstay : (sans (sans s.heap I) LL).StaysIn h₂ := fun b o hb => by
    obtain ⟨h1, h2, h3⟩ := hbs b o hb
    exact k₂ b o h1 (F₁.keep _ _ h3)
  have hnone : ∀ b, s.heap.get? b = none → (sans (sans s.heap I) LL).get? b = none := fun b hb => by
    cases q : (sans (sans s.heap I) LL).get? b with
    | none => rfl
    | some o => obtain ⟨_, _, h3⟩ := hbs b o q; rw [hb] at h3; cases h3
  have heb : (sans (sans s.heap I) LL).get? e = none := hnone e (by
    cases q : s.heap.get? e with
    | none => rfl
    | some o => rw [F₁.keep _ _ q] at hen; cases hen)
  obtain ⟨oN, es, ep, hoN, hdN, _⟩ := F₁.ns
  have hoN₂ : h₂.get? s.heap.objs.size = some oN := k₂ _ _ (Nat.ne_of_gt hIs) hoN
  have hoL₂ : h₂.get? LL = some oL := k₂ _ _ (Ne.symm hIL) (F₁.keep _ _ hoL)
  have hff : h₂.FunFrames (sans (sans s.heap I) LL) [envOf (Str.ofString "_parse_varint") (pDef 2).2.2 s.heap.objs.size 28 (.ref 27), env₀] :=
    ⟨by show ScopeKind.function ≠ .module; decide, ⟨s.heap.objs.size, oN, rfl, hnone _ (get_none_size (Nat.le_refl _)), hoN₂, fun vs q => by rw [hdN] at q; cases q⟩,
      by rw [hk₀]; decide, ⟨LL, oL, hf₀, sans_self _ _, hoL₂, hnL⟩, trivial⟩
  refine wpAny_leaving_firstW (Around.frames_deeper hfr) hff rfl he hstay heb rfl (by rfl) (by rfl) fun h₃ hL => ?_
  obtain ⟨k1, ⟨_, _, k2⟩, k3, k4⟩ := hL
  refine hE (sans (sans s.heap I) LL) h₃ _ e _ (fun b o h1 h2 h3 => by rw [sans_other _ h2, sans_other _ h1]; exact h3) ⟨k1, heb, k2, k3⟩ fun o ho hn => ?_
  exact k4 LL o (k₂ _ _ (Ne.symm hIL) (F₁.keep _ _ ho)) hn
end
end Mine
end

-- part S1
section
set_option maxRecDepth 100000
set_option maxHeartbeats 400000
namespace Mine
open PySem PySem.W PyProof.Rows
section
variable {n : Nat} {key : Nat → Int} {cmp : Nat → Nat → (Bool → Shared → Prop) → Shared → Prop} {s : Shared}
/-- the key of the item at a place -/
def Kp (key : Nat → Int) (p : Array Nat) (i : Nat) : Int := key (p.getD i 0)
def Srt (key : Nat → Int) (p : Array Nat) (m : Nat) : Prop := ∀ i j, i ≤ j → j < m → Kp key p i ≤ Kp key p j
/-- an arrangement of the first n numbers -/
structure Arr (n : Nat) (p : Array Nat) : Prop where
  perm : p.Perm (List.range n).toArray
theorem Arr.size {p : Array Nat} (h : Arr n p) : p.size = n := by have := h.perm.size_eq; simpa using this
theorem Arr.lt {p : Array Nat} (h : Arr n p) {i : Nat} (hi : i < n) : p.getD i 0 < n := by
  have hs : i < p.size := by rw [h.size]; exact hi
  have e : p.getD i 0 = p[i] := by simp [Array.getD, hs]
  rw [e]
  have : p[i] ∈ p.toList := by simp
  have h2 := (Array.perm_iff_toList_perm.mp h.perm).mem_iff.mp this
  simpa using h2
theorem Arr.inj {p : Array Nat} (h : Arr n p) {i j : Nat} (hi : i < n) (hj : j < n) (e : p.getD i 0 = p.getD j 0) : i = j := by
  have hs : i < p.size := by rw [h.size]; exact hi
  have ht : j < p.size := by rw [h.size]; exact hj
  have hnd : p.toList.Nodup := (Array.perm_iff_toList_perm.mp h.perm).nodup_iff.mpr (by simpa using List.nodup_range)
  have e1 : p.toList[i]? = p.toList[j]? := by
    have a1 : p.getD i 0 = p[i] := by simp [Array.getD, hs]
    have a2 : p.getD j 0 = p[j] := by simp [Array.getD, ht]
    rw [a1, a2] at e
    simp [hs, ht, e]
  exact (List.getElem?_inj (by simpa using hs) hnd).mp e1
theorem Kp_congr {p q : Array Nat} {i j : Nat} (h : p[i]? = q[j]?) : Kp key p i = Kp key q j := by
  unfold Kp
  rw [Array.getD_eq_getD_getElem?, Array.getD_eq_getD_getElem?, h]
variable (hinj : ∀ i j, i < n → j < n → key i = key j → i = j) (hcmp : ∀ i j C, i < n → j < n → C (decide (key i < key j)) s → cmp i j C s)
include hinj in
theorem Kp_ne {p : Array Nat} (h : Arr n p) {i j : Nat} (hi : i < n) (hj : j < n) (hne : i ≠ j) : Kp key p i ≠ Kp key p j := fun e =>
  hne (h.inj hi hj (hinj _ _ (h.lt hi) (h.lt hj) e))
include hcmp in
theorem asc_ok {p : Array Nat} (hp : Arr n p) {Q : Nat → Shared → Prop} : ∀ (f m : Nat), 1 ≤ m → m + f ≤ n → Srt key p m →
    (∀ m', m ≤ m' → m' ≤ m + f → Srt key p m' → (m' < m + f → Kp key p m' < Kp key p (m' - 1)) → Q m' s) → (kas_asc p f m).kasWp cmp Q s
  | 0, m, _, _, hs, hQ => hQ m (Nat.le_refl _) (Nat.le_refl _) hs fun h => absurd h (by omega)
  | f + 1, m, h1, hm, hs, hQ => by
    refine hcmp _ _ _ (hp.lt (by omega)) (hp.lt (by omega)) ?_
    by_cases hc : key (p.getD m 0) < key (p.getD (m - 1) 0)
    · rw [decide_eq_true hc]
      dsimp only
      rw [if_pos rfl]
      exact hQ m (Nat.le_refl _) (by omega) hs fun _ => hc
    · rw [decide_eq_false hc]
      dsimp only
      rw [if_neg (by decide)]
      have hc' : Kp key p (m - 1) ≤ Kp key p m := Int.not_lt.mp hc
      refine asc_ok hp f (m + 1) (by omega) (by omega) (fun i j hij hj => ?_) fun m' a b c d => hQ m' (by omega) (by omega) c fun h => d (by omega)
      rcases Nat.lt_or_ge j m with h | h
      · exact hs i j hij h
      · obtain rfl : j = m := by omega
        rcases Nat.lt_or_ge i j with h2 | h2
        · exact Int.le_trans (hs i (j - 1) (by omega) (by omega)) hc'
        · obtain rfl : i = j := by omega
          exact Int.le_refl _
/-- falling -/
def Fal (key : Nat → Int) (p : Array Nat) (m : Nat) : Prop := ∀ i j, i < j → j < m → Kp key p j < Kp key p i
include hinj hcmp in
theorem desc_ok {p : Array Nat} (hp : Arr n p) {Q : Array Nat × Nat × Nat → Shared → Prop} : ∀ (f m : Nat), 1 ≤ m → m + f ≤ n → Fal key p m →
    (∀ m', m ≤ m' → m' ≤ n → Fal key p m' → Q (p, m', 0) s) → (kas_desc f p m 0).kasWp cmp Q s
  | 0, m, _, hm, hs, hQ => hQ m (Nat.le_refl _) (by omega) hs
  | f + 1, m, h1, hm, hs, hQ => by
    refine hcmp _ _ _ (hp.lt (by omega)) (hp.lt (by omega)) ?_
    by_cases hc : key (p.getD m 0) < key (p.getD (m - 1) 0)
    · rw [decide_eq_true hc]
      dsimp only
      rw [if_pos rfl, if_neg (by decide)]
      refine desc_ok hp f (m + 1) (by omega) (by omega) (fun i j hij hj => ?_) fun m' a b c => hQ m' (by omega) b c
      rcases Nat.lt_or_ge j m with h | h
      · exact hs i j hij h
      · obtain rfl : j = m := by omega
        rcases Nat.lt_or_ge i (j - 1) with h2 | h2
        · exact Int.lt_trans hc (hs i (j - 1) h2 (by omega))
        · obtain rfl : i = j - 1 := by omega
          exact hc
    · rw [decide_eq_false hc]
      dsimp only
      rw [if_neg (by decide)]
      refine hcmp _ _ _ (hp.lt (by omega)) (hp.lt (by omega)) ?_
      have hne := Kp_ne hinj hp (i := m - 1) (j := m) (by omega) (by omega) (by omega)
      have hc' : key (p.getD (m - 1) 0) < key (p.getD m 0) := by
        have : Kp key p (m - 1) ≤ Kp key p m := Int.not_lt.mp hc
        show Kp key p (m - 1) < Kp key p m
        omega
      rw [decide_eq_true hc']
      dsimp only
      rw [if_pos rfl]
      exact hQ m (Nat.le_refl _) (by omega) hs
theorem rev_arr {p : Array Nat} (hp : Arr n p) (i j : Nat) : Arr n (kas_rev p i j) := ⟨(mirror_perm _ _ _ _).trans hp.perm⟩
theorem rev_srt {p : Array Nat} (hp : Arr n p) {m : Nat} (hm : m ≤ n) (h : Fal key p m) : Srt key (kas_rev p 0 m) m := by
  intro i j hij hj
  have hsz : m ≤ p.size := by rw [hp.size]; exact hm
  have e : ∀ k, k < m → Kp key (kas_rev p 0 m) k = Kp key p (m - 1 - k) := fun k hk => Kp_congr (by
    unfold kas_rev
    rw [getElem?_mirror_all hsz, if_pos ⟨by omega, hk⟩]
    congr 1; omega)
  rw [e i (by omega), e j hj]
  rcases Nat.lt_or_ge i j with h2 | h2
  · exact Int.le_of_lt (h _ _ (by omega) (by omega))
  · obtain rfl : i = j := by omega
    exact Int.le_refl _
theorem kw_bind {α β : Type} {f : α → KasT β} {Q : β → Shared → Prop} (t : KasT α) (h : t.kasWp cmp (fun a s' => (f a).kasWp cmp Q s') s) : (t.bind f).kasWp cmp Q s := by rw [KasT.kasWp_bind]; exact h
include hinj hcmp in
theorem count_ok {Q : Nat × Array Nat → Shared → Prop} (h2 : 1 ≤ n) (hQ : ∀ m p, 1 ≤ m → m ≤ n → Arr n p → Srt key p m → Q (m, p) s) : (kas_count n (List.toArray (List.range n))).kasWp cmp Q s := by
  have hp : Arr n (List.toArray (List.range n)) := ⟨Array.Perm.refl _⟩
  unfold kas_count
  refine kw_bind _ (asc_ok hcmp hp (n - 1) 1 (Nat.le_refl _) (by omega) (fun i j hij hj => by
    obtain rfl : i = j := by omega
    exact Int.le_refl _) fun m h1 hm hs hlt => ?_)
  by_cases hmn : m = n
  · subst hmn
    rw [if_pos (by simp)]
    exact hQ _ _ h1 (Nat.le_refl _) hp hs
  rw [if_neg (by simpa using hmn)]
  by_cases hm1 : m > 1
  · rw [if_pos hm1]
    refine hcmp _ _ _ (hp.lt (by omega)) (hp.lt (by omega)) ?_
    have hlt2 : key ((List.toArray (List.range n)).getD 0 0) < key ((List.toArray (List.range n)).getD (m - 1) 0) :=
      show Kp key _ 0 < Kp key _ (m - 1) from by
        have a := hs 0 (m - 1) (by omega) (by omega)
        have b := Kp_ne hinj hp (i := 0) (j := m - 1) (by omega) (by omega) (by omega)
        omega
    rw [decide_eq_true hlt2]
    dsimp only
    rw [if_pos rfl]
    exact hQ _ _ h1 (by omega) hp hs
  · rw [if_neg hm1]
    obtain rfl : m = 1 := by omega
    have hlt := hlt (by omega)
    unfold kas_descPart
    refine kw_bind _ (desc_ok hinj hcmp hp (n - 2) 2 (by omega) (by omega) (fun i j hij hj => ?_) fun m' h1' hm' hf => ?_)
    · obtain rfl : i = 0 := by omega
      obtain rfl : j = 1 := by omega
      exact hlt
    · dsimp only
      rw [if_neg (by omega)]
      unfold kas_tail3
      have hra := rev_arr hp 0 m'
      refine kw_bind _ (asc_ok hcmp hra (n - m') m' (by omega) (by omega) (rev_srt hp hm' hf) fun m'' a b c _ => ?_)
      exact hQ _ _ (by omega) (by omega) hra c
include hcmp in
theorem place_ok {p : Array Nat} (hp : Arr n p) {k : Nat} (hk : k < n) (hs : Srt key p k) {Q : Nat → Shared → Prop} : ∀ (f l r : Nat), l ≤ r → r ≤ k → r - l ≤ f → (∀ i, i < l → Kp key p i ≤ Kp key p k) → (∀ i, r ≤ i → i < k → Kp key p k < Kp key p i) →
    (∀ l', l' ≤ k → (∀ i, i < l' → Kp key p i ≤ Kp key p k) → (∀ i, l' ≤ i → i < k → Kp key p k < Kp key p i) → Q l' s) → (kas_place p k f l r).kasWp cmp Q s
  | 0, l, r, hlr, hrk, hf, ha, hb, hQ => by
    obtain rfl : l = r := by omega
    exact hQ l hrk ha hb
  | f + 1, l, r, hlr, hrk, hf, ha, hb, hQ => by
    unfold kas_place
    by_cases hl : l ≥ r
    · rw [if_pos hl]
      obtain rfl : l = r := by omega
      exact hQ l hrk ha hb
    rw [if_neg hl]
    refine hcmp _ _ _ (hp.lt hk) (hp.lt (by omega)) ?_
    by_cases hc : key (p.getD k 0) < key (p.getD ((l + r) / 2) 0)
    · rw [decide_eq_true hc]
      dsimp only
      rw [if_pos rfl]
      refine place_ok hp hk hs f l ((l + r) / 2) (by omega) (by omega) (by omega) ha (fun i h1 h2 => ?_) hQ
      exact Int.lt_of_lt_of_le hc (hs _ _ h1 h2)
    · rw [decide_eq_false hc]
      dsimp only
      rw [if_neg (by decide)]
      refine place_ok hp hk hs f ((l + r) / 2 + 1) r (by omega) hrk (by omega) (fun i h1 => ?_) hb hQ
      exact Int.le_trans (hs i ((l + r) / 2) (by omega) (by omega)) (Int.not_lt.mp hc)
include hcmp in
theorem bin_ok {Q : Array Nat → Shared → Prop} (hQ : ∀ p, Arr n p → Srt key p n → Q p s) : ∀ (f : Nat) (p : Array Nat) (k : Nat), Arr n p → k + f = n → Srt key p k → (kas_bin f p k).kasWp cmp Q s
  | 0, p, k, hp, hk, hs => by
    obtain rfl : k = n := by omega
    exact hQ p hp hs
  | f + 1, p, k, hp, hk, hs => by
    unfold kas_bin
    refine kw_bind _ (place_ok hcmp hp (by omega) hs k 0 k (Nat.zero_le _) (Nat.le_refl _) (by omega) (fun i h => absurd h (by omega)) (fun i h1 h2 => absurd h2 (by omega)) fun l hl ha hb => ?_)
    refine bin_ok hQ f _ (k + 1) ⟨(bubble_perm _ _ _).trans hp.perm⟩ (by omega) fun i j hij hj => ?_
    have hsz : k < p.size := by rw [hp.size]; omega
    have e0 : Kp key (bubble p k (k - l)) l = Kp key p k := Kp_congr (by rw [getElem?_bubble hsz _ (by omega), if_pos (by omega)])
    have e1 : ∀ t, t < l → Kp key (bubble p k (k - l)) t = Kp key p t := fun t ht => Kp_congr (by rw [getElem?_bubble hsz _ (by omega), if_neg (by omega), if_neg (by omega)])
    have e2 : ∀ t, l < t → t ≤ k → Kp key (bubble p k (k - l)) t = Kp key p (t - 1) := fun t h1 h2 => Kp_congr (by rw [getElem?_bubble hsz _ (by omega), if_neg (by omega), if_pos (by omega)])
    rcases Nat.lt_trichotomy i l with hi | hi | hi
    · rw [e1 i hi]
      rcases Nat.lt_trichotomy j l with hj' | hj' | hj'
      · rw [e1 j hj']; exact hs i j hij (by omega)
      · subst hj'; rw [e0]; exact ha i hi
      · rw [e2 j hj' (by omega)]; exact hs i (j - 1) (by omega) (by omega)
    · subst hi
      rw [e0]
      rcases Nat.lt_trichotomy j i with hj' | hj' | hj'
      · omega
      · subst hj'; rw [e0]; exact Int.le_refl _
      · rw [e2 j hj' (by omega)]; exact Int.le_of_lt (hb (j - 1) (by omega) (by omega))
    · rw [e2 i hi (by omega), e2 j (by omega) (by omega)]; exact hs _ _ (by omega) (by omega)
include hinj hcmp in
/-- the decisions of the sort, told by keys that all differ, end in order -/
theorem kas_sort_ok {Q : Array Nat → Shared → Prop} (h1 : 1 ≤ n) (hQ : ∀ p, Arr n p → Srt key p n → Q p s) : (kas_sort n).kasWp cmp Q s := by
  unfold kas_sort
  refine kw_bind _ (count_ok hinj hcmp h1 fun m p hm hmn hp hs => ?_)
  dsimp only
  by_cases h : m < n
  · rw [if_pos h, Nat.max_eq_left hm]
    exact bin_ok hcmp hQ _ p m hp (by omega) hs
  · rw [if_neg h]
    obtain rfl : m = n := by omega
    exact hQ p hp hs
end
end Mine
end

-- part S2
section
set_option maxRecDepth 100000
set_option maxHeartbeats 1000000
namespace Mine
open PySem PySem.W PySem.Calls PyProof.Rows
/-- the row of a turn: its number, its place -/
def rowObj (k : Int) (t : Tok) (p : Nat) (u : Tok) : Obj := { cls := .type "tuple", data := .seq #[.int k t, .int (p : Nat) u] }
inductive RowsAre (h : Heap) : List Value → List (Int × Nat) → Prop
  | nil : RowsAre h [] []
  | cons {a : Addr} {k : Int} {p : Nat} {t u : Tok} {vs : List Value} {r : List (Int × Nat)} : h.get? a = some (rowObj k t p u) → RowsAre h vs r → RowsAre h (.ref a :: vs) ((k, p) :: r)
theorem RowsAre.keeps {h h' : Heap} {vs : List Value} {r : List (Int × Nat)} (R : RowsAre h vs r) (k : ∀ b o, (∃ x t p u, o = rowObj x t p u) → h.get? b = some o → h'.get? b = some o) : RowsAre h' vs r := by
  induction R with
  | nil => exact .nil
  | cons e _ ih => exact .cons (k _ _ ⟨_, _, _, _, rfl⟩ e) ih
theorem RowsAre.length {h : Heap} {vs : List Value} {r : List (Int × Nat)} (R : RowsAre h vs r) : vs.length = r.length := by
  induction R with
  | nil => rfl
  | cons _ _ ih => simp [ih]
theorem RowsAre.at {h : Heap} {vs : List Value} {r : List (Int × Nat)} (R : RowsAre h vs r) : ∀ (i : Nat) (x : Int × Nat), r[i]? = some x → ∃ a t u, vs[i]? = some (.ref a) ∧ h.get? a = some (rowObj x.1 t x.2 u) := by
  induction R with
  | nil => intro i x h; simp at h
  | @cons a k p t u vs r e _ ih =>
    intro i x h
    cases i with
    | zero => simp at h; subst h; exact ⟨a, t, u, rfl, e⟩
    | succ i => exact ih i x (by simpa using h)
theorem RowsAre.of {h : Heap} : ∀ {vs : List Value} {r : List (Int × Nat)}, vs.length = r.length → (∀ (i : Nat) (x : Int × Nat), r[i]? = some x → ∃ a t u, vs[i]? = some (.ref a) ∧ h.get? a = some (rowObj x.1 t x.2 u)) → RowsAre h vs r
  | [], [], _, _ => .nil
  | [], _ :: _, h, _ => by simp at h
  | _ :: _, [], h, _ => by simp at h
  | v :: vs, (k, p) :: r, hl, h => by
    obtain ⟨a, t, u, e1, e2⟩ := h 0 (k, p) rfl
    simp at e1
    subst e1
    exact .cons e2 (RowsAre.of (by simpa using hl) fun i x hx => by
      obtain ⟨a, t, u, e1, e2⟩ := h (i + 1) x (by simpa using hx)
      exact ⟨a, t, u, by simpa using e1, e2⟩)
theorem RowsAre.tups {h : Heap} {vs : List Value} {r : List (Int × Nat)} (R : RowsAre h vs r) : ∃ fs, KatTups h vs fs ∧ fs.length = r.length ∧ ∀ v ∈ fs, ∃ k t, v = Value.int k t := by
  induction R with
  | nil => exact ⟨[], .nil, rfl, by simp⟩
  | @cons a k p t u vs r e _ ih =>
    obtain ⟨fs, h1, h2, h3⟩ := ih
    exact ⟨.int k t :: fs, .cons e rfl rfl rfl h1, by simp [h2], by
      intro v hv
      rcases List.mem_cons.mp hv with rfl | hv
      · exact ⟨k, t, rfl⟩
      · exact h3 v hv⟩
def codeOf (x : Int × Nat) : Int := x.1 * 64 + x.2
theorem code_lt {a b : Int} {x y : Nat} (hx : x < 64) (hy : y < 64) : (a * 64 + x < b * 64 + y) ↔ a < b ∨ (a = b ∧ x < y) := by omega
section
variable {prog : Program} {w : World} {A : Around} {E : Value → Shared → Prop} {s : Shared}
theorem row_lt {x y : Addr} {a b : Int} {p q : Nat} {t u v z : Tok} {C : Bool → Shared → Prop} (hx : s.heap.get? x = some (rowObj a t p u)) (hy : s.heap.get? y = some (rowObj b v q z)) (hp : p < 64) (hq : q < 64)
    (h : C (decide (codeOf (a, p) < codeOf (b, q))) s) : wpAny (model prog w) A (keyLt' (tuples' true) (.ref x) (.ref y)) C (fun _ _ => False) s := by
  have hc := code_lt (a := a) (b := b) hp hq
  refine kat_lt hx rfl hy rfl (kat_cons (wpAny_eqBool_int ?_))
  by_cases e : a = b
  · rw [beq_iff_eq.mpr e]
    refine kat_yes (kat_cons (wpAny_eqBool_int ?_))
    by_cases e2 : p = q
    · rw [beq_iff_eq.mpr (by rw [e2])]
      refine kat_yes (kat_nil ?_)
      have : decide (codeOf (a, p) < codeOf (b, q)) = false := decide_eq_false (by unfold codeOf; dsimp only; rw [hc]; omega)
      rw [this] at h
      exact h
    · rw [beq_eq_false_iff_ne.mpr (by omega)]
      refine kat_no (kat_one _ _ (PyProof.Rows.lt_int ?_))
      have : decide (codeOf (a, p) < codeOf (b, q)) = decide ((p : Int) < q) := by
        unfold codeOf; dsimp only
        rw [Bool.eq_iff_iff, decide_eq_true_eq, decide_eq_true_eq, hc]; omega
      rw [this] at h
      exact h
  · rw [beq_eq_false_iff_ne.mpr e]
    refine kat_no (oneLt_int ?_)
    have : decide (codeOf (a, p) < codeOf (b, q)) = decide (a < b) := by
      unfold codeOf; dsimp only
      rw [Bool.eq_iff_iff, decide_eq_true_eq, decide_eq_true_eq, hc]; omega
    rw [this] at h
    exact h
theorem sort_rows {a : Addr} {g : Heap} {vs : List Value} {rs : List (Int × Nat)} {Q : Value → Shared → Prop} (hl : s.heap.PlainList a vs.toArray) (Rg : RowsAre g vs rs) (kg : ∀ b o, g.get? b = some o → s.heap.get? b = some o) (hn : rs.length < 64) (hpl : ∀ r ∈ rs, r.2 < 64) (hnd : (rs.map codeOf).Nodup)
    (hQ : ∀ h' vs' rs', h'.PlainList a vs'.toArray → RowsAre g vs' rs' → rs'.Perm rs → rs'.Pairwise (fun x y => codeOf x ≤ codeOf y) → (∀ b o, b ≠ a → s.heap.get? b = some o → h'.get? b = some o) → Q .none { s with heap := h' }) :
    wpAny (model prog w) A (PySem.call (.builtin "list.sort") [.ref a]) Q E s := by
  have R : RowsAre s.heap vs rs := Rg.keeps fun b o _ e => kg b o e
  obtain ⟨n, ho⟩ := hl
  have hlen := R.length
  refine wpAny_call_entry slot_list_sort ⟨_, ho, rfl⟩ entry_list_sort ?_ (args_list_sort _)
  have ha : a < s.heap.objs.size := Heap.lt_size ho
  rw [list_sort_plain]
  refine wpAny_bind (listItems_at ho rfl ?_)
  refine wpAny_bind (listUpdate_at ho rfl ?_ (by rw [List.size_toArray, sizeLine_eq]; omega) (Nat.zero_le _))
  obtain ⟨e1, ho1⟩ : ∃ e1, (s.heap.update a (Obj.mapSeq fun _ => (#[] : Array Value))).get? a = some (seqObj "list" #[] e1) := ⟨_, get?_update_seq ho fun _ => #[]⟩
  refine wpAny_bind (seqEpoch_at ho1 rfl ?_)
  refine wpAny_bind (wpAny_newTuple ?_ (by show vs.length ≤ _; rw [sizeLine_eq]; omega))
  refine wpAny_bind (wpAny_newList ?_ (Nat.zero_le _))
  refine wpAny_holding ?_
  have kk : ∀ b o, b ≠ a → s.heap.get? b = some o → (((s.heap.update a (Obj.mapSeq fun _ => (#[] : Array Value))).push (seqObj "tuple" vs.toArray 0)).push (seqObj "list" #[] 0)).get? b = some o := fun b o hb e =>
    Heap.get?_push_of_some _ (Heap.get?_push_of_some _ ((Heap.get?_update_other _ _ (Ne.symm hb)).trans e))
  have ho6 : (((s.heap.update a (Obj.mapSeq fun _ => (#[] : Array Value))).push (seqObj "tuple" vs.toArray 0)).push (seqObj "list" #[] 0)).get? a = some (seqObj "list" #[] e1) :=
    Heap.get?_push_of_some _ (Heap.get?_push_of_some _ ho1)
  show wpAny (model prog w) A.in1 _ _ E { s with heap := ((s.heap.update a (Obj.mapSeq fun _ => (#[] : Array Value))).push (seqObj "tuple" vs.toArray 0)).push (seqObj "list" #[] 0) }
  generalize ((s.heap.update a (Obj.mapSeq fun _ => (#[] : Array Value))).push (seqObj "tuple" vs.toArray 0)).push (seqObj "list" #[] 0) = h₁ at kk ho6
  have hne : ∀ b o, (∃ x t p u, o = rowObj x t p u) → s.heap.get? b = some o → b ≠ a := by
    rintro b o ⟨x, t, p, u, rfl⟩ e q
    rw [q, ho] at e
    have := congrArg Obj.cls (Option.some.inj e)
    simp [rowObj] at this
  have R₁ : RowsAre h₁ vs rs := R.keeps fun b o hr e => kk b o (hne b o hr e) e
  dsimp only
  -- the list written anew
  have fin : ∀ (vs' : List Value) (rs' : List (Int × Nat)), vs'.length ≤ 64 → RowsAre g vs' rs' → rs'.Perm rs → rs'.Pairwise (fun x y => codeOf x ≤ codeOf y) →
      Q .none { s with heap := h₁.update a (Obj.mapSeq fun _ => vs'.toArray) } := by
    intro vs' rs' _ R' hp hs
    have hs2 := Heap.SameBut.update h₁ a (Obj.mapSeq fun _ => vs'.toArray)
    exact hQ _ vs' rs' ⟨_, get?_update_seq ho6 fun _ => vs'.toArray⟩ R' hp hs fun b o hb e => (hs2.2 b hb).trans (kk b o hb e)
  by_cases h2 : vs.toArray.size < 2
  · rw [if_pos h2, if_pos h2]
    refine wpAny_bind (wpAny_pure ?_)
    rw [StateT.run_pure]
    refine wpAny_bind (wpAny_pure ?_)
    dsimp only
    refine wpAny_bind (seqEpoch_at ho6 rfl ?_)
    have earr : (arrOf (SortSt.mk' general' (vs.toArray.zip vs.toArray) #[] 7 none)).map (·.2) = vs.toArray := by
      show (vs.toArray.zip vs.toArray).map (·.2) = vs.toArray
      apply Array.toList_inj.mp
      rw [Array.toList_map, Array.toList_zip, List.map_snd_zip] <;> simp
    rw [earr]
    refine wpAny_bind (listUpdate_at ho6 rfl ?_ (Nat.zero_le _) (by rw [List.size_toArray, sizeLine_eq]; omega))
    simp only [bne_self_eq_false, Bool.false_eq_true, if_false]
    refine wpAny_pure ⟨_, rfl, fin vs rs (by omega) Rg (.refl _) ?_⟩
    have h3 : rs.length < 2 := by rw [← hlen]; simpa using h2
    match rs, h3 with
    | [], _ => exact .nil
    | [x], _ => exact List.pairwise_singleton _ _
  · rw [if_neg h2, if_neg h2]
    have h2' : 2 ≤ vs.length := by simpa using h2
    obtain ⟨fs, ht, hfl, hfi⟩ := R₁.tups
    refine wpAny_bind (kat_kind (T := .type "int") ht (by omega) (fun v hv => ?_) (by simp) ?_)
    · obtain ⟨k, t, rfl⟩ := hfi v hv
      exact fun A Q E s _ q => wpAny_typeOf (typeIs_int s k t) q
    have eb : ((Value.type "int") != Value.type "tuple") = true := by decide
    rw [eb]
    refine wpAny_bind (wpAny_mono (kat_run (vs := vs) (ks := vs) (G := fun p s' => s' = { s with heap := h₁ } ∧ Arr vs.length p ∧ Srt (fun i => codeOf (rs.getD i (0, 0))) p vs.length)
      (Q := fun st' s' => ∃ p : Array Nat, p.size = vs.length ∧ arrOf st' = p.map (kas_item (vs.toArray.zip vs.toArray)) ∧ failedOf st' = none ∧ s' = { s with heap := h₁ } ∧ Arr vs.length p ∧ Srt (fun i => codeOf (rs.getD i (0, 0))) p vs.length)
      rfl h2' (by omega) (fun p' st' s' a1 a2 a3 a4 => ⟨p', a1, a2, a3, a4⟩) ?_) ?_ fun _ _ e => e)
    · refine kas_sort_ok (key := fun i => codeOf (rs.getD i (0, 0))) ?_ ?_ (by omega) fun p hp hs => ⟨rfl, hp, hs⟩
      · intro i j hi hj e
        have hi' : i < rs.length := by omega
        have hj' : j < rs.length := by omega
        rw [List.getD_eq_getElem?_getD, List.getD_eq_getElem?_getD, List.getElem?_eq_getElem hi', List.getElem?_eq_getElem hj', Option.getD_some, Option.getD_some] at e
        refine (List.getElem?_inj (by rw [List.length_map]; exact hi') hnd).mp ?_
        rw [List.getElem?_map, List.getElem?_map, List.getElem?_eq_getElem hi', List.getElem?_eq_getElem hj', Option.map_some, Option.map_some, e]
      · intro i j C hi hj hC
        have hi' : i < rs.length := by omega
        have hj' : j < rs.length := by omega
        obtain ⟨x, t, u, b1, b2⟩ := R₁.at i _ (List.getElem?_eq_getElem hi')
        obtain ⟨y, v, z, c1, c2⟩ := R₁.at j _ (List.getElem?_eq_getElem hj')
        unfold kas_ask
        rw [List.getD_eq_getElem?_getD, List.getD_eq_getElem?_getD, b1, c1, Option.getD_some, Option.getD_some]
        refine row_lt b2 c2 (hpl _ (List.getElem_mem hi')) (hpl _ (List.getElem_mem hj')) ?_
        rw [List.getD_eq_getElem?_getD, List.getD_eq_getElem?_getD, List.getElem?_eq_getElem hi', List.getElem?_eq_getElem hj', Option.getD_some, Option.getD_some] at hC
        exact hC
    rintro ⟨⟨⟩, st'⟩ s' ⟨p, hp, har, hf, rfl, hpa, hsrt⟩
    dsimp only
    have hout := kat_snds rfl har
    rw [hout]
    refine wpAny_bind (seqEpoch_at ho6 rfl ?_)
    have hsz : (List.toArray (p.toList.map fun i => vs.getD i Value.none)).size = vs.length := by rw [List.size_toArray, List.length_map, Array.length_toList, hp]
    refine wpAny_bind (listUpdate_at ho6 rfl ?_ (Nat.zero_le _) (Nat.le_trans (Nat.le_of_eq hsz) (by rw [sizeLine_eq]; omega)))
    rw [hf]
    simp only [bne_self_eq_false, Bool.false_eq_true, if_false]
    refine wpAny_pure ⟨_, rfl, fin (p.toList.map fun i => vs.getD i Value.none) (p.toList.map fun i => rs.getD i (0, 0)) (by rw [List.length_map, Array.length_toList, hp]; omega) ?_ ?_ ?_⟩
    · refine RowsAre.of (by simp) fun i x hx => ?_
      rw [List.getElem?_map, Option.map_eq_some_iff] at hx
      obtain ⟨k, hk, rfl⟩ := hx
      have hkn : k < rs.length := by
        have hm : k ∈ p.toList := List.mem_of_getElem? hk
        have := (Array.perm_iff_toList_perm.mp hpa.perm).mem_iff.mp hm
        rw [← hlen]
        simpa using this
      obtain ⟨x, t, u, b1, b2⟩ := Rg.at k _ (List.getElem?_eq_getElem hkn)
      have e0 : rs.getD k (0, 0) = rs[k] := by rw [List.getD_eq_getElem?_getD, List.getElem?_eq_getElem hkn]; rfl
      refine ⟨x, t, u, ?_, ?_⟩
      · rw [List.getElem?_map, hk, Option.map_some, List.getD_eq_getElem?_getD, b1]; rfl
      · rw [e0]; exact b2
    · have h1 := (Array.perm_iff_toList_perm.mp hpa.perm).map fun i => rs.getD i (0, 0)
      refine h1.trans (.of_eq ?_)
      apply List.ext_getElem?
      intro i
      rw [List.getElem?_map, hlen]
      by_cases hi : i < rs.length
      · rw [List.getElem?_eq_getElem hi]
        simp [hi]
      · rw [List.getElem?_eq_none (l := rs) (by omega)]
        simp [hi]
    · rw [List.pairwise_iff_getElem]
      intro i j hi hj hij
      have hi' : i < p.size := by simpa using hi
      have hj' : j < p.size := by simpa using hj
      have := hsrt i j (by omega) (by omega)
      unfold Kp at this
      simp only [List.getElem_map, Array.getElem_toList]
      have e1 : p.getD i 0 = p[i] := by simp [Array.getD, hi']
      have e2 : p.getD j 0 = p[j] := by simp [Array.getD, hj']
      rw [e1, e2] at this
      exact this
end
end Mine
end

-- part V0
section
set_option maxRecDepth 100000
set_option maxHeartbeats 400000
namespace Mine
open PySem PySem.W PySem.Calls PyProof.Rows
section
variable {prog : Program} {w : World} {A : Around} {E : Value → Shared → Prop} {s : Shared} {env : Env}
theorem comp_tests {R : Result → Shared → Prop} {elt target iter : Expr} {ifs : List Expr} {scope : Scope} {pos : Pos} {it acc : Value} {env : Env} (I : Nat → Shared → Prop)
    (turn : ∀ n s, I n s → wpAny (model prog w) A (pyNext it) (fun r s₁ => match r with
      | none => R (.ok .next) s₁
      | some v => wpAny (model prog w) A (letOwnedTupleGo target it v) (fun _ s₁' => wpAny (model prog w) A (assign target env v) (fun _ s₂ =>
          wpAny (model prog w) A (testsOf ifs env) (fun ok s₃ =>
            if ok = true then wpAny (model prog w) A (eval elt env) (fun x s₄ =>
              wpAny (model prog w) A (PySem.call (.builtin "list.append") [acc, x]) (fun _ s₅ => ∃ m, m < n ∧ I m s₅) (notedBy (model prog w) A env fun e s' => R (.error e) s') s₄) (notedBy (model prog w) A env fun e s' => R (.error e) s') s₃
            else ∃ m, m < n ∧ I m s₃) (notedBy (model prog w) A env fun e s' => R (.error e) s') s₂) (notedBy (model prog w) A env fun e s' => R (.error e) s') s₁') (notedBy (model prog w) A env fun e s' => R (.error e) s') s₁) (notedBy (model prog w) A env fun e s' => R (.error e) s') s)
    (n : Nat) (h : I n s) :
    codeAny (model prog w) A (.compLoop (.ListComp elt [⟨target, iter, ifs, 0⟩] scope pos) 0 it acc env) R s := by
  refine codeAny_loop rfl I (fun n s hI => ?_) n h
  show wpAny _ A ((compTurn (.ListComp elt [⟨target, iter, ifs, 0⟩] scope pos) 0 it acc env).onRaise (fun x => do noteFrame x env; theTreesLotGoes x)) _ _ s
  refine wpAny_noted ?_
  rw [compTurn_list]
  refine wpAny_bind (wpAny_standAt (wpAny_bind (wpAny_mono (turn n s hI) (fun r s₁ h₁ => ?_) fun _ _ h' => h')))
  cases r with
  | none => exact wpAny_pure h₁
  | some v =>
    refine wpAny_bind (wpAny_mono h₁ (fun _ s₁' h₁' => ?_) fun _ _ h' => h')
    refine wpAny_bind (wpAny_mono h₁' (fun _ s₂ h₂ => wpAny_bind (wpAny_mono h₂ (fun ok s₃ h₃ => ?_) fun _ _ h' => h')) fun _ _ h' => h')
    cases ok with
    | false => exact wpAny_pure ⟨rfl, h₃⟩
    | true =>
      exact wpAny_bind (wpAny_bind (wpAny_mono h₃ (fun x s₄ h₄ => wpAny_bind (wpAny_mono h₄ (fun _ s₅ h₅ => wpAny_pure (wpAny_pure ⟨rfl, h₅⟩)) fun _ _ h' => h')) fun _ _ h' => h'))
theorem comp_walk {R : Result → Shared → Prop} {elt target iter : Expr} {ifs : List Expr} {scope : Scope} {pos : Pos} {I D : Addr} {cenv : Env} {fp wr : List Addr} {n : Nat} {P : Nat → Value → Prop} {St : Nat → Heap → Prop}
    (W : Walks prog w A I fp wr n P St) (Inv : Nat → List Value → Shared → Prop) (hn : n ≤ sizeLine)
    (hit : ∀ i ys s, Inv i ys s → St i s.heap) (h0 : Inv 0 [] s)
    (step : ∀ i ys s v h' tk (E' : Value → Shared → Prop), i < n → ys.length ≤ i → Inv i ys s → P i v → St (i + 1) h' → (∀ b o, b ∉ wr → s.heap.get? b = some o → h'.get? b = some o) →
      wpAny (model prog w) A (assign target cenv v) (fun _ s₂ => wpAny (model prog w) A (testsOf ifs cenv) (fun ok s₃ =>
        if ok = true then wpAny (model prog w) A (eval elt cenv) (fun y s₄ => s₄.heap.PlainList D ys.toArray ∧ ∀ h₅, h₅.PlainList D (ys ++ [y]).toArray → Heap.SameBut D s₄.heap h₅ → Inv (i + 1) (ys ++ [y]) { s₄ with heap := h₅ }) E' s₃
        else Inv (i + 1) ys s₃) E' s₂) E' { s with heap := h', toks := tk })
    (fin : ∀ ys s h' tk, ys.length ≤ n → Inv n ys s → (∀ b o, b ∉ wr → s.heap.get? b = some o → h'.get? b = some o) → R (.ok .next) { s with heap := h', toks := tk })
    (hown : ∀ i v (s' : Shared) (Q : Unit → Shared → Prop) (E' : Value → Shared → Prop), i < n → P i v → St (i + 1) s'.heap → Q () s' → wpAny (model prog w) A (letOwnedTupleGo target (.ref I) v) Q E' s') :
    codeAny (model prog w) A (.compLoop (.ListComp elt [⟨target, iter, ifs, 0⟩] scope pos) 0 (.ref I) (.ref D) cenv) R s := by
  refine comp_tests (fun k s' => ∃ i ys, k = n + 1 - i ∧ i ≤ n ∧ ys.length ≤ i ∧ Inv i ys s') ?_ (n + 1) ⟨0, [], rfl, Nat.zero_le _, Nat.le_refl _, h0⟩
  rintro k s' ⟨i, ys, rfl, hi, hy, hI⟩
  by_cases hlt : i < n
  · refine W.item i s' _ _ hlt (hit _ _ _ hI) fun v h' tk hP hS' hk => ?_
    refine hown i v _ _ _ hlt hP hS' ?_
    refine wpAny_mono (step i ys s' v h' tk _ hlt hy hI hP hS' hk) (fun _ s₂ h₂ => wpAny_mono h₂ (fun ok s₃ h₃ => ?_) fun _ _ e => e) fun _ _ e => e
    cases ok with
    | false =>
      simp only [Bool.false_eq_true, if_false] at h₃ ⊢
      exact ⟨n + 1 - (i + 1), by omega, i + 1, ys, rfl, hlt, by omega, h₃⟩
    | true =>
      simp only [if_true] at h₃ ⊢
      refine wpAny_mono h₃ (fun y s₄ h₄ => ?_) fun _ _ e => e
      obtain ⟨a, b⟩ := h₄
      refine wpAny_list_append_plain (hsz := by simp; omega) a fun h₅ hl₅ hs₅ => ?_
      refine ⟨n + 1 - (i + 1), by omega, i + 1, ys ++ [y], rfl, hlt, by simp; omega, b h₅ ?_ hs₅⟩
      simpa using hl₅
  · obtain rfl : i = n := by omega
    refine W.done s' _ _ (hit _ _ _ hI) fun h' tk hk => ?_
    exact fin ys s' h' tk hy hI hk
/-- all that a list comprehension over `it` asks, from the state behind pyIter on; D: its list, C: its block's names -/
def CompAsk (prog : Program) (w : World) (A : Around) (env : Env) (scope : Scope) (cl : List (Str × Addr)) (target : Expr) (ifs : List Expr) (elt : Expr) (it : Value) (s₂ : Shared) (K : Addr → Addr → List Value → Shared → Prop) : Prop :=
  ∃ (I : Addr) (fp wr : List Addr) (n : Nat) (P : Nat → Value → Prop) (St : Nat → Heap → Prop) (Inv : Addr → Addr → Nat → List Value → Shared → Prop), it = .ref I ∧ Walks prog w A I fp wr n P St ∧ n ≤ sizeLine ∧
    (∀ i v (s' : Shared) (Q : Unit → Shared → Prop) (E' : Value → Shared → Prop), i < n → P i v → St (i + 1) s'.heap → Q () s' → wpAny (model prog w) A (letOwnedTupleGo target (.ref I) v) Q E' s') ∧
    (∀ D C i ys s, Inv D C i ys s → St i s.heap) ∧
    (∀ D C h₁ m tk, D ≠ C → s₂.heap.get? D = none → s₂.heap.get? C = none → (∀ b o, s₂.heap.get? b = some o → h₁.get? b = some o) → h₁.PlainList D #[] → h₁.Ns C m → Inv D C 0 [] { s₂ with heap := h₁, toks := tk }) ∧
    (∀ D C i ys s v h' tk (E' : Value → Shared → Prop), i < n → ys.length ≤ i → Inv D C i ys s → P i v → St (i + 1) h' → (∀ b o, b ∉ wr → s.heap.get? b = some o → h'.get? b = some o) →
      wpAny (model prog w) A (assign target (compEnvC scope cl C env) v) (fun _ s₂' => wpAny (model prog w) A (testsOf ifs (compEnvC scope cl C env)) (fun ok s₃ =>
        if ok = true then wpAny (model prog w) A (eval elt (compEnvC scope cl C env)) (fun y s₄ => s₄.heap.PlainList D ys.toArray ∧ ∀ h₅, h₅.PlainList D (ys ++ [y]).toArray → Heap.SameBut D s₄.heap h₅ → Inv D C (i + 1) (ys ++ [y]) { s₄ with heap := h₅ }) E' s₃
        else Inv D C (i + 1) ys s₃) E' s₂') E' { s with heap := h', toks := tk }) ∧
    (∀ D C ys s h' tk, ys.length ≤ n → Inv D C n ys s → (∀ b o, b ∉ wr → s.heap.get? b = some o → h'.get? b = some o) → K D C ys { s with heap := h', toks := tk })
theorem comp_askblock {elt target iter : Expr} {ifs : List Expr} {scope : Scope} {cl : List (Str × Addr)} {pos : Pos} {s₂ : Shared} {it : Value} {RR : Value → Addr → Result → Shared → Prop}
    (hcell : ∀ y ∈ scope.names, y.2 ≠ .cell) (hkind : scope.kind = .function)
    (h : CompAsk prog w A env scope cl target ifs elt it s₂ fun D C _ s' => RR (.ref D) C (.ok .next) s') :
    wpAny (model prog w) A (newList []) (fun acc s₃ => wpAny (model prog w) A (newFunctionEnv scope env.globals cl [] env.qual none .none (some env)) (fun cenv s₄ =>
      codeAny (model prog w) A (.compStart (.ListComp elt [⟨target, iter, ifs, 0⟩] scope pos) 0 it acc { cenv with scope := relabel scope env }) (RR acc cenv.locals) s₄) E s₃) E s₂ := by
  obtain ⟨I, fp, wr, n, P, St, Inv, rfl, W, hsz, hown, hit, h0, hstep, hfin⟩ := h
  refine wpAny_newObj_type (wpAny_newFunctionEnv hcell (by intro y hy; simp at hy) (fun h₁ hns₁ hsb₁ => ?_) hkind)
  dsimp only at hns₁ hsb₁ ⊢
  have hC : (s₂.heap.push { cls := .type "list", dict := none, data := .seq ([] : List Value).toArray }).objs.size = s₂.heap.objs.size + 1 := Heap.size_push ..
  rw [hC] at hns₁ hsb₁ ⊢
  have old : ∀ b o, s₂.heap.get? b = some o → h₁.get? b = some o := fun b o e => hsb₁.extBut b o (Nat.ne_of_lt (Nat.lt_succ_of_lt (Heap.lt_size e))) (Heap.get?_push_of_some _ (Heap.get?_push_of_some _ e))
  have hacc : h₁.PlainList s₂.heap.objs.size #[] := ⟨_, hsb₁.extBut _ _ (Nat.ne_of_lt (Nat.lt_succ_self _)) (Heap.get?_push_of_some _ (Heap.get?_push_size _ rfl))⟩
  have hI0 := h0 s₂.heap.objs.size (s₂.heap.objs.size + 1) h₁ _ (s₂.toks + ([] : List (Str × Value)).length) (Nat.ne_of_lt (Nat.lt_succ_self _)) (get_none_size (Nat.le_refl _)) (get_none_size (Nat.le_succ _)) old hacc hns₁
  have loop : ∀ s₃ : Shared, s₃ = { s₂ with heap := h₁, toks := s₂.toks + ([] : List (Str × Value)).length } →
      codeAny (model prog w) A (.compLoop (.ListComp elt [⟨target, iter, ifs, 0⟩] scope pos) 0 (.ref I) (.ref s₂.heap.objs.size) (compEnvC scope cl (s₂.heap.objs.size + 1) env))
        (RR (.ref s₂.heap.objs.size) (s₂.heap.objs.size + 1)) s₃ := by
    rintro s₃ rfl
    exact comp_walk (cenv := compEnvC scope cl (s₂.heap.objs.size + 1) env) W (Inv _ _) hsz (hit _ _) hI0 (hstep _ _) (hfin _ _) hown
  exact codeAny_compStart_list (loop _ rfl) (W.self 0 _ _ _ (hit _ _ _ _ _ hI0) (loop _ rfl))
theorem ListComp_ask {elt target iter : Expr} {ifs : List Expr} {scope : Scope} {cl : List (Str × Addr)} {pos : Pos} {Q : Value → Shared → Prop}
    (hclos : closureFor scope env = pure cl) (hcell : ∀ y ∈ scope.names, y.2 ≠ .cell) (hkind : scope.kind = .function)
    (hnames : ∀ y ∈ scope.names, y.2 = .local → scope.names.lookup y.1 = some .local)
    (h : wpAny (model prog w) A (eval iter env) (fun xv s₁ => wpAny (model prog w) A (pyIter xv) (fun it s₂ => CompAsk prog w A env scope cl target ifs elt it s₂ fun D C _ s' =>
      ∃ m, s'.heap.Ns C m ∧ ∀ h', Heap.SameBut C s'.heap h' → Q (.ref D) { s' with heap := h' }) E s₁) E s)
    (hs : ∀ x, foldedSetIterable iter env x = pure x := by intro _; rfl) :
    wpAny (model prog w) A (eval (.ListComp elt [⟨target, iter, ifs, 0⟩] scope pos) env) Q E s := by
  rw [eval_ListComp]
  refine wpAny_comprehension_free (use := none) rfl hs hclos hkind hnames (wpAny_mono h (fun xv s₁ h₁ => wpAny_mono h₁ (fun it s₂ h₂ => ?_) fun _ _ e => e) fun _ _ e => e)
  exact comp_askblock (RR := fun acc C => compPost (model prog w) A E none Q acc C) hcell hkind h₂
theorem Assign_ListComp_ask {elt target iter : Expr} {ifs : List Expr} {scope : Scope} {cl : List (Str × Addr)} {y : Str} {py pos spos : Pos} {Q : Flow → Shared → Prop}
    (hsw : swapsWith (.ListComp elt [⟨target, iter, ifs, 0⟩] scope pos) (some (.Name y py)) spos.line env = pure true)
    (hclos : closureFor scope env = pure cl) (hcell : ∀ y ∈ scope.names, y.2 ≠ .cell) (hkind : scope.kind = .function)
    (hnames : ∀ y ∈ scope.names, y.2 = .local → scope.names.lookup y.1 = some .local)
    (h : wpAny (model prog w) A (eval iter env) (fun xv s₁ => wpAny (model prog w) A (pyIter xv) (fun it s₂ => CompAsk prog w A env scope cl target ifs elt it s₂ fun D C _ s' =>
      wpAny (model prog w) A (assign (.Name y py) env (.ref D)) (fun _ s'' => ∃ m, s''.heap.Ns C m ∧ ∀ h', Heap.SameBut C s''.heap h' → Q .next { s'' with heap := h' }) E s') E s₁) E s)
    (hs : ∀ x, foldedSetIterable iter env x = pure x := by intro _; rfl) :
    wpAny (model prog w) A (exec (.Assign [.Name y py] (.ListComp elt [⟨target, iter, ifs, 0⟩] scope pos) spos) env) Q E s := by
  rw [exec_Assign_Name_used _ _ _ _ hsw]
  refine wpAny_bind (wpAny_standAt (wpAny_bind ?_))
  show wpAny _ A (do let _ ← comprehension (.ListComp elt [⟨target, iter, ifs, 0⟩] scope pos) scope env _ (newList []) false (eval iter env) (some (assign (.Name y py) env))) _ _ s
  refine wpAny_bind (wpAny_mono (wpAny_comprehension_free (use := some (assign (.Name y py) env)) (Q := fun _ s' => Q .next s') rfl hs hclos hkind hnames
    (wpAny_mono h (fun xv s₁ h₁ => wpAny_mono h₁ (fun it s₂ h₂ => ?_) fun _ _ e => e) fun _ _ e => e)) (fun _ s' hq => wpAny_pure (wpAny_pure hq)) fun _ _ e => e)
  exact comp_askblock (RR := fun acc C => compPost (model prog w) A E (some (assign (.Name y py) env)) (fun _ s' => Q .next s') acc C) hcell hkind h₂
end
/-- the heap without these objects -/
def sansL (h : Heap) : List Addr → Heap
  | [] => h
  | a :: r => sans (sansL h r) a
theorem sansL_in {h : Heap} {l : List Addr} {a : Addr} (ha : a ∈ l) : (sansL h l).get? a = none := by
  induction l with
  | nil => cases ha
  | cons b r ih =>
    by_cases e : a = b
    · subst e; exact sans_self _ _
    · rw [sansL, sans_other _ e]
      rcases List.mem_cons.mp ha with h | h
      · exact absurd h e
      · exact ih h
theorem sansL_out {h : Heap} {l : List Addr} {a : Addr} (ha : a ∉ l) : (sansL h l).get? a = h.get? a := by
  induction l with
  | nil => rfl
  | cons b r ih =>
    rw [sansL, sans_other _ (fun e => ha (by simp [e]))]
    exact ih fun e => ha (by simp [e])
/-- a frame over what is kept for good: g -/
abbrev Lw (g : Heap) (LL : Addr) (h : Heap) (vs : List (Str × Value)) (es : List Ent) : Prop := Lf (fun _ => False) g LL h vs es
theorem Lf.kept {g h : Heap} {LL : Addr} {vs : List (Str × Value)} {es : List Ent} (F : Lw g LL h vs es) : ∀ b o, g.get? b = some o → h.get? b = some o := fun b o e => F.keep b o (fun q => q) e
theorem Lf.freeze {g h : Heap} {LL : Addr} {vs : List (Str × Value)} {es : List Ent} (F : Lw g LL h vs es) :
    ∃ g', Lw g' LL h vs es ∧ (∀ b o, g.get? b = some o → g'.get? b = some o) ∧ ∀ b o, h.get? b = some o → b ≠ LL → (∀ e ∈ es, b ≠ e.a) → g'.get? b = some o := by
  obtain ⟨m, V, B⟩ := F
  refine ⟨sansL h ((Ent.ns LL m :: es).map (·.a)), ⟨m, V, fun b o _ e => ?_, B.has, fun e he => .inr (sansL_in (List.mem_map_of_mem he)), B.apart⟩, fun b o e => ?_, fun b o e h1 h2 => ?_⟩
  · by_cases hb : b ∈ (Ent.ns LL m :: es).map (·.a)
    · rw [sansL_in hb] at e; cases e
    · rw [sansL_out hb] at e; exact e
  · rw [sansL_out]
    · exact B.keep b o (fun q => q) e
    · intro hb
      obtain ⟨e', he', rfl⟩ := List.mem_map.mp hb
      rcases B.new e' he' with h1 | h1
      · exact h1
      · rw [h1] at e; cases e
  · rw [sansL_out]
    · exact e
    · intro hb
      obtain ⟨e', he', rfl⟩ := List.mem_map.mp hb
      rcases List.mem_cons.mp he' with rfl | he'
      · exact h1 rfl
      · exact h2 e' he' rfl
end Mine
end

-- part V1
section
set_option maxRecDepth 100000
set_option maxHeartbeats 1000000
namespace Mine
open PySem PySem.W PySem.Calls PyProof.Rows
abbrev lawEnv (LL : Addr) : Env := envOfC (Str.ofString "law") (pDef 15).2.2 LL 189 (.ref 188)
abbrev lawA (LL : Addr) : Around := callerA.deeper (lawEnv LL)
/-- the law from its statement k on -/
@[irreducible] def Goes (w : World) (LL : Addr) (k : Nat) (Q : Flow → Shared → Prop) (s : Shared) : Prop := wpAny (model pw w) (lawA LL) (execs ((pDef 15).2.1.drop k) (lawEnv LL)) Q (fun _ _ => False) s
unseal Goes in
theorem Goes.of {w : World} {LL : Addr} {k : Nat} {Q : Flow → Shared → Prop} {s : Shared} {t : List Stmt} (ht : (pDef 15).2.1.drop k = t) (h : wpAny (model pw w) (lawA LL) (execs t (lawEnv LL)) Q (fun _ _ => False) s) : Goes w LL k Q s := by
  subst ht; unfold Goes; assumption
unseal Goes in
theorem Goes.use {w : World} {LL : Addr} {k : Nat} {Q : Flow → Shared → Prop} {s : Shared} {t : List Stmt} (g : Goes w LL k Q s) (ht : (pDef 15).2.1.drop k = t) : wpAny (model pw w) (lawA LL) (execs t (lawEnv LL)) Q (fun _ _ => False) s := by
  subst ht; unfold Goes at g; assumption
/-- the law's cells: numbers, ring, tape, shift, ends, around, sought -/
abbrev cellsE (LL : Addr) (a b c d e f g : Option Value) : List Ent := [.cell (LL + 1) a, .cell (LL + 2) b, .cell (LL + 3) c, .cell (LL + 4) d, .cell (LL + 5) e, .cell (LL + 6) f, .cell (LL + 7) g]
section
variable {X : Nat → Obj} {L : Life} {kvs : List (Int × Value)} {w : World} {h h' : Heap} {s : Shared}
theorem h1_o189 (X L w) : (H1 X L w).get? 189 = some (o189_p15 w.params) := by kernel_rfl
theorem h1_c189 (X L w) : (H1 X L w).CodeRec (.ref 188) (Str.ofString "law") := ⟨188, o188_p15 w.params, _, _, rfl, (by kernel_rfl), rfl, rfl⟩
theorem lawA_depth (LL : Addr) : (lawA LL).depth + 20 < recursionLimit := by
  show callerA.depth + 1 + 20 < recursionLimit
  decide +kernel
theorem lawA_handled (LL : Addr) : (lawA LL).handled = none := rfl
theorem lawA_units (LL : Addr) : (lawA LL).units = 7 := rfl
theorem lawA_frames (LL : Addr) : (lawA LL).frames = some [lawEnv LL] := rfl
theorem lcall {params : Arguments} {body : List Stmt} {scope : Scope} {pm cd doc : Value} {name : Str} {fa : Addr} {o : Obj} {a : Addr} {Q : Value → Shared → Prop} {x : Str} (B : Base X L kvs w s.heap) (ho : (H1 X L w).get? fa = some o) (hcd : (H1 X L w).CodeRec cd name)
    (hdat : o.data = .func (docDef name params body scope pm cd doc)) (hbd : bindArgs (docDef name params body scope pm cd doc) ⟨[.ref a], []⟩ = pure [(x, .ref a)])
    (hx : scope.isCoroutine = false ∧ scope.isGenerator = false ∧ scope.kind = .function) (hloc : scope.names.lookup x = some .local)
    (hb : ∀ h₁ tk, Lw s.heap s.heap.objs.size h₁ [(x, .ref a)] [] → (∀ n c, (cellsFrom (s.heap.objs.size + 1) scope.names []).lookup n = some c → h₁.IsCell c none) →
      wpAny (model pw w) (callerA.deeper (envOfC name scope s.heap.objs.size fa cd)) (execs body (envOfC name scope s.heap.objs.size fa cd)) (fun f s' => Q (retOf f) s') (fun _ _ => False) { s with heap := h₁, toks := tk }) :
    wpAny (model pw w) callerA (PySem.call (.ref fa) [.ref a]) Q (fun _ _ => False) s := by
  refine wpAny_call (call_cells_ret (by decide +kernel) (B.keep _ _ ho) hdat B.noLimit (hcd.keeps B.keep) (binds := [(x, .ref a)]) hbd (fun y hy => by rw [List.mem_singleton.mp hy]; exact .inl hloc) (fun h₁ tk F C => ?_) hx.1 hx.2.1 hx.2.2)
  refine wpAny_mono (hb h₁ tk ?_ fun n c hn => ?_) (fun f s' hq => by cases f <;> exact hq) fun _ _ e => e
  · refine ⟨bindL (envOfC name scope s.heap.objs.size fa cd).kindOf [(x, Value.ref a)] fun _ => none, ?_, fun b o _ e => F.keep b o e, fun e he => ?_, fun e he => ?_, ?_⟩
    rotate_left
    · rw [List.mem_singleton.mp he]; exact F.ns
    · rw [List.mem_singleton.mp he]; exact .inr (get_none_size (Nat.le_refl _))
    · simp
    · intro y v hy
      rw [List.lookup_cons] at hy
      by_cases hxe : y = x
      · subst hxe
        simp at hy; subst hy
        simp [bindL, Env.kindOf, envOfC, hloc]
      · have : (y == x) = false := by simpa using hxe
        rw [this] at hy; cases hy
  · have := C.cell n c hn
    simpa [bindC, Env.kindOf, envOfC, hloc] using this
theorem law_start {a : Addr} (B : Base X L kvs w s.heap)
    (hb : ∀ h₁ tk, Lw s.heap s.heap.objs.size h₁ [(Str.ofString "script", .ref a)] (cellsE s.heap.objs.size none none none none none none none) →
      Goes w s.heap.objs.size 0 (fun f s' => f = .ret (.bool true) ∧ Keeps s s') { s with heap := h₁, toks := tk }) :
    wpAny (model pw w) callerA (PySem.call (.ref 189) [.ref a]) (fun v s' => v = .bool true ∧ Keeps s s') (fun _ _ => False) s := by
  refine lcall B (h1_o189 X L w) (h1_c189 X L w) (params := (pDef 15).1) (body := (pDef 15).2.1) (scope := (pDef 15).2.2) (doc := .none) rfl (x := Str.ofString "script") rfl ⟨rfl, rfl, rfl⟩ rfl fun h₁ tk F hc => ?_
  have c1 := hc (Str.ofString "numbers") (s.heap.objs.size + 1) rfl
  have c2 := hc (Str.ofString "ring") (s.heap.objs.size + 2) rfl
  have c3 := hc (Str.ofString "tape") (s.heap.objs.size + 3) rfl
  have c4 := hc (Str.ofString "shift") (s.heap.objs.size + 4) rfl
  have c5 := hc (Str.ofString "ends") (s.heap.objs.size + 5) rfl
  have c6 := hc (Str.ofString "around") (s.heap.objs.size + 6) rfl
  have c7 := hc (Str.ofString "sought") (s.heap.objs.size + 7) rfl
  have F' : Lw s.heap s.heap.objs.size h₁ [(Str.ofString "script", .ref a)] (cellsE s.heap.objs.size none none none none none none none) := by
    obtain ⟨m, V, Bg⟩ := F
    have hns := Bg.at_ 0 rfl
    clear hb hc
    generalize hz : s.heap.objs.size = z at *
    refine ⟨m, V, Bg.keep, ?_, ?_, ?_⟩
    · intro en hen
      simp only [List.mem_cons, List.not_mem_nil, or_false] at hen
      rcases hen with rfl | rfl | rfl | rfl | rfl | rfl | rfl | rfl
      · exact hns
      · exact c1
      · exact c2
      · exact c3
      · exact c4
      · exact c5
      · exact c6
      · exact c7
    · intro en hen
      refine .inr (get_none_size ?_)
      rw [hz]
      simp only [List.mem_cons, List.not_mem_nil, or_false] at hen
      rcases hen with rfl | rfl | rfl | rfl | rfl | rfl | rfl | rfl
      all_goals first | exact Nat.le_refl _ | exact Nat.le_add_right _ _
    · show [z, z + 1, z + 2, z + 3, z + 4, z + 5, z + 6, z + 7].Nodup
      simp
  refine wpAny_mono (Q := fun f s' => f = .ret (.bool true) ∧ Keeps s s') (E := fun _ _ => False) ?_ ?_ ?_
  · refine Goes.use (k := 0) ?_ ?_
    · exact hb h₁ tk F'
    · rfl
  · rintro f s' ⟨rfl, k⟩
    exact ⟨rfl, k⟩
  · exact fun _ _ e => e
end
end Mine
end

-- part V2
section
set_option maxRecDepth 100000
set_option maxHeartbeats 1000000
namespace Mine
open PySem PySem.W PySem.Calls PyProof.Rows
section
variable {X : Nat → Obj} {L : Life} {kvs : List (Int × Value)} {w : World} {h h' : Heap} {s : Shared} {A : Around} {E : Value → Shared → Prop} {env : Env}
theorem Lf.drop {D : Addr → Prop} {h₀ : Heap} {LL : Addr} {vs : List (Str × Value)} {es : List Ent} (F : Lf D h₀ LL h vs es) (i : Nat) : Lf D h₀ LL h vs (es.eraseIdx i) := F.sub (List.eraseIdx_sublist es i)
/-- range(n), begun to be walked -/
theorem range_then {e : Expr} {p pos : Pos} {n : Nat} {Q : Value → Shared → Prop} (B : Base X L kvs w s.heap) (hn : n ≤ 100000)
    (he : wpAny (model pw w) A (eval e env) (fun v s₁ => (∃ t, v = .int (n : Nat) t) ∧ ∀ h' tk I, (∀ b o, s₁.heap.get? b = some o → h'.get? b = some o) → s₁.heap.get? I = none → IsRangeIter h' I (0 + ((0 : Nat) : Int) * 1) ((n : Int) - ((0 : Nat) : Int)) 1 → Q (.ref I) { s₁ with heap := h', toks := tk }) E s)
    (hs : starEach [e] env = [(false, eval e env)]) (hg : env.globals = mainGlobals := by rfl) (hb : env.builtins = builtinsNs := by rfl) (hk : env.scope.kind = .function := by rfl) (hx : env.kindOf (Str.ofString "range") = some .globalImplicit := by rfl) :
    wpAny (model pw w) A (eval (.Call (.Name (Str.ofString "range") p) [e] [] pos) env) (fun xv s₁ => wpAny (model pw w) A (pyIter xv) Q E s₁) E s := by
  refine Call_Name1 (bname B hg hb (m_range X L w) (b_range X L w) (callWith_type1 (wpAny_mono he (fun v s₁ h₁ => ?_) fun _ _ e => e)) hk hx) hs
  obtain ⟨⟨t, rfl⟩, hQ⟩ := h₁
  refine call_range_1 ?_
  have hsz : Builtin.Range.rangeSize 0 (n : Int) 1 = (n : Int) := by rw [rangeSize_one]; split <;> omega
  refine wpAny_pyIter_range (Heap.get?_push_size _ rfl) (small_one (by decide) (by decide) (by omega) (by omega)) ?_
  rw [hsz]
  dsimp only
  have k : ∀ b o, s₁.heap.get? b = some o → ((s₁.heap.push { cls := .type "range", data := .fields #[.int 0 s₁.toks, .int n t, .int 1 (s₁.toks + 1)] }).push { cls := .type "range_iterator", data := .fields #[rawInt 0, rawInt (n : Int), rawInt 1] }).get? b = some o :=
    fun b o e => Heap.get?_push_of_some _ (Heap.get?_push_of_some _ e)
  refine hQ _ (s₁.toks + 1 + 1) _ k (get_none_size (by rw [Heap.size_push]; exact Nat.le_succ _)) ?_
  rw [show (0 : Int) + ((0 : Nat) : Int) * 1 = 0 by decide, show (n : Int) - ((0 : Nat) : Int) = n by omega]
  exact Heap.get?_push_size _ rfl
/-- the law's eight numbers -/
def fillL : List Int := [12, 8, 11, 9, 13, 4, 41, 7]
def numsL (ns : List Int) : List Int := ns.take 8 ++ fillL.drop (ns.take 8).length
theorem numsL_length (ns : List Int) : (numsL ns).length = 8 := by
  unfold numsL fillL
  rw [List.length_append, List.length_drop, List.length_take]
  simp
  omega
theorem slice_k {g : Heap} {vs : List (Str × Value)} {es : List Ent} {a : Addr} {xs : List Value} {x : Str} {k : Int} {kd : Nat} {p1 p2 p3 p4 : Pos} {Q : Value → Shared → Prop} {k' : Nat} (hk' : k = (k' : Nat)) (F : Lw g env.locals s.heap vs es) (hv : vs.lookup x = some (.ref a)) (hl : s.heap.IsList a xs.toArray)
    (hsz : xs.length ≤ 1000) (hkd : env.scope.kind = .function) (hloc : env.kindOf x = some .local) (hd : (x == ("__debug__" : Str)) = false)
    (hQ : ∀ h' l tk, (∀ b o, s.heap.get? b = some o → h'.get? b = some o) → s.heap.get? l = none → h'.PlainList l (xs.take k').toArray → Q (.ref l) { s with heap := h', toks := tk }) :
    wpAny (model pw w) A (eval (.Subscript (.Name x p1) (.Slice none (some (.Constant (.int k) kd p2)) none p3) p4) env) Q E s := by
  refine wpAny_Subscript_list_slice (lf F hv (wpAny_pure (wpAny_Constant_int (i := k) (k := kd) (pos := p2) ⟨a, xs.toArray, none, some k, rfl, hl, by rw [sizeLine_eq, List.size_toArray]; omega, .none, .int _ _, ?_⟩)) hkd hloc hd)
  rw [hk', slicePick_upto']
  refine hQ _ _ _ (fun b o e => Heap.get?_push_of_some _ (Heap.get?_push_of_some _ e)) (get_none_size (Nat.le_succ _)) ⟨0, ?_⟩
  have := Heap.get?_push_size (s.heap.push { cls := .type "slice", data := .fields #[.none, .int (k' : Nat) s.toks, .none] }) (o := { cls := .type "list", data := .seq (xs.toArray.toList.take k').toArray }) rfl
  rw [Heap.size_push] at this
  simpa using this
theorem stA {a LL : Addr} {g : Heap} {items : List Value} {ns : List Int} {Q : Flow → Shared → Prop} (B : Base X L kvs w g) (F : Lw g LL s.heap [(Str.ofString "script", .ref a)] (cellsE LL none none none none none none none))
    (hl : g.IsList a items.toArray) (hi : IntsAre items ns) (hn : ns.length ≤ 63)
    (next : ∀ h' tk vN lN, Lw g LL h' [] (cellsE LL (some (.ref lN)) none none none none none none ++ [.plain lN vN.toArray]) → IntsAre vN (numsL ns) → Goes w LL 2 Q { s with heap := h', toks := tk }) : Goes w LL 0 Q s := by
  have hD : ∀ b, False → (H1 X L w).get? b = none := fun b q => q.elim
  have hlen : items.length ≤ 63 := by rw [ints_len hi]; exact hn
  refine Goes.of (k := 0) rfl ?_
  refine wpAny_execs_cons ?_
  with_reducible refine wpAny_Assign_Name ?_ swap_list
  with_reducible refine List_ ?_
  with_reducible refine spliced_ints _ fillL _ _ ?_ fun vF tkF hvF => ?_
  · rfl
  refine newList_f F (by rw [ints_len hvF, sizeLine_eq]; decide) fun h₁ lF G₁ _ k₁ => ?_
  refine sf G₁ fun h₂ G₂ => ?_
  dsimp only
  with_reducible refine wpAny_execs_cons ?_
  with_reducible refine wpAny_Assign_Name ?_ swap_bin
  refine wpAny_BinOp (slice_k (k' := 8) rfl G₂ rfl (hl.at fun o e => G₂.kept _ o e) (by omega) rfl rfl (by decide) fun h₃ l₃ tk₃ k₃ n₃ p₃ => ?_)
  have G₃ := G₂.push (.plain l₃ (items.take 8).toArray) k₃ p₃ n₃
  refine wpAny_Subscript_list_slice (lf G₃ rfl (Call_Name1 (bname (G₃.base B hD) rfl rfl (m_len X L w) (b_len X L w) (callWith_builtin1 (slice_k (k' := 8) rfl G₃ rfl (hl.at fun o e => G₃.kept _ o e) (by omega) rfl rfl (by decide) fun h₄ l₄ tk₄ k₄ n₄ p₄ => ?_)) rfl rfl)))
  refine call_len_list p₄.isList (by rw [List.size_toArray, List.length_take]; omega) ?_
  have G₄ := G₃.ext k₄
  have hvl : vF.length = 8 := ints_len hvF
  refine wpAny_pure ⟨lF, vF.toArray, some ((items.take 8).toArray.size : Int), none, rfl, (G₄.at_ 7 rfl : Heap.PlainList _ _ _).isList, by rw [List.size_toArray, sizeLine_eq, hvl]; decide, .int _ _, .none, ?_⟩
  rw [slicePick_from']
  dsimp only
  have hsz3 : (items.take 8).toArray.size = (ns.take 8).length := by rw [List.size_toArray, List.length_take, List.length_take, ints_len hi]
  rw [hsz3]
  obtain ⟨n3, e3⟩ : h₄.PlainList l₃ (items.take 8).toArray := G₄.at_ 8 rfl
  have k₅ : ∀ b o, h₄.get? b = some o → ((h₄.push { cls := .type "slice", data := .fields #[.int ((ns.take 8).length : Int) (tk₄ + 1), .none, .none] }).push { cls := .type "list", data := .seq (vF.drop (ns.take 8).length).toArray }).get? b = some o :=
    fun b o e => Heap.get?_push_of_some _ (Heap.get?_push_of_some _ e)
  have e5 := Heap.get?_push_size (h₄.push { cls := .type "slice", data := .fields #[.int ((ns.take 8).length : Int) (tk₄ + 1), .none, .none] }) (o := { cls := .type "list", data := .seq (vF.drop (ns.take 8).length).toArray }) rfl
  rw [Heap.size_push] at e5
  refine P.add_list (k₅ _ _ e3) e5 ?_ (by rw [sizeLine_eq]; simp; omega)
  dsimp only
  have hints : IntsAre (items.take 8 ++ vF.drop (ns.take 8).length) (numsL ns) := (ints_take hi 8).append (ints_drop hvF _)
  have G₅ := (G₄.ext k₅).push (.plain _ (items.take 8 ++ vF.drop (ns.take 8).length).toArray)
    (h' := ((h₄.push { cls := .type "slice", data := .fields #[.int ((ns.take 8).length : Int) (tk₄ + 1), .none, .none] }).push { cls := .type "list", data := .seq (vF.drop (ns.take 8).length).toArray }).push { cls := .type "list", data := .seq ((items.take 8).toArray ++ (vF.drop (ns.take 8).length).toArray) })
    (fun b o e => Heap.get?_push_of_some _ e) ⟨0, by rw [← List.append_toArray]; exact Heap.get?_push_size _ rfl⟩ (get_none_size (Nat.le_refl _))
  refine sc G₅ 0 rfl fun h₆ G₆ => ?_
  dsimp only
  refine Goes.use (k := 2) ?_ ?_
  · exact next h₆ _ (items.take 8 ++ vF.drop (ns.take 8).length) _ (Lf.fewer (vs' := []) ((G₆.drop 8).drop 7) trivial) hints
  · rfl
end
end Mine
end

-- part V3
section
set_option maxRecDepth 100000
set_option maxHeartbeats 1000000
namespace Mine
open PySem PySem.W PySem.Calls PyProof.Rows
theorem Lf.fresh {D : Addr → Prop} {h₀ h : Heap} {LL p : Addr} {vs : List (Str × Value)} {es : List Ent} (F : Lf D h₀ LL h vs es) (hp : h.get? p = none) : p ≠ LL ∧ ∀ e ∈ es, p ≠ e.a := by
  obtain ⟨m, V, B⟩ := F
  have key : ∀ e ∈ (Ent.ns LL m :: es), p ≠ e.a := fun e he q => by
    obtain ⟨o, eo⟩ := e.ex _ (B.has e he)
    rw [← q, hp] at eo; cases eo
  exact ⟨key _ (.head _), fun e he => key e (.tail _ he)⟩
/-- an object made on the way, kept for good -/
theorem Lf.hold {g h₀ h : Heap} {LL p : Addr} {o : Obj} {vs : List (Str × Value)} {es : List Ent} (F₀ : Lw g LL h₀ vs es) (hp : h₀.get? p = none) (F : Lw g LL h vs es) (ho : h.get? p = some o) :
    ∃ g', Lw g' LL h vs es ∧ (∀ b o, g.get? b = some o → g'.get? b = some o) ∧ g'.get? p = some o := by
  obtain ⟨g', F', k, hk⟩ := F.freeze
  obtain ⟨h1, h2⟩ := F₀.fresh hp
  exact ⟨g', F', k, hk p o ho h1 h2⟩
theorem Lf.push2 {g h h' : Heap} {LL : Addr} {vs : List (Str × Value)} {es : List Ent} (F : Lw g LL h vs es) (e₁ e₂ : Ent) (k : ∀ b o, h.get? b = some o → h'.get? b = some o) (h1 : e₁.fact h') (h2 : e₂.fact h') (n1 : h.get? e₁.a = none) (n2 : h.get? e₂.a = none) (hne : e₁.a ≠ e₂.a) :
    Lw g LL h' vs (es ++ [e₁, e₂]) := by
  have f2 := F.fresh n2
  have F₁ := F.push e₁ k h1 n1
  obtain ⟨m, V, B⟩ := F₁
  have hg : g.get? e₂.a = none := by
    cases q : g.get? e₂.a with
    | none => rfl
    | some o => rw [F.kept _ _ q] at n2; cases n2
  refine ⟨m, V, B.keep, fun e he => ?_, fun e he => ?_, ?_⟩
  · rcases List.mem_cons.mp he with rfl | he
    · exact B.has _ (.head _)
    rcases List.mem_append.mp he with he | he
    · exact B.has _ (.tail _ (List.mem_append_left _ he))
    rcases List.mem_cons.mp he with rfl | he
    · exact h1
    rw [List.mem_singleton.mp he]; exact h2
  · rcases List.mem_cons.mp he with rfl | he
    · exact B.new _ (.head _)
    rcases List.mem_append.mp he with he | he
    · exact B.new _ (.tail _ (List.mem_append_left _ he))
    rcases List.mem_cons.mp he with rfl | he
    · exact B.new _ (.tail _ (List.mem_append_right _ (.head _)))
    rw [List.mem_singleton.mp he]; exact .inr hg
  · have e0 : (Ent.ns LL m :: (es ++ [e₁, e₂])) = (Ent.ns LL m :: (es ++ [e₁])) ++ [e₂] := by simp
    rw [e0, List.map_append, List.nodup_append]
    refine ⟨B.apart, by simp, fun a ha b hb => ?_⟩
    simp at hb
    subst hb
    obtain ⟨e, he, rfl⟩ := List.mem_map.mp ha
    rcases List.mem_cons.mp he with rfl | he
    · exact fun q => f2.1 q.symm
    rcases List.mem_append.mp he with he | he
    · exact fun q => f2.2 e he q.symm
    rw [List.mem_singleton.mp he]; exact hne
section
variable {M : Model} {A : Around} {E : Value → Shared → Prop} {s : Shared} {env : Env} {D : Addr → Prop} {h₀ : Heap} {LL : Addr} {vs : List (Str × Value)} {es : List Ent}
/-- a local name of an inner block, read -/
theorem li {x : Str} {pos : Pos} {v : Value} {m : Str → Option Value} {Q : Value → Shared → Prop} (F : Lf D h₀ LL s.heap vs es) (i : Nat) (hi : es[i]? = some (.ns env.locals m)) (hv : m x = some v) (h : Q v s)
    (hk : env.scope.kind = .function := by rfl) (hl : env.kindOf x = some .local := by rfl) (hd : (x == ("__debug__" : Str)) = false := by decide) :
    wpAny M A (eval (.Name x pos) env) Q E s := wpAny_Name (wpAny_loadName_local hk hl (F.at_ i hi) hv h) hd
theorem si {x : Str} {v : Value} {m : Str → Option Value} {Q : Unit → Shared → Prop} (F : Lf D h₀ LL s.heap vs es) (i : Nat) (hi : es[i]? = some (.ns env.locals m))
    (h : ∀ h', Lf D h₀ LL h' vs (es.set i (.ns env.locals (fun y => if y = x then some v else m y))) → Q () { s with heap := h', toks := s.toks + 1 })
    (hk : env.scope.kind = .function := by rfl) (hl : env.kindOf x = some .local := by rfl) :
    wpAny M A (storeName env x v) Q E s :=
  wpAny_storeName_local hl (F.at_ i hi) (fun h' hn hs => h h' (F.same i (.ns env.locals _) hi rfl hs hn)) (by rw [hk]; rfl)
end
theorem lcl {M : Model} {A : Around} {E : Value → Shared → Prop} {s : Shared} {env : Env} {x : Str} {pos : Pos} {c : Addr} {v : Value} {Q : Value → Shared → Prop} (hx : s.heap.IsCell c (some v)) (h : Q v s)
    (hk : env.scope.kind = .function := by rfl) (hl : env.kindOf x = some .cell := by rfl) (hc : env.cells.lookup x = some c := by rfl) (hd : (x == ("__debug__" : Str)) = false := by decide) :
    wpAny M A (eval (.Name x pos) env) Q E s := wpAny_Name (wpAny_loadName_cell hk hl hc hx h) hd
/-- the sign and the letters that the k-th number draws -/
def drawL (ns : List Int) (k : Nat) : Int × Str := signOf ((numsL ns).getD k 0) (if k = 0 then 13 else 14)
/-- a list of pairs of a sign and its letters -/
def Drawn (g : Heap) (vs : List Value) (ds : List (Int × Str)) : Prop := vs.length = ds.length ∧ ∀ (k : Nat) (d : Int × Str), ds[k]? = some d → ∃ (t : Addr) (u v : Tok), vs[k]? = some (Value.ref t) ∧ g.get? t = some (twoObj ⟨#[d.1.toNat]⟩ u d.2 v)
theorem Drawn.keeps {g g' : Heap} {vs : List Value} {ds : List (Int × Str)} (R : Drawn g vs ds) (k : ∀ b o, g.get? b = some o → g'.get? b = some o) : Drawn g' vs ds :=
  ⟨R.1, fun i d hd => let ⟨t, u, v, e1, e2⟩ := R.2 i d hd; ⟨t, u, v, e1, k _ _ e2⟩⟩
theorem Drawn.snoc {g : Heap} {vs : List Value} {ds : List (Int × Str)} {d : Int × Str} {t : Addr} {u v : Tok} (R : Drawn g vs ds) (e : g.get? t = some (twoObj ⟨#[d.1.toNat]⟩ u d.2 v)) : Drawn g (vs ++ [.ref t]) (ds ++ [d]) := by
  refine ⟨by simp [R.1], fun i d' hd => ?_⟩
  rcases Nat.lt_or_ge i ds.length with h | h
  · rw [List.getElem?_append_left h] at hd
    obtain ⟨t', u', v', e1, e2⟩ := R.2 i d' hd
    exact ⟨t', u', v', by rw [List.getElem?_append_left (by rw [R.1]; exact h)]; exact e1, e2⟩
  · rw [List.getElem?_append_right h] at hd
    have : i - ds.length = 0 := by
      rcases Nat.eq_zero_or_pos (i - ds.length) with h0 | h0
      · exact h0
      · rw [List.getElem?_eq_none (by simp; omega)] at hd; cases hd
    rw [this] at hd
    simp at hd
    subst hd
    exact ⟨t, u, v, by rw [List.getElem?_append_right (by rw [R.1]; exact h), R.1, this]; rfl, e⟩
section
variable {X : Nat → Obj} {L : Life} {kvs : List (Int × Value)} {w : World} {h h' : Heap} {s : Shared}
theorem m_sign (X L w) : (H1 X L w).nsMap mainGlobals (Str.ofString "_law_sign") = some (.ref 165) := by kernel_rfl
theorem stB {LL lN : Addr} {g : Heap} {vN : List Value} {ns : List Int} {Q : Flow → Shared → Prop} (B : Base X L kvs w g) (F : Lw g LL s.heap [] (cellsE LL (some (.ref lN)) none none none none none none ++ [.plain lN vN.toArray]))
    (hi : IntsAre vN (numsL ns))
    (next : ∀ g' h' tk vD lD, (∀ b o, g.get? b = some o → g'.get? b = some o) → Lw g' LL h' [(Str.ofString "drawn", .ref lD)] (cellsE LL (some (.ref lN)) none none none none none none ++ [.plain lN vN.toArray, .plain lD vD.toArray]) →
      Drawn g' vD ((List.range 8).map (drawL ns)) → Goes w LL 3 Q { s with heap := h', toks := tk }) : Goes w LL 2 Q s := by
  have hD : ∀ b, False → (H1 X L w).get? b = none := fun b q => q.elim
  have hN : vN.length = 8 := by rw [ints_len hi, numsL_length]
  refine Goes.of (k := 2) rfl ?_
  refine wpAny_execs_cons ?_
  with_reducible refine Assign_ListComp_ask (cl := [(Str.ofString "numbers", LL + 1)]) ?_ ?_ ?_ ?_ ?_ ?_ ?_
  · rfl
  · rfl
  · decide
  · rfl
  · decide
  rotate_left
  · intro _; rfl
  refine range_then (n := 8) (F.base B hD) (by decide) (wpAny_Constant_int ⟨⟨_, rfl⟩, fun h₁ tk₁ I k₁ n₁ r₁ => ?_⟩) rfl
  dsimp only at k₁ n₁ ⊢
  have F₁ := F.push (.rng I _ _ _) k₁ r₁ n₁
  refine ⟨I, [I], [I], 8, _, _, fun D C i ys s' => ∃ g' h' tk m, s' = { s with heap := h', toks := tk } ∧ (∀ b o, g.get? b = some o → g'.get? b = some o) ∧
    Lw g' LL h' [] (cellsE LL (some (.ref lN)) none none none none none none ++ [.plain lN vN.toArray, .rng I (0 + (i : Nat) * 1) ((8 : Nat) - (i : Nat)) 1, .plain D ys.toArray, .ns C m]) ∧ Drawn g' ys ((List.range i).map (drawL ns)),
    rfl, Walks.range (lawA_handled LL) I 0 1 8, by rw [sizeLine_eq]; decide, fun _ _ _ _ _ _ _ _ hq => wpAny_pure hq, ?_, ?_, ?_, ?_⟩
  · rintro D C i ys s' ⟨g', h', tk, m, rfl, kg, G, R⟩
    exact G.at_ 8 rfl
  · intro D C h₂ m tk hDC hnD hnC k₂ pD nC
    refine ⟨g, h₂, tk, m, rfl, fun _ _ e => e, ?_, rfl, fun k d hd => by simp at hd⟩
    exact F₁.push2 (.plain D #[]) (.ns C m) k₂ pD nC hnD hnC hDC
  · rintro D C i ys s' v h' tk E' hil hyl ⟨g', h₂, tk₂, m, rfl, kg, G, R⟩ ⟨t, rfl⟩ hS hkeep
    have G := G.but (h' := h') 8 (.rng I (0 + ((i + 1 : Nat) : Int) * 1) (((8 : Nat) : Int) - ((i + 1 : Nat) : Int)) 1) rfl rfl (fun b o hb e => hkeep b o (fun q => hb (List.mem_singleton.mp q)) e) hS
    rw [show (0 : Int) + (i : Nat) * 1 = (i : Nat) by omega]
    refine assign_Name (si G 10 rfl fun h₃ G₃ => ?_)
    dsimp only
    refine wpAny_pure ?_
    rw [if_pos rfl]
    have B₃ : Base X L kvs w h₃ := B.mono fun b o e => G₃.kept b o (kg b o e)
    refine Call_Name2 (gname B₃ rfl (m_sign X L w) (callWith_fn2 (o := o165_p11 w.params) rfl ?_) rfl rfl)
    have hx : IntsAre vN (numsL ns) := hi
    have hil' : i < (numsL ns).length := by rw [numsL_length]; exact hil
    obtain ⟨tx, hvx⟩ := ints_at hi i _ (List.getElem?_eq_getElem hil')
    refine Subscript_Name (lcl (G₃.at_ 0 rfl) (li G₃ 10 rfl rfl ⟨"list", _, slot_list_getitem.lookup, isList_typeIs (G₃.at_ 7 rfl : Heap.PlainList _ _ _).isList, wpAny_getItem_list (G₃.at_ 7 rfl : Heap.PlainList _ _ _).isList (by omega) (by omega) (x := .int (numsL ns)[i] tx) (by simpa using hvx) ?_⟩))
    refine wpAny_IfExp (wpAny_isTrue_Compare1 (li G₃ 10 rfl rfl (wpAny_Constant_int (PyProof.Rows.eq_int (wpAny_truthy_bool ?_)))))
    have hfin : ∀ (kd : Int) (u : Tok) (tk : Nat), kd = (if i = 0 then 13 else 14) →
        h₃.get? 165 = some (o165_p11 w.params) ∧ wpAny (model pw w) (lawA LL) (PySem.call (.ref 165) [.int (numsL ns)[i] tx, .int kd u]) (fun y s₄ => s₄.heap.PlainList D ys.toArray ∧ ∀ h₅, h₅.PlainList D (ys ++ [y]).toArray → Heap.SameBut D s₄.heap h₅ →
          ∃ g' h' tk m, ({ s₄ with heap := h₅ } : Shared) = { s with heap := h', toks := tk } ∧ (∀ b o, g.get? b = some o → g'.get? b = some o) ∧
            Lw g' LL h' [] (cellsE LL (some (.ref lN)) none none none none none none ++ [.plain lN vN.toArray, .rng I (0 + ((i + 1 : Nat) : Int) * 1) (((8 : Nat) : Int) - ((i + 1 : Nat) : Int)) 1, .plain D (ys ++ [y]).toArray, .ns C m]) ∧ Drawn g' (ys ++ [y]) ((List.range (i + 1)).map (drawL ns))) E' { s with heap := h₃, toks := tk } := by
      intro kd u tk hkd
      refine ⟨B₃.keep _ _ (h1_o165 X L w), sign_ok B₃ (by have := lawA_depth LL; omega) rfl (by rw [hkd]; split <;> simp) fun h₄ tk₄ p t' u' hp hpn k₄ => ?_⟩
      have G₄ := G₃.ext k₄
      obtain ⟨g₅, G₅, k₅, hp₅⟩ := Lf.hold G₃ hpn G₄ hp
      refine ⟨G₅.at_ 9 rfl, fun h₅ hl₅ hs₅ => ⟨g₅, h₅, _, _, rfl, fun b o e => k₅ b o (kg b o e), G₅.same 9 (.plain D (ys ++ [Value.ref p]).toArray) rfl rfl hs₅ hl₅, ?_⟩⟩
      rw [List.range_succ, List.map_append]
      refine (R.keeps k₅).snoc (d := drawL ns i) (u := t') (v := u') ?_
      have : drawL ns i = signOf (numsL ns)[i] kd := by
        unfold drawL
        rw [List.getD_eq_getElem?_getD, List.getElem?_eq_getElem hil', hkd]; rfl
      rw [this]; exact hp₅
    by_cases h0 : i = 0
    · subst h0
      rw [if_pos (by decide)]
      refine wpAny_Constant_int ?_
      exact hfin _ _ _ rfl
    · rw [if_neg (by simpa using h0)]
      refine wpAny_Constant_int ?_
      exact hfin _ _ _ (by rw [if_neg h0])
  · rintro D C ys s' h' tk hyl ⟨g', h₂, tk₂, m, rfl, kg, G, R⟩ hkeep
    have G := G.lose (h' := h') 8 rfl fun b o hb e => hkeep b o (fun q => hb (List.mem_singleton.mp q)) e
    refine assign_Name (sf G fun h₃ G₃ => ⟨m, G₃.at_ 9 rfl, fun h₄ hs₄ => ?_⟩)
    dsimp only
    have G₄ := G₃.lose (h' := h₄) 9 rfl fun b o hb e => (hs₄.2 b hb).trans e
    refine Goes.use (k := 3) ?_ ?_
    · exact next g' h₄ _ ys D kg G₄ R
    · rfl
end
end Mine
end

-- part V4
section
set_option maxRecDepth 100000
set_option maxHeartbeats 1000000
namespace Mine
open PySem PySem.W PySem.Calls PyProof.Rows
/-- a comprehension's block as a frame of its own, over a heap that it keeps -/
theorem Lf.enter {g h₂ h₁ : Heap} {C D : Addr} {it : Ent} {m : Str → Option Value} (k₀ : ∀ b o, g.get? b = some o → h₂.get? b = some o) (hit : it.fact h₂) (hni : g.get? it.a = none) (k : ∀ b o, h₂.get? b = some o → h₁.get? b = some o)
    (nD : h₂.get? D = none) (nC : h₂.get? C = none) (hDC : D ≠ C) (pD : h₁.PlainList D #[]) (nsC : h₁.Ns C m) : Lw g C h₁ [] [it, .plain D #[]] := by
  obtain ⟨oi, ei⟩ := it.ex _ hit
  have gn : ∀ a, h₂.get? a = none → g.get? a = none := fun a ha => by
    cases q : g.get? a with
    | none => rfl
    | some o => rw [k₀ _ _ q] at ha; cases ha
  have hID : it.a ≠ D := fun q => by rw [q, nD] at ei; cases ei
  have hIC : it.a ≠ C := fun q => by rw [q, nC] at ei; cases ei
  refine ⟨m, fun x v h => by simp at h, fun b o _ e => k _ _ (k₀ _ _ e), fun e he => ?_, fun e he => .inr ?_, ?_⟩
  · rcases List.mem_cons.mp he with rfl | he
    · exact nsC
    rcases List.mem_cons.mp he with rfl | he
    · exact e.loc _ _ hit fun o => k _ o
    rw [List.mem_singleton.mp he]; exact pD
  · rcases List.mem_cons.mp he with rfl | he
    · exact gn _ nC
    rcases List.mem_cons.mp he with rfl | he
    · exact hni
    rw [List.mem_singleton.mp he]; exact gn _ nD
  · show [C, it.a, D].Nodup
    simp
    exact ⟨⟨Ne.symm hIC, Ne.symm hDC⟩, hID⟩
theorem Lf.leave {g h h' : Heap} {C : Addr} {vs : List (Str × Value)} {es : List Ent} (F : Lw g C h vs es) (hs : Heap.SameBut C h h') : (∀ b o, g.get? b = some o → h'.get? b = some o) ∧ ∀ e ∈ es, e.fact h' := by
  obtain ⟨m, V, B⟩ := F
  refine ⟨fun b o e => (hs.2 b fun q => ?_).trans (B.keep b o (fun q => q) e), fun e he => e.loc _ _ (B.has e (.tail _ he)) fun o eo => (hs.2 _ fun q => ?_).trans eo⟩
  · rcases B.new _ (.head _) with h1 | h1
    · exact h1
    · have h1' : g.get? C = none := h1
      rw [q, h1'] at e; cases e
  · have := (List.nodup_cons.mp B.apart).1
    exact this (List.mem_map.mpr ⟨e, he, q⟩)
theorem Lf.nsOf {g h : Heap} {C : Addr} {vs : List (Str × Value)} {es : List Ent} (F : Lw g C h vs es) : ∃ m, h.Ns C m := let ⟨m, _, B⟩ := F; ⟨m, B.has _ (.head _)⟩
section
variable {X : Nat → Obj} {L : Life} {kvs : List (Int × Value)} {w : World} {h h' : Heap} {s : Shared} {A : Around} {E : Value → Shared → Prop} {env : Env}
/-- texts in a row -/
def StrsAre (vs : List Value) (xs : List Str) : Prop := vs.length = xs.length ∧ ∀ (k : Nat) (x : Str), xs[k]? = some x → ∃ t : Tok, vs[k]? = some (Value.str x t)
theorem StrsAre.snoc {vs : List Value} {xs : List Str} {x : Str} {t : Tok} (R : StrsAre vs xs) : StrsAre (vs ++ [.str x t]) (xs ++ [x]) := by
  refine ⟨by simp [R.1], fun i d hd => ?_⟩
  rcases Nat.lt_or_ge i xs.length with h | h
  · rw [List.getElem?_append_left h] at hd
    obtain ⟨t', e1⟩ := R.2 i d hd
    exact ⟨t', by rw [List.getElem?_append_left (by rw [R.1]; exact h)]; exact e1⟩
  · rw [List.getElem?_append_right h] at hd
    have : i - xs.length = 0 := by
      rcases Nat.eq_zero_or_pos (i - xs.length) with h0 | h0
      · exact h0
      · rw [List.getElem?_eq_none (by simp; omega)] at hd; cases hd
    rw [this] at hd
    simp at hd
    subst hd
    exact ⟨t, by rw [List.getElem?_append_right (by rw [R.1]; exact h), R.1, this]; rfl⟩
/-- [sign for sign, plain in ..] and [plain for sign, plain in ..] -/
theorem pick_comp {b : Bool} {iter : Expr} {p1 p2 p3 p4 pos : Pos} {scope : Scope} {Q : Value → Shared → Prop} (hA : A.handled = none) (hsc : scope = { kind := .function, names := [(Str.ofString ".0", .local), (Str.ofString "sign", .local), (Str.ofString "plain", .local)], isGenerator := false, isCoroutine := false, more := [] })
    (hiter : wpAny (model pw w) A (eval iter env) (fun xv s₁ => ∃ l vs ds, xv = .ref l ∧ s₁.heap.IsList l vs.toArray ∧ Drawn s₁.heap vs ds ∧ ds.length ≤ 1000 ∧
      ∀ h' tk D ys, (∀ b o, s₁.heap.get? b = some o → h'.get? b = some o) → h'.PlainList D ys.toArray → StrsAre ys (ds.map fun d => if b then (⟨#[d.1.toNat]⟩ : Str) else d.2) → Q (.ref D) { s₁ with heap := h', toks := tk }) E s)
    (hclos : closureFor scope env = pure []) (hs : ∀ x, foldedSetIterable iter env x = pure x) :
    wpAny (model pw w) A (eval (.ListComp (.Name (if b then Str.ofString "sign" else Str.ofString "plain") p1) [⟨.Tuple [.Name (Str.ofString "sign") p2, .Name (Str.ofString "plain") p3] 0 p4, iter, [], 0⟩] scope pos) env) Q E s := by
  subst hsc
  refine ListComp_ask hclos (by decide) rfl (by decide) (wpAny_mono hiter (fun xv s₁ h₁ => ?_) fun _ _ e => e) hs
  · obtain ⟨l, vs, ds, rfl, hl, hd, hlen, hQ⟩ := h₁
    have hls : l < s₁.heap.objs.size := by obtain ⟨o, ho, _⟩ := hl; exact Heap.lt_size ho
    refine wpAny_pyIter_list hl ?_
    have W := Walks.list (prog := pw) (w := w) (A := A) hA s₁.heap.objs.size l (Nat.ne_of_lt hls) vs.toArray
    have k₁ : ∀ b o, s₁.heap.get? b = some o → (s₁.heap.push { cls := .type "list_iterator", data := .fields #[.ref l, .int 0 0] }).get? b = some o := fun b o e => Heap.get?_push_of_some _ e
    refine ⟨s₁.heap.objs.size, [s₁.heap.objs.size, l], [s₁.heap.objs.size], vs.toArray.size, _, _, fun D C i ys s' => ∃ h' tk vv, s' = { s₁ with heap := h', toks := tk } ∧ Lw s₁.heap C h' vv [.lit s₁.heap.objs.size l i, .plain D ys.toArray] ∧
      StrsAre ys ((ds.take i).map fun d => if b then (⟨#[d.1.toNat]⟩ : Str) else d.2), rfl, W, by rw [List.size_toArray, hd.1, sizeLine_eq]; omega, ?_, ?_, ?_, ?_, ?_⟩
    · intro i v s' Q' E' hil hv hS hq
      have hil' : i < ds.length := by rw [← hd.1]; simpa using hil
      obtain ⟨t, u, z, e1, e2⟩ := hd.2 i _ (List.getElem?_eq_getElem hil')
      have hv' : vs[i]? = some v := by simpa using hv
      obtain rfl : v = .ref t := Option.some.inj (hv'.symm.trans e1)
      exact wpAny_letOwnedTupleGo_listiter hS.1 hq
    · rintro D C i ys s' ⟨h', tk, vv, rfl, G, R⟩
      exact ⟨G.at_ 0 rfl, hl.at fun o e => G.kept _ o e⟩
    · intro D C h₁ m tk hDC hnD hnC k₂ pD nC
      exact ⟨h₁, tk, [], rfl, Lf.enter k₁ (it := .lit s₁.heap.objs.size l 0) ⟨_, Heap.get?_push_size _ rfl, rfl, rfl⟩ (get_none_size (Nat.le_refl _)) k₂ hnD hnC hDC pD nC, rfl, fun k x hx => by simp at hx⟩
    · rintro D C i ys s' v h' tk E' hil hyl ⟨h₂, tk₂, vv, rfl, G, R⟩ hv hS hkeep
      have G := G.but (h' := h') 0 (.lit s₁.heap.objs.size l (i + 1)) rfl rfl (fun b o hb e => hkeep b o (fun q => hb (List.mem_singleton.mp q)) e) hS.1
      have hil' : i < ds.length := by rw [← hd.1]; simpa using hil
      obtain ⟨t, u, z, e1, e2⟩ := hd.2 i _ (List.getElem?_eq_getElem hil')
      have hv' : vs[i]? = some v := by simpa using hv
      obtain rfl : v = .ref t := Option.some.inj (hv'.symm.trans e1)
      have ht : h'.IsTuple t #[.str ⟨#[(ds[i]).1.toNat]⟩ u, .str (ds[i]).2 z] := ⟨_, G.kept _ _ e2, rfl, _, rfl⟩
      refine wpAny_assign_Tuple (items := #[.str ⟨#[(ds[i]).1.toNat]⟩ u, .str (ds[i]).2 z]) hA ht rfl rfl fun h₃ he₃ => ?_
      have G₃ := G.ext (h' := h₃) fun b o e => he₃ b o (Nat.ne_of_lt (Heap.lt_size e)) e
      unfold assignInOrder
      refine wpAny_bind (assign_Name (sf G₃ fun h₄ G₄ => ?_))
      dsimp only
      unfold assignInOrder
      refine wpAny_bind (assign_Name (sf G₄ fun h₅ G₅ => ?_))
      refine wpAny_pure ?_
      dsimp only
      refine wpAny_pure ?_
      rw [if_pos rfl]
      have htk : ds.take (i + 1) = ds.take i ++ [ds[i]] := by rw [List.take_add_one, List.getElem?_eq_getElem hil']; rfl
      cases b
      · refine lf G₅ rfl ⟨G₅.at_ 1 rfl, fun h₆ hl₆ hs₆ => ⟨h₆, _, _, rfl, G₅.same 1 (.plain D (ys ++ [Value.str (ds[i]).2 z]).toArray) rfl rfl hs₆ hl₆, ?_⟩⟩
        rw [htk, List.map_append]
        exact R.snoc
      · refine lf G₅ rfl ⟨G₅.at_ 1 rfl, fun h₆ hl₆ hs₆ => ⟨h₆, _, _, rfl, G₅.same 1 (.plain D (ys ++ [Value.str ⟨#[(ds[i]).1.toNat]⟩ u]).toArray) rfl rfl hs₆ hl₆, ?_⟩⟩
        rw [htk, List.map_append]
        exact R.snoc
    · rintro D C ys s' h' tk hyl ⟨h₂, tk₂, vv, rfl, G, R⟩ hkeep
      have G := G.lose (h' := h') 0 rfl fun b o hb e => hkeep b o (fun q => hb (List.mem_singleton.mp q)) e
      obtain ⟨m, hm⟩ := G.nsOf
      refine ⟨m, hm, fun h₃ hs₃ => ?_⟩
      obtain ⟨a1, a2⟩ := G.leave hs₃
      rw [show ds.take vs.toArray.size = ds by rw [List.size_toArray, hd.1, List.take_length]] at R
      exact hQ h₃ tk D ys a1 (a2 _ (.head _)) R
end
end Mine
end

-- part P1
section
namespace Mine
/-- the figure of a letter -/
def dg (c : Nat) : Nat := c - 64
/-- the number that letters spell to the base 64 -/
def valL : List Nat → Nat
  | [] => 0
  | c :: r => dg c * 64 ^ r.length + valL r
def AllFis (l : List Nat) : Prop := ∀ c ∈ l, Fis c
theorem Fis.dg_lt {c : Nat} (h : Fis c) : dg c < 64 := by rcases h with rfl | rfl | rfl <;> decide
theorem Fis.dg_inj {c d : Nat} (h : Fis c) (h' : Fis d) (e : dg c = dg d) : c = d := by
  rcases h with rfl | rfl | rfl <;> rcases h' with rfl | rfl | rfl <;> revert e <;> decide
theorem Fis.dg_rk {c d : Nat} (h : Fis c) (h' : Fis d) : dg c < dg d ↔ rk c < rk d := by
  rcases h with rfl | rfl | rfl <;> rcases h' with rfl | rfl | rfl <;> decide
theorem Fis.rk_inj {c d : Nat} (h : Fis c) (h' : Fis d) (e : rk c = rk d) : c = d := by
  rcases h with rfl | rfl | rfl <;> rcases h' with rfl | rfl | rfl <;> revert e <;> decide
theorem foldl_val : ∀ (l : List Nat) (v : Nat), l.foldl (fun v c => v * 64 + dg c) v = v * 64 ^ l.length + valL l
  | [], v => by simp [valL]
  | c :: r, v => by
    rw [List.foldl_cons, foldl_val r, valL, List.length_cons, Nat.pow_succ, Nat.add_mul, Nat.mul_assoc, Nat.mul_comm 64 (64 ^ r.length), Nat.add_assoc]
theorem valL_lt : ∀ (l : List Nat), AllFis l → valL l < 64 ^ l.length
  | [], _ => by simp [valL]
  | c :: r, h => by
    have h1 := (h c (by simp)).dg_lt
    have h2 := valL_lt r fun d hd => h d (by simp [hd])
    rw [valL, List.length_cons, Nat.pow_succ]
    have : dg c * 64 ^ r.length + 64 ^ r.length ≤ 64 ^ r.length * 64 := by
      rw [Nat.mul_comm (64 ^ r.length) 64, ← Nat.succ_mul]
      exact Nat.mul_le_mul_right _ h1
    omega
/-- places compare as figures -/
theorem lex_lt {a b x y P : Nat} (hx : x < P) (hy : y < P) : a * P + x < b * P + y ↔ a < b ∨ (a = b ∧ x < y) := by
  constructor
  · intro h
    rcases Nat.lt_trichotomy a b with h1 | h1 | h1
    · exact .inl h1
    · subst h1; exact .inr ⟨rfl, by omega⟩
    · have : (b + 1) * P ≤ a * P := Nat.mul_le_mul_right _ h1
      rw [Nat.add_mul] at this
      omega
  · rintro (h1 | ⟨rfl, h1⟩)
    · have : (a + 1) * P ≤ b * P := Nat.mul_le_mul_right _ h1
      rw [Nat.add_mul] at this
      omega
    · omega
theorem lex_le {a b x y P : Nat} (hx : x < P) (hy : y ≤ P) : a * P + x < b * P + y ↔ a < b ∨ (a = b ∧ x < y) := by
  rcases Nat.lt_or_ge y P with h | h
  · exact lex_lt hx h
  · obtain rfl : y = P := by omega
    constructor
    · intro h
      rcases Nat.lt_trichotomy a b with h1 | h1 | h1
      · exact .inl h1
      · exact .inr ⟨h1, hx⟩
      · have : (b + 1) * y ≤ a * y := Nat.mul_le_mul_right _ h1
        rw [Nat.add_mul] at this
        omega
    · rintro (h1 | ⟨rfl, h1⟩)
      · have : (a + 1) * y ≤ b * y := Nat.mul_le_mul_right _ h1
        rw [Nat.add_mul] at this
        omega
      · omega
theorem valL_inj : ∀ (l l' : List Nat), AllFis l → AllFis l' → l.length = l'.length → valL l = valL l' → l = l'
  | [], [], _, _, _, _ => rfl
  | [], _ :: _, _, _, h, _ => by simp at h
  | _ :: _, [], _, _, h, _ => by simp at h
  | c :: r, d :: q, h1, h2, hl, hv => by
    have hl' : r.length = q.length := by simpa using hl
    have a1 : AllFis r := fun e he => h1 e (by simp [he])
    have a2 : AllFis q := fun e he => h2 e (by simp [he])
    have b1 := valL_lt r a1
    have b2 := valL_lt q a2
    rw [valL, valL, hl'] at hv
    rw [hl'] at b1
    have e1 : dg c = dg d := by
      rcases Nat.lt_trichotomy (dg c) (dg d) with h | h | h
      · have := (lex_lt (a := dg c) (b := dg d) b1 b2).mpr (.inl h); omega
      · exact h
      · have := (lex_lt (a := dg d) (b := dg c) b2 b1).mpr (.inl h); omega
    rw [e1] at hv
    have e2 : valL r = valL q := by omega
    rw [(h1 c (by simp)).dg_inj (h2 d (by simp)) e1, valL_inj r q a1 a2 hl' e2]
section
variable (rg : List Nat)
/-- the ring's letter at a place, round and round -/
def at' (p : Nat) : Nat := rg.getD (p % rg.length) 0
/-- m letters from p on -/
def win : Nat → Nat → List Nat
  | 0, _ => []
  | m + 1, p => at' rg p :: win m (p + 1)
def num (m p : Nat) : Nat := valL (win rg m p)
theorem win_length (m p : Nat) : (win rg m p).length = m := by
  induction m generalizing p with
  | zero => rfl
  | succ m ih => simp [win, ih]
theorem num_succ (m p : Nat) : num rg (m + 1) p = dg (at' rg p) * 64 ^ m + num rg m (p + 1) := by
  show dg (at' rg p) * 64 ^ (win rg m (p + 1)).length + _ = _
  rw [win_length]; rfl
theorem at'_add (p : Nat) : at' rg (p + rg.length) = at' rg p := by unfold at'; rw [Nat.add_mod_right]
theorem at'_mod (p : Nat) : at' rg (p % rg.length) = at' rg p := by unfold at'; rw [Nat.mod_mod]
theorem win_mod (m p : Nat) : win rg m (p % rg.length) = win rg m p := by
  induction m generalizing p with
  | zero => rfl
  | succ m ih =>
    rw [win, win, at'_mod, ← ih (p % rg.length + 1), ← ih (p + 1)]
    congr 2
    rw [Nat.mod_add_mod]
theorem num_mod (m p : Nat) : num rg m (p % rg.length) = num rg m p := by unfold num; rw [win_mod]
variable {rg} (hr : AllFis rg) (hn : 0 < rg.length)
include hr hn
theorem at'_fis (p : Nat) : Fis (at' rg p) := by
  have h := Nat.mod_lt p hn
  unfold at'
  rw [List.getD_eq_getElem?_getD, List.getElem?_eq_getElem h]
  exact hr _ (List.getElem_mem h)
theorem win_fis (m p : Nat) : AllFis (win rg m p) := by
  induction m generalizing p with
  | zero => intro c hc; cases hc
  | succ m ih =>
    intro c hc
    rcases List.mem_cons.mp hc with rfl | hc
    · exact at'_fis hr hn p
    · exact ih _ c hc
theorem num_lt (m p : Nat) : num rg m p < 64 ^ m := by
  have := valL_lt _ (win_fis hr hn m p)
  rwa [win_length] at this
theorem num_eq_iff (m p : Nat) (P : List Nat) (hP : AllFis P) (hl : P.length = m) : num rg m p = valL P ↔ win rg m p = P :=
  ⟨fun h => valL_inj _ _ (win_fis hr hn m p) hP (by rw [win_length, hl]) h, fun h => by unfold num; rw [h]⟩
theorem num_eq_win {m p q : Nat} (h : num rg m p = num rg m q) : win rg m p = win rg m q :=
  valL_inj _ _ (win_fis hr hn m p) (win_fis hr hn m q) (by rw [win_length, win_length]) h
end
end Mine
end

-- part P2
section
namespace Mine
theorem valL_append : ∀ (a b : List Nat), valL (a ++ b) = valL a * 64 ^ b.length + valL b
  | [], b => by simp [valL]
  | c :: r, b => by
    rw [List.cons_append, valL, valL, valL_append r b, List.length_append, Nat.pow_add, Nat.add_mul, Nat.mul_assoc, Nat.add_assoc]
theorem win_add (rg : List Nat) (m k p : Nat) : win rg (m + k) p = win rg m p ++ win rg k (p + m) := by
  induction m generalizing p with
  | zero => simp [win]
  | succ m ih =>
    rw [Nat.succ_add, win, win, ih, List.cons_append]
    congr 3
    omega
theorem win_get (rg : List Nat) (m p j : Nat) (h : j < m) : (win rg m p)[j]? = some (at' rg (p + j)) := by
  induction m generalizing p j with
  | zero => omega
  | succ m ih =>
    cases j with
    | zero => rfl
    | succ j =>
      rw [win, List.getElem?_cons_succ, ih _ _ (by omega)]
      congr 2
      omega
theorem num_add (rg : List Nat) (m k p : Nat) : num rg (m + k) p = num rg m p * 64 ^ k + num rg k (p + m) := by
  unfold num
  rw [win_add, valL_append, win_length]
theorem at'_congr {rg : List Nat} {a b : Nat} (h : a % rg.length = b % rg.length) : at' rg a = at' rg b := by unfold at'; rw [h]
theorem win_all {rg : List Nat} (hn : 0 < rg.length) {p q : Nat} (h : win rg rg.length p = win rg rg.length q) (j : Nat) : at' rg (p + j) = at' rg (q + j) := by
  have hj := Nat.mod_lt j hn
  have h1 := win_get rg rg.length p (j % rg.length) hj
  have h2 := win_get rg rg.length q (j % rg.length) hj
  rw [h] at h1
  have e := Option.some.inj (h1.symm.trans h2)
  rw [at'_congr (a := p + j) (b := p + j % rg.length) (by rw [Nat.add_mod_mod]), at'_congr (a := q + j) (b := q + j % rg.length) (by rw [Nat.add_mod_mod])]
  exact e
theorem win_all_eq {rg : List Nat} (hn : 0 < rg.length) {p q : Nat} (h : win rg rg.length p = win rg rg.length q) (m : Nat) : win rg m p = win rg m q := by
  apply List.ext_getElem?
  intro j
  by_cases hj : j < m
  · rw [win_get _ _ _ _ hj, win_get _ _ _ _ hj, win_all hn h]
  · rw [List.getElem?_eq_none (by rw [win_length]; omega), List.getElem?_eq_none (by rw [win_length]; omega)]
section
variable {rg : List Nat} (hr : AllFis rg) (hn : 0 < rg.length)
include hr hn
theorem num_mono {p q : Nat} (h : num rg rg.length p ≤ num rg rg.length q) (m : Nat) : num rg m p ≤ num rg m q := by
  rcases Nat.le_total m rg.length with hm | hm
  · obtain ⟨k, hk⟩ := Nat.exists_eq_add_of_le hm
    rw [hk, num_add, num_add] at h
    rcases Nat.lt_or_ge (num rg m q) (num rg m p) with h1 | h1
    · have := (lex_lt (a := num rg m q) (b := num rg m p) (num_lt hr hn k (q + m)) (num_lt hr hn k (p + m))).mpr (.inl h1)
      omega
    · exact h1
  · obtain ⟨k, rfl⟩ := Nat.exists_eq_add_of_le hm
    rcases Nat.lt_or_eq_of_le h with h1 | h1
    · rw [num_add, num_add]
      exact Nat.le_of_lt ((lex_lt (num_lt hr hn k _) (num_lt hr hn k _)).mpr (.inl h1))
    · have := win_all_eq hn (num_eq_win hr hn h1) (rg.length + k)
      unfold num; rw [this]; exact Nat.le_refl _
end
theorem take_filter {α : Type} {R : α → α → Prop} {P : α → Bool} (hR : ∀ a b, R a b → P b = true → P a = true) : ∀ (l : List α), l.Pairwise R → l.take (l.countP P) = l.filter P
  | [], _ => rfl
  | a :: r, h => by
    obtain ⟨h1, h2⟩ := List.pairwise_cons.mp h
    by_cases ha : P a = true
    · rw [List.countP_cons_of_pos ha, List.take_succ_cons, List.filter_cons_of_pos ha, take_filter hR r h2]
    · have hno : ∀ b ∈ r, ¬ P b = true := fun b hb hpb => ha (hR a b (h1 b hb) hpb)
      rw [List.countP_cons_of_neg ha, List.filter_cons_of_neg ha, List.countP_eq_zero.mpr hno, List.take_zero, List.filter_eq_nil_iff.mpr hno]
theorem countP_or {α : Type} {P Q : α → Bool} (hd : ∀ a, P a = true → Q a = true → False) : ∀ (l : List α), l.countP P + l.countP Q = l.countP (fun a => P a || Q a)
  | [] => rfl
  | a :: r => by
    have ih := countP_or hd r
    simp only [List.countP_cons]
    have := hd a
    cases hP : P a <;> cases hQ : Q a <;> simp_all <;> omega
theorem filter_split {α : Type} (f : α → Nat) (v : Nat) : ∀ (l : List α), (l.filter fun a => decide (f a < v + 1)).Perm ((l.filter fun a => decide (f a < v)) ++ l.filter fun a => decide (f a = v))
  | [] => .nil
  | a :: r => by
    have ih := filter_split f v r
    rcases Nat.lt_trichotomy (f a) v with h | h | h
    · rw [List.filter_cons_of_pos (by simp; omega), List.filter_cons_of_pos (by simpa using h), List.filter_cons_of_neg (by simp; omega)]
      exact ih.cons a
    · rw [List.filter_cons_of_pos (by simp; omega), List.filter_cons_of_neg (by simp; omega), List.filter_cons_of_pos (by simpa using h)]
      exact (ih.cons a).trans List.perm_middle.symm
    · rw [List.filter_cons_of_neg (by simp; omega), List.filter_cons_of_neg (by simp; omega), List.filter_cons_of_neg (by simp; omega)]
      exact ih
theorem turn_perm : ∀ (n : Nat), ((List.range n).map fun q => (q + 1) % n).Perm (List.range n)
  | 0 => .nil
  | k + 1 => by
    have e1 : ((List.range (k + 1)).map fun q => (q + 1) % (k + 1)) = (List.range k).map (· + 1) ++ [0] := by
      rw [List.range_succ, List.map_append, List.map_singleton, Nat.mod_self]
      congr 1
      refine List.map_congr_left fun q hq => ?_
      exact Nat.mod_eq_of_lt (by have := List.mem_range.mp hq; omega)
    rw [e1, List.range_succ_eq_map]
    exact List.perm_append_comm
/-- the counts of the norm -/
theorem padded_getD (cnt : List Int) (b j : Nat) : (padded cnt b).getD j 0 = cnt.getD j 0 := by
  unfold padded
  split
  · rw [List.getD_eq_getElem?_getD, List.getD_eq_getElem?_getD, List.getElem?_append]
    split
    · rfl
    · rename_i h
      rw [List.getElem?_eq_none (l := cnt) (by omega), List.getElem?_replicate]
      split <;> rfl
  · rfl
theorem tally_getD (cnt : List Int) (b j : Nat) : (tally cnt b).getD j 0 = cnt.getD j 0 + if j = b then 1 else 0 := by
  unfold tally
  have hb : b < (padded cnt b).length := by rw [padded_length]; omega
  rw [List.getD_eq_getElem?_getD, List.getElem?_set]
  by_cases h : b = j
  · subst h; rw [if_pos rfl, if_pos hb, if_pos rfl, Option.getD_some, padded_getD]
  · rw [if_neg h, if_neg (Ne.symm h), ← List.getD_eq_getElem?_getD, padded_getD]; simp
theorem normOf_getD (cs : List Nat) (j : Nat) : (normOf cs).getD j 0 = ((cs.countP fun c => decide (rk c = j) : Nat) : Int) := by
  have key : ∀ (cs : List Nat) (cnt : List Int), ((cs.map rk).foldl tally cnt).getD j 0 = cnt.getD j 0 + ((cs.countP fun c => decide (rk c = j) : Nat) : Int) := by
    intro cs
    induction cs with
    | nil => intro cnt; simp
    | cons c r ih =>
      intro cnt
      rw [List.map_cons, List.foldl_cons, ih, tally_getD, List.countP_cons]
      by_cases h : rk c = j
      · simp [h]; omega
      · simp [h, Ne.symm h]
  unfold normOf
  rw [key]; simp
theorem rk_lt (c : Nat) : rk c < 3 := by unfold rk; split <;> (try split) <;> omega
theorem normOf_length (cs : List Nat) : (normOf cs).length ≤ 3 := by
  have key : ∀ (cs : List Nat) (cnt : List Int), cnt.length ≤ 3 → ((cs.map rk).foldl tally cnt).length ≤ 3 := by
    intro cs
    induction cs with
    | nil => intro cnt h; exact h
    | cons c r ih =>
      intro cnt h
      rw [List.map_cons, List.foldl_cons]
      refine ih _ ?_
      rw [tally_length]
      have := rk_lt c
      omega
  exact key cs [] (by simp)
theorem normOf_take (cs : List Nat) : ∀ k, ((normOf cs).take k).sum = ((cs.countP fun c => decide (rk c < k) : Nat) : Int)
  | 0 => by simp
  | k + 1 => by
    have h1 : ((normOf cs).take (k + 1)).sum = ((normOf cs).take k).sum + (normOf cs).getD k 0 := by
      rw [List.take_add_one, List.sum_append, List.getD_eq_getElem?_getD]
      cases (normOf cs)[k]? <;> simp
    rw [h1, normOf_take cs k, normOf_getD, ← Int.natCast_add, countP_or (fun a h1 h2 => by simp at h1 h2; omega)]
    have e : (fun c => decide (rk c < k) || decide (rk c = k)) = fun c => decide (rk c < k + 1) := by
      funext c; rw [Bool.eq_iff_iff]; simp; omega
    rw [e]
theorem normOf_drop (cs : List Nat) (k : Nat) : (((normOf cs).drop k).take 1).sum = ((cs.countP fun c => decide (rk c = k) : Nat) : Int) := by
  rw [← normOf_getD, List.getD_eq_getElem?_getD]
  cases h : (normOf cs).drop k with
  | nil =>
    have := List.drop_eq_nil_iff.mp h
    rw [List.getElem?_eq_none this]; rfl
  | cons a r =>
    have : (normOf cs)[k]? = some a := by rw [← Nat.add_zero k, ← List.getElem?_drop, h]; rfl
    rw [this]; simp
/-- equal letters, equal norms -/
theorem normOf_perm {a b : List Nat} (h : a.Perm b) : normOf a = normOf b := by
  have hl : ∀ (cs : List Nat), (normOf cs).length = cs.foldr (fun c m => max m (rk c + 1)) 0 := by
    intro cs
    have key : ∀ (cs : List Nat) (cnt : List Int), ((cs.map rk).foldl tally cnt).length = max cnt.length (cs.foldr (fun c m => max m (rk c + 1)) 0) := by
      intro cs
      induction cs with
      | nil => intro cnt; simp
      | cons c r ih =>
        intro cnt
        rw [List.map_cons, List.foldl_cons, ih, tally_length, List.foldr_cons]
        omega
    unfold normOf
    rw [key]; simp
  have hlen : (normOf a).length = (normOf b).length := by
    rw [hl, hl]
    induction h with
    | nil => rfl
    | cons x _ ih => simp only [List.foldr_cons, ih]
    | swap x y l => simp only [List.foldr_cons]; omega
    | trans _ _ i1 i2 => exact i1.trans i2
  apply List.ext_getElem hlen
  intro j h1 h2
  have e1 := normOf_getD a j
  have e2 := normOf_getD b j
  rw [List.getD_eq_getElem?_getD, List.getElem?_eq_getElem h1, Option.getD_some] at e1
  rw [List.getD_eq_getElem?_getD, List.getElem?_eq_getElem h2, Option.getD_some] at e2
  rw [e1, e2, h.countP_eq]
end Mine
end

-- part P3
section
namespace Mine
def endAt (rg : List Nat) (p : Nat) : Nat := at' rg (p + (rg.length - 1))
def endsOf (rg turns : List Nat) : List Nat := turns.map (endAt rg)
/-- where a letter leads from a row -/
def ahead (ends : List Nat) (c row : Nat) : Nat := (ends.countP fun d => decide (rk d < rk c)) + ((ends.take row).countP fun d => decide (rk d = rk c))
theorem ahead_int (ends : List Nat) (c row : Nat) : ((normOf ends).take (rk c)).sum + (((normOf (ends.take row)).drop (rk c)).take 1).sum = ((ahead ends c row : Nat) : Int) := by
  rw [normOf_take, normOf_drop]; rfl
/-- rows of turns in the order of their numbers -/
structure Turned (rg turns : List Nat) : Prop where
  perm : turns.Perm (List.range rg.length)
  sorted : turns.Pairwise fun a b => num rg rg.length a ≤ num rg rg.length b
def cntB (rg : List Nat) (m v : Nat) : Nat := (List.range rg.length).countP fun p => decide (num rg m p < v)
def lowOf (rg P : List Nat) : Nat := cntB rg P.length (valL P)
def highOf (rg P : List Nat) : Nat := cntB rg P.length (valL P + 1)
section
variable {rg turns : List Nat} (hr : AllFis rg) (hn : 0 < rg.length)
include hr hn
theorem turned_take (T : Turned rg turns) (m v : Nat) : turns.take (cntB rg m v) = turns.filter fun p => decide (num rg m p < v) := by
  unfold cntB
  rw [← T.perm.countP_eq]
  exact take_filter (R := fun a b => num rg rg.length a ≤ num rg rg.length b) (fun a b h hb => decide_eq_true (Nat.lt_of_le_of_lt (num_mono hr hn h m) (of_decide_eq_true hb))) turns T.sorted
theorem cntB_le (m v : Nat) : cntB rg m v ≤ rg.length := by
  have := List.countP_le_length (p := fun p => decide (num rg m p < v)) (l := List.range rg.length)
  rwa [List.length_range] at this
theorem turned_len (T : Turned rg turns) : turns.length = rg.length := by rw [T.perm.length_eq, List.length_range]
theorem row_iff (T : Turned rg turns) (m v r p : Nat) (hp : turns[r]? = some p) : r < cntB rg m v ↔ num rg m p < v := by
  have hrl : r < turns.length := (List.getElem?_eq_some_iff.mp hp).1
  have hpe : turns[r] = p := (List.getElem?_eq_some_iff.mp hp).2
  constructor
  · intro h
    have hm : p ∈ turns.take (cntB rg m v) := List.mem_iff_getElem?.mpr ⟨r, by rw [List.getElem?_take, if_pos h, hp]⟩
    rw [turned_take hr hn T] at hm
    exact of_decide_eq_true (List.mem_filter.mp hm).2
  · intro h
    unfold cntB
    rw [← T.perm.countP_eq]
    have hall : ∀ a ∈ turns.take (r + 1), decide (num rg m a < v) = true := by
      intro a ha
      obtain ⟨i, hi⟩ := List.mem_iff_getElem?.mp ha
      rw [List.getElem?_take] at hi
      split at hi
      · rename_i hir
        have hi2 := (List.getElem?_eq_some_iff.mp hi).2
        have hil := (List.getElem?_eq_some_iff.mp hi).1
        refine decide_eq_true (Nat.lt_of_le_of_lt ?_ h)
        rcases Nat.lt_or_ge i r with h1 | h1
        · have := List.pairwise_iff_getElem.mp T.sorted i r hil hrl h1
          rw [hi2, hpe] at this
          exact num_mono hr hn this m
        · obtain rfl : i = r := by omega
          rw [hp] at hi
          rw [Option.some.inj hi]; exact Nat.le_refl _
      · cases hi
    have h2 := List.countP_eq_length.mpr hall
    have h3 := (List.take_sublist (r + 1) turns).countP_le (p := fun p => decide (num rg m p < v))
    rw [h2, List.length_take] at h3
    omega
theorem end_turn (q : Nat) : endAt rg ((q + 1) % rg.length) = at' rg q := by
  unfold endAt
  refine at'_congr ?_
  rw [Nat.mod_add_mod]
  have : q + 1 + (rg.length - 1) = q + rg.length := by omega
  rw [this, Nat.add_mod_right]
theorem count_turn (f : Nat → Bool) : (List.range rg.length).countP f = (List.range rg.length).countP fun q => f ((q + 1) % rg.length) := by
  rw [← (turn_perm rg.length).countP_eq f, List.countP_map]; rfl
/-- from the rows below a number, a letter leads to the rows below that letter ahead of it -/
theorem ahead_cnt (T : Turned rg turns) (c m v : Nat) (hc : Fis c) (hv : v ≤ 64 ^ m) : ahead (endsOf rg turns) c (cntB rg m v) = cntB rg (m + 1) (dg c * 64 ^ m + v) := by
  unfold ahead endsOf
  rw [← List.map_take, turned_take hr hn T, List.countP_map, List.countP_map, List.countP_filter, T.perm.countP_eq, T.perm.countP_eq, count_turn hr hn, count_turn hr hn (fun a => _ && _), countP_or]
  · unfold cntB
    congr 1
    funext q
    have hq := at'_fis hr hn q
    simp only [Function.comp, end_turn hr hn, num_mod]
    rw [num_succ, Bool.eq_iff_iff]
    simp only [Bool.or_eq_true, Bool.and_eq_true, decide_eq_true_eq]
    rw [lex_le (num_lt hr hn m (q + 1)) hv, hq.dg_rk hc]
    constructor
    · rintro (h | ⟨h1, h2⟩)
      · exact .inl h
      · exact .inr ⟨by rw [hq.rk_inj hc h1], h2⟩
    · rintro (h | ⟨h1, h2⟩)
      · exact .inl h
      · exact .inr ⟨by rw [hq.dg_inj hc h1], h2⟩
  · intro a h1 h2
    simp only [Function.comp, decide_eq_true_eq, Bool.and_eq_true] at h1 h2
    omega
theorem ahead_low (T : Turned rg turns) (c : Nat) (P : List Nat) (hc : Fis c) (hP : AllFis P) : ahead (endsOf rg turns) c (lowOf rg P) = lowOf rg (c :: P) := by
  unfold lowOf
  rw [ahead_cnt hr hn T c _ _ hc (Nat.le_of_lt (valL_lt P hP))]; rfl
theorem ahead_high (T : Turned rg turns) (c : Nat) (P : List Nat) (hc : Fis c) (hP : AllFis P) : ahead (endsOf rg turns) c (highOf rg P) = highOf rg (c :: P) := by
  unfold highOf
  rw [ahead_cnt hr hn T c _ _ hc (valL_lt P hP)]; rfl
theorem low_nil : lowOf rg [] = 0 := by
  unfold lowOf cntB
  exact List.countP_eq_zero.mpr fun a _ h => by simp [valL] at h
theorem high_nil : highOf rg [] = rg.length := by
  unfold highOf cntB
  rw [List.countP_eq_length.mpr, List.length_range]
  intro a _
  exact decide_eq_true (by show num rg 0 a < 1; exact Nat.lt_succ_self 0)
/-- between the two rows lie just the turns that begin with the letters -/
theorem cut_perm (T : Turned rg turns) (P : List Nat) (hP : AllFis P) :
    lowOf rg P ≤ highOf rg P ∧ ((turns.take (highOf rg P)).drop (lowOf rg P)).Perm ((List.range rg.length).filter fun p => decide (win rg P.length p = P)) := by
  have hle : lowOf rg P ≤ highOf rg P := by
    unfold lowOf highOf cntB
    exact List.countP_mono_left fun a _ h => decide_eq_true (by have := of_decide_eq_true h; omega)
  refine ⟨hle, ?_⟩
  have e1 : turns.take (highOf rg P) = turns.take (lowOf rg P) ++ (turns.take (highOf rg P)).drop (lowOf rg P) := by
    conv => lhs; rw [← List.take_append_drop (lowOf rg P) (turns.take (highOf rg P))]
    rw [List.take_take, Nat.min_eq_left hle]
  have e2 := turned_take hr hn T P.length (valL P)
  have e3 := turned_take hr hn T P.length (valL P + 1)
  have p1 := filter_split (fun p => num rg P.length p) (valL P) turns
  change turns.take (lowOf rg P) = _ at e2
  change turns.take (highOf rg P) = _ at e3
  rw [← e2, ← e3, e1] at p1
  have p2 := (List.perm_append_left_iff _).mp p1
  refine p2.trans ((T.perm.filter _).trans ?_)
  rw [show (fun p => decide (num rg P.length p = valL P)) = fun p => decide (win rg P.length p = P) from by
    funext p; rw [Bool.eq_iff_iff, decide_eq_true_eq, decide_eq_true_eq]; exact num_eq_iff hr hn P.length p P hP rfl]
/-- a row's last letter leads to the row of the turn begun at it -/
theorem ahead_row (T : Turned rg turns) (r p : Nat) (hp : turns[r]? = some p) :
    ∃ p', turns[ahead (endsOf rg turns) (endAt rg p) r]? = some p' ∧ win rg rg.length p' = win rg rg.length (p + (rg.length - 1)) := by
  have hc : Fis (endAt rg p) := at'_fis hr hn _
  have hv := num_lt hr hn rg.length p
  have hrl : r < turns.length := (List.getElem?_eq_some_iff.mp hp).1
  have h1 : cntB rg rg.length (num rg rg.length p) ≤ r := by
    have := row_iff hr hn T rg.length (num rg rg.length p) r p hp
    rcases Nat.lt_or_ge r (cntB rg rg.length (num rg rg.length p)) with h | h
    · exact absurd (this.mp h) (Nat.lt_irrefl _)
    · exact h
  have h2 : r < cntB rg rg.length (num rg rg.length p + 1) := (row_iff hr hn T rg.length (num rg rg.length p + 1) r p hp).mpr (Nat.lt_succ_self _)
  have a1 := ahead_cnt hr hn T (endAt rg p) rg.length (num rg rg.length p) hc (Nat.le_of_lt hv)
  have a2 := ahead_cnt hr hn T (endAt rg p) rg.length (num rg rg.length p + 1) hc hv
  have mono : ∀ i j, i ≤ j → ((endsOf rg turns).take i).countP (fun d => decide (rk d = rk (endAt rg p))) ≤ ((endsOf rg turns).take j).countP (fun d => decide (rk d = rk (endAt rg p))) := by
    intro i j hij
    have : (endsOf rg turns).take i = ((endsOf rg turns).take j).take i := by rw [List.take_take, Nat.min_eq_left hij]
    rw [this]
    exact (List.take_sublist _ _).countP_le
  have b1 : cntB rg (rg.length + 1) (dg (endAt rg p) * 64 ^ rg.length + num rg rg.length p) ≤ ahead (endsOf rg turns) (endAt rg p) r := by
    rw [← a1]; unfold ahead; have := mono _ _ h1; omega
  have b2 : ahead (endsOf rg turns) (endAt rg p) r < cntB rg (rg.length + 1) (dg (endAt rg p) * 64 ^ rg.length + (num rg rg.length p + 1)) := by
    rw [← a2]; unfold ahead
    have m1 := mono (r + 1) _ h2
    have : ((endsOf rg turns).take (r + 1)).countP (fun d => decide (rk d = rk (endAt rg p))) = ((endsOf rg turns).take r).countP (fun d => decide (rk d = rk (endAt rg p))) + 1 := by
      have hg : (endsOf rg turns)[r]? = some (endAt rg p) := by unfold endsOf; rw [List.getElem?_map, hp]; rfl
      rw [List.take_add_one, hg, List.countP_append]
      simp
    omega
  generalize hr' : ahead (endsOf rg turns) (endAt rg p) r = r' at *
  have hr'l : r' < turns.length := by
    have := cntB_le hr hn (rg.length + 1) (dg (endAt rg p) * 64 ^ rg.length + (num rg rg.length p + 1))
    rw [turned_len hr hn T]; omega
  refine ⟨turns[r'], List.getElem?_eq_getElem hr'l, ?_⟩
  have i1 := row_iff hr hn T (rg.length + 1) (dg (endAt rg p) * 64 ^ rg.length + num rg rg.length p) r' _ (List.getElem?_eq_getElem hr'l)
  have i2 := (row_iff hr hn T (rg.length + 1) (dg (endAt rg p) * 64 ^ rg.length + (num rg rg.length p + 1)) r' _ (List.getElem?_eq_getElem hr'l)).mp b2
  have i3 : ¬ num rg (rg.length + 1) turns[r'] < dg (endAt rg p) * 64 ^ rg.length + num rg rg.length p := fun h => by have := i1.mpr h; omega
  have hv2 : num rg (rg.length + 1) turns[r'] = valL (endAt rg p :: win rg rg.length p) := by
    rw [valL, win_length]
    show _ = dg (endAt rg p) * 64 ^ rg.length + num rg rg.length p
    omega
  have hw := (num_eq_iff hr hn (rg.length + 1) turns[r'] (endAt rg p :: win rg rg.length p) (by
    intro d hd
    rcases List.mem_cons.mp hd with rfl | hd
    · exact hc
    · exact win_fis hr hn _ _ d hd) (by simp [win_length])).mp hv2
  have hw2 : win rg (rg.length + 1) (p + (rg.length - 1)) = endAt rg p :: win rg rg.length p := by
    rw [win]
    show endAt rg p :: _ = _
    congr 1
    have : p + (rg.length - 1) + 1 = p + rg.length := by omega
    rw [this, ← win_mod, Nat.add_mod_right, win_mod]
  rw [← hw2, win_add, win_add] at hw
  exact (List.append_inj hw (by rw [win_length, win_length])).1
end
end Mine
end

-- part P4
section
set_option maxRecDepth 100000
namespace Mine
open PySem
theorem shown_ok : (shown1 ++ shown2).all (fun p => !(b1L.contains p.1) && decide (mapped p.1.toNat = p.2) && p.2.cps.toList.all (fun c => c == 102 || c == 105 || c == 115) && decide (1 ≤ p.2.length) && decide (p.2.length ≤ 3) && decide (0 ≤ p.1)) = true := by decide +kernel
theorem unseen_ok : unseenL.all (fun c => b1L.contains c && decide (0 ≤ c)) = true := by decide +kernel
/-- a sign, and the letters that it is prepared to -/
structure Good (d : Int × Str) : Prop where
  nonneg : 0 ≤ d.1
  fis : ∀ c ∈ d.2.cps.toList, Fis c
  few : d.2.length ≤ 3
  step : (d.1 ∈ b1L ∧ d.2 = Str.ofString "") ∨ (d.1 ∉ b1L ∧ mapped d.1.toNat = d.2 ∧ 1 ≤ d.2.length)
theorem good_shown {d : Int × Str} (h : d ∈ shown1 ++ shown2) : Good d ∧ 1 ≤ d.2.length := by
  have := List.all_eq_true.mp shown_ok d h
  simp only [Bool.and_eq_true, Bool.not_eq_true', decide_eq_true_eq] at this
  obtain ⟨⟨⟨⟨⟨a, b⟩, c⟩, e⟩, f⟩, g⟩ := this
  refine ⟨⟨g, fun x hx => ?_, f, .inr ⟨fun q => ?_, b, e⟩⟩, e⟩
  · have := List.all_eq_true.mp c x hx
    simp only [Bool.or_eq_true, beq_iff_eq] at this
    rcases this with (h | h) | h
    · exact .inl h
    · exact .inr (.inl h)
    · exact .inr (.inr h)
  · rw [List.contains_iff_mem.mpr q] at a; cases a
theorem good_unseen {c : Int} (h : c ∈ unseenL) : Good (c, Str.ofString "") := by
  have := List.all_eq_true.mp unseen_ok c h
  simp only [Bool.and_eq_true, decide_eq_true_eq] at this
  exact ⟨this.2, by simp [show (Str.ofString "").cps = #[] from rfl], (show (Str.ofString "").length ≤ 3 by decide), .inl ⟨List.contains_iff_mem.mp this.1, rfl⟩⟩
theorem good_sign (x kd : Int) (hk : kd = 13 ∨ kd = 14) : Good (signOf x kd) ∧ (kd = 13 → 1 ≤ (signOf x kd).2.length) := by
  have h1 := Int.fmod_nonneg_of_pos x (b := kd) (by omega)
  have h2 := Int.fmod_lt_of_pos x (b := kd) (by omega)
  unfold signOf
  by_cases h : x.fmod kd = 13
  · rw [if_pos h]
    refine ⟨good_unseen ?_, fun q => by omega⟩
    have a1 := Int.fmod_nonneg_of_pos (x.fdiv 14) (b := 27) (by decide)
    have a2 := Int.fmod_lt_of_pos (x.fdiv 14) (b := 27) (by decide)
    rw [List.getD_eq_getElem?_getD, List.getElem?_eq_getElem (show ((x.fdiv 14).fmod 27).toNat < unseenL.length by show _ < 27; omega)]
    exact List.getElem_mem _
  · rw [if_neg h]
    rw [List.getD_eq_getElem?_getD, List.getElem?_eq_getElem (show (x.fmod kd).toNat < (shown1 ++ shown2).length by show _ < 13; omega)]
    have := good_shown (List.getElem_mem (l := shown1 ++ shown2) (n := (x.fmod kd).toNat) (by show _ < 13; omega))
    exact ⟨this.1, fun _ => this.2⟩
/-- the letters of signs in a row -/
def lettersL (ds : List (Int × Str)) : List Nat := ds.flatMap fun d => d.2.cps.toList
theorem prep_fold : ∀ (ds : List (Int × Str)) (k : List Nat), (∀ d ∈ ds, Good d) → (ds.map fun d => d.1.toNat).foldl prepStep ⟨k.toArray⟩ = ⟨(k ++ lettersL ds).toArray⟩
  | [], k, _ => by simp [lettersL]
  | d :: ds, k, h => by
    have hd := h d (by simp)
    have e0 : ((d.1.toNat : Nat) : Int) = d.1 := Int.toNat_of_nonneg hd.nonneg
    have es : prepStep ⟨k.toArray⟩ d.1.toNat = ⟨(k ++ d.2.cps.toList).toArray⟩ := by
      unfold prepStep
      rw [e0]
      rcases hd.step with ⟨a, b⟩ | ⟨a, b, _⟩
      · rw [if_pos a, b]
        simp [show (Str.ofString "").cps = #[] from rfl]
      · rw [if_neg a, b]
        apply Str.ext'
        rw [Str.cps_append]
        apply Array.toList_inj.mp
        simp
    rw [List.map_cons, List.foldl_cons, es, prep_fold ds _ fun d hd => h d (by simp [hd])]
    simp [lettersL]
theorem prep_letters (ds : List (Int × Str)) (h : ∀ d ∈ ds, Good d) : prepOf (ds.map fun d => d.1.toNat) = ⟨(lettersL ds).toArray⟩ := by
  have := prep_fold ds [] h
  rw [List.nil_append] at this
  exact this
theorem join_letters (ds : List (Int × Str)) : Txt.join (Str.ofString "") (ds.map fun d => d.2) = ⟨(lettersL ds).toArray⟩ := by
  have := join_empty (ds.map fun d => d.2.cps.toList)
  rw [List.map_map] at this
  have e : (fun l => ({ cps := l.toArray } : Str)) ∘ (fun d : Int × Str => d.2.cps.toList) = fun d => d.2 := by
    funext d; apply Str.ext'; simp
  rw [e] at this
  rw [this]
  simp [lettersL, List.flatMap]
theorem letters_fis (ds : List (Int × Str)) (h : ∀ d ∈ ds, Good d) : AllFis (lettersL ds) := by
  intro c hc
  obtain ⟨d, hd, hc⟩ := List.mem_flatMap.mp hc
  exact (h d hd).fis c hc
theorem letters_few (ds : List (Int × Str)) (h : ∀ d ∈ ds, Good d) : (lettersL ds).length ≤ 3 * ds.length := by
  induction ds with
  | nil => simp [lettersL]
  | cons d ds ih =>
    have h1 := (h d (by simp)).few
    have h2 := ih fun e he => h e (by simp [he])
    unfold lettersL at *
    rw [List.flatMap_cons, List.length_append, List.length_cons]
    have : d.2.cps.toList.length = d.2.length := by simp [Str.length]
    omega
end Mine
end

-- part V5
section
set_option maxRecDepth 100000
set_option maxHeartbeats 1000000
namespace Mine
open PySem PySem.W PySem.Calls PyProof.Rows
def d5 (ns : List Int) : List (Int × Str) := (List.range 5).map (drawL ns)
def d3 (ns : List Int) : List (Int × Str) := [drawL ns 5, drawL ns 6, drawL ns 7]
theorem draw_good (ns : List Int) (k : Nat) : Good (drawL ns k) := by
  unfold drawL
  split
  · exact (good_sign _ 13 (.inl rfl)).1
  · exact (good_sign _ 14 (.inr rfl)).1
theorem d5_good (ns : List Int) : ∀ d ∈ d5 ns, Good d := by
  intro d hd
  obtain ⟨k, _, rfl⟩ := List.mem_map.mp hd
  exact draw_good ns k
theorem d3_good (ns : List Int) : ∀ d ∈ d3 ns, Good d := by
  intro d hd
  simp only [d3, List.mem_cons, List.not_mem_nil, or_false] at hd
  rcases hd with rfl | rfl | rfl <;> exact draw_good ns _
/-- the ring's letters, the wanted ones -/
def ringL (ns : List Int) : List Nat := lettersL (d5 ns)
def wantL (ns : List Int) : List Nat := lettersL (d3 ns)
theorem ring_pos (ns : List Int) : 0 < (ringL ns).length := by
  unfold ringL lettersL d5
  rw [show List.range 5 = [0, 1, 2, 3, 4] by decide, List.map_cons, List.flatMap_cons, List.length_append]
  have : 1 ≤ (drawL ns 0).2.length := by
    unfold drawL
    rw [if_pos rfl]
    exact (good_sign _ 13 (.inl rfl)).2 rfl
  have e : (drawL ns 0).2.cps.toList.length = (drawL ns 0).2.length := by simp [Str.length]
  omega
theorem ring_fis (ns : List Int) : AllFis (ringL ns) := letters_fis _ (d5_good ns)
theorem want_fis (ns : List Int) : AllFis (wantL ns) := letters_fis _ (d3_good ns)
theorem ring_few (ns : List Int) : (ringL ns).length ≤ 15 := letters_few _ (d5_good ns)
theorem want_few (ns : List Int) : (wantL ns).length ≤ 9 := letters_few _ (d3_good ns)
theorem StrsAre.signs : ∀ {vs : List Value} {ds : List (Int × Str)}, StrsAre vs (ds.map fun d => (⟨#[d.1.toNat]⟩ : Str)) → SignsAre vs (ds.map fun d => d.1.toNat)
  | [], [], _ => .nil
  | [], _ :: _, h => by have := h.1; simp at this
  | _ :: _, [], h => by have := h.1; simp at this
  | v :: vs, d :: ds, h => by
    obtain ⟨t, e⟩ := h.2 0 _ rfl
    simp at e
    subst e
    exact .cons _ t (StrsAre.signs ⟨by have := h.1; simpa using this, fun k x hx => by
      obtain ⟨t, e⟩ := h.2 (k + 1) x (by simpa using hx)
      exact ⟨t, by simpa using e⟩⟩)
theorem StrsAre.values : ∀ {vs : List Value} {xs : List Str}, StrsAre vs xs → ∃ l : List (Str × Tok), vs = strValues l ∧ l.map (·.1) = xs
  | [], [], _ => ⟨[], rfl, rfl⟩
  | [], _ :: _, h => by have := h.1; simp at this
  | _ :: _, [], h => by have := h.1; simp at this
  | v :: vs, x :: xs, h => by
    obtain ⟨t, e⟩ := h.2 0 _ rfl
    simp at e
    subst e
    obtain ⟨l, e1, e2⟩ := StrsAre.values (vs := vs) (xs := xs) ⟨by have := h.1; simpa using this, fun k x hx => by
      obtain ⟨t, e⟩ := h.2 (k + 1) x (by simpa using hx)
      exact ⟨t, by simpa using e⟩⟩
    exact ⟨(x, t) :: l, by rw [e1]; rfl, by simp [e2]⟩
theorem mapped_few (d : Int × Str) (hd : Good d) : (mapped d.1.toNat).length ≤ 1000 := by
  unfold mapped
  cases h : b3of d.1.toNat with
  | none =>
    have hl := len_lower ⟨#[d.1.toNat]⟩
    have h3 : (Str.length ⟨#[d.1.toNat]⟩) = 1 := rfl
    rw [h3] at hl
    show (Txt.lower _).length ≤ 1000
    omega
  | some x =>
    unfold b3of at h
    rw [Option.map_eq_some_iff] at h
    obtain ⟨a, ha, rfl⟩ := h
    have hm := List.mem_of_find?_eq_some ha
    have key : b3.all (fun a => decide (a.2.length ≤ 1000)) = true := by decide +kernel
    exact of_decide_eq_true (List.all_eq_true.mp key a hm)
section
variable {X : Nat → Obj} {L : Life} {kvs : List (Int × Value)} {w : World} {h h' : Heap} {s : Shared} {A : Around} {E : Value → Shared → Prop} {env : Env}
theorem m_prep (X L w) : (H1 X L w).nsMap mainGlobals (Str.ofString "_law_prepared") = some (.ref 172) := by kernel_rfl
theorem slice_f {g : Heap} {vs : List (Str × Value)} {es : List Ent} {a : Addr} {xs : List Value} {x : Str} {k : Int} {kd : Nat} {p1 p2 p3 p4 : Pos} {Q : Value → Shared → Prop} {k' : Nat} (hk' : k = (k' : Nat)) (F : Lw g env.locals s.heap vs es) (hv : vs.lookup x = some (.ref a)) (hl : s.heap.IsList a xs.toArray)
    (hsz : xs.length ≤ 1000) (hkd : env.scope.kind = .function) (hloc : env.kindOf x = some .local) (hd : (x == ("__debug__" : Str)) = false)
    (hQ : ∀ h' l tk, (∀ b o, s.heap.get? b = some o → h'.get? b = some o) → s.heap.get? l = none → h'.PlainList l (xs.drop k').toArray → Q (.ref l) { s with heap := h', toks := tk }) :
    wpAny (model pw w) A (eval (.Subscript (.Name x p1) (.Slice (some (.Constant (.int k) kd p2)) none none p3) p4) env) Q E s := by
  refine wpAny_Subscript_list_slice (lf F hv (wpAny_Constant_int (i := k) (k := kd) (pos := p2) (wpAny_pure ⟨a, xs.toArray, some k, none, rfl, hl, by rw [sizeLine_eq, List.size_toArray]; omega, .int _ _, .none, ?_⟩)) hkd hloc hd)
  rw [hk', slicePick_from']
  refine hQ _ _ _ (fun b o e => Heap.get?_push_of_some _ (Heap.get?_push_of_some _ e)) (get_none_size (Nat.le_succ _)) ⟨0, ?_⟩
  have := Heap.get?_push_size (s.heap.push { cls := .type "slice", data := .fields #[.int (k' : Nat) s.toks, .none, .none] }) (o := { cls := .type "list", data := .seq (xs.toArray.toList.drop k').toArray }) rfl
  rw [Heap.size_push] at this
  simpa using this
theorem Drawn.take {g : Heap} {vs : List Value} {ds : List (Int × Str)} (R : Drawn g vs ds) (n : Nat) : Drawn g (vs.take n) (ds.take n) :=
  ⟨by rw [List.length_take, List.length_take, R.1], fun k d hd => by
    rw [List.getElem?_take] at hd
    split at hd
    · rename_i hk
      obtain ⟨t, u, v, e1, e2⟩ := R.2 k d hd
      exact ⟨t, u, v, by rw [List.getElem?_take, if_pos hk]; exact e1, e2⟩
    · cases hd⟩
theorem Drawn.drop {g : Heap} {vs : List Value} {ds : List (Int × Str)} (R : Drawn g vs ds) (n : Nat) : Drawn g (vs.drop n) (ds.drop n) :=
  ⟨by rw [List.length_drop, List.length_drop, R.1], fun k d hd => by
    rw [List.getElem?_drop] at hd
    obtain ⟨t, u, v, e1, e2⟩ := R.2 _ d hd
    exact ⟨t, u, v, by rw [List.getElem?_drop]; exact e1, e2⟩⟩
theorem eight_take (ns : List Int) : ((List.range 8).map (drawL ns)).take 5 = d5 ns := rfl
theorem eight_drop (ns : List Int) : ((List.range 8).map (drawL ns)).drop 5 = d3 ns := rfl
/-- the cells and lists up to drawn -/
abbrev esC (LL lN lD : Addr) (vN vD : List Value) (ring : Option Value) : List Ent := cellsE LL (some (.ref lN)) ring none none none none none ++ [.plain lN vN.toArray, .plain lD vD.toArray]
theorem stC {LL lN lD : Addr} {g : Heap} {vN vD : List Value} {ns : List Int} {Q : Flow → Shared → Prop} (B : Base X L kvs w g) (F : Lw g LL s.heap [(Str.ofString "drawn", .ref lD)] (esC LL lN lD vN vD none))
    (R : Drawn g vD ((List.range 8).map (drawL ns)))
    (next : ∀ h' tk tr tw, Lw g LL h' [(Str.ofString "wanted", .str ⟨(wantL ns).toArray⟩ tw), (Str.ofString "drawn", .ref lD)] (esC LL lN lD vN vD (some (.str ⟨(ringL ns).toArray⟩ tr))) → Goes w LL 5 Q { s with heap := h', toks := tk }) : Goes w LL 3 Q s := by
  have hD : ∀ b, False → (H1 X L w).get? b = none := fun b q => q.elim
  have hvD : vD.length = 8 := R.1
  have hdp := lawA_depth LL
  refine Goes.of (k := 3) rfl ?_
  refine wpAny_execs_cons ?_
  with_reducible refine wpAny_Assign_Name ?_ swap_call
  refine Call_Name1 (gname (F.base B hD) rfl (m_prep X L w) (callWith_fn1 (o := o172_p12 w.params) rfl ?_) rfl rfl)
  refine pick_comp (b := true) (lawA_handled LL) rfl (slice_k (k' := 5) rfl F rfl (F.at_ 8 rfl : Heap.PlainList _ _ _).isList (by omega) rfl rfl (by decide) fun h₁ l₁ tk₁ k₁ n₁ p₁ => ?_) rfl (by intro _; rfl)
  have F₁ := F.ext k₁
  refine ⟨l₁, vD.take 5, d5 ns, rfl, p₁.isList, ((R.keeps F₁.kept).take 5), by simp [d5], fun h₂ tk₂ D ys k₂ pD hy => ?_⟩
  have F₂ := F₁.ext k₂
  refine ⟨F₂.kept _ _ (B.keep _ _ (h1_o172 X L w)), ?_⟩
  refine prepared_ok (F₂.base B hD) (by omega) rfl pD.isList (StrsAre.signs hy) (by simp [d5]) ?_ fun h₃ tk₃ t₃ k₃ => ?_
  · intro c hc
    obtain ⟨d, hd, rfl⟩ := List.mem_map.mp hc
    exact mapped_few d (d5_good ns d hd)
  rw [prep_letters _ (d5_good ns)]
  have F₃ := F₂.ext k₃
  refine sc F₃ 1 rfl fun h₄ F₄ => ?_
  dsimp only
  refine wpAny_execs_cons ?_
  with_reducible refine wpAny_Assign_Name ?_ swap_call
  refine Call_Name1 (gname (F₄.base B hD) rfl (m_prep X L w) (callWith_fn1 (o := o172_p12 w.params) rfl ?_) rfl rfl)
  refine pick_comp (b := true) (lawA_handled LL) rfl (slice_f (k' := 5) rfl F₄ rfl (F₄.at_ 8 rfl : Heap.PlainList _ _ _).isList (by omega) rfl rfl (by decide) fun h₅ l₅ tk₅ k₅ n₅ p₅ => ?_) rfl (by intro _; rfl)
  have F₅ := F₄.ext k₅
  refine ⟨l₅, vD.drop 5, d3 ns, rfl, p₅.isList, ((R.keeps F₅.kept).drop 5), by simp [d3], fun h₆ tk₆ D ys k₆ pD hy => ?_⟩
  have F₆ := F₅.ext k₆
  refine ⟨F₆.kept _ _ (B.keep _ _ (h1_o172 X L w)), ?_⟩
  refine prepared_ok (F₆.base B hD) (by omega) rfl pD.isList (StrsAre.signs hy) (by simp [d3]) ?_ fun h₇ tk₇ t₇ k₇ => ?_
  · intro c hc
    obtain ⟨d, hd, rfl⟩ := List.mem_map.mp hc
    exact mapped_few d (d3_good ns d hd)
  rw [prep_letters _ (d3_good ns)]
  have F₇ := F₆.ext k₇
  refine sf F₇ fun h₈ F₈ => ?_
  dsimp only
  refine Goes.use (k := 5) ?_ ?_
  · exact next h₈ _ t₃ t₇ F₈
  · rfl
end
end Mine
end

-- part V6
section
set_option maxRecDepth 100000
set_option maxHeartbeats 1000000
namespace Mine
open PySem PySem.W PySem.Calls PyProof.Rows
theorem ds_form (ds : List (Int × Str)) : (ds.map fun d => d.2) = (ds.map fun d => d.2.cps.toList).map fun l => (⟨l.toArray⟩ : Str) := by
  rw [List.map_map]
  refine List.map_congr_left fun d _ => ?_
  apply Str.ext'; simp
theorem ds_join (ds : List (Int × Str)) (h : ∀ d ∈ ds, Good d) (hl : ds.length ≤ 10000) : JoinOk (Str.ofString "") (ds.map fun d => d.2) = true := by
  rw [ds_form]
  refine join_fits _ (by rw [List.length_map]; exact hl) ?_
  intro l hl
  obtain ⟨d, hd, rfl⟩ := List.mem_map.mp hl
  have := (h d hd).few
  have e : d.2.cps.toList.length = d.2.length := by simp [Str.length]
  omega
section
variable {X : Nat → Obj} {L : Life} {kvs : List (Int × Value)} {w : World} {h h' : Heap} {s : Shared} {A : Around} {E : Value → Shared → Prop} {env : Env}
theorem stD {LL lN lD : Addr} {g : Heap} {vN vD : List Value} {ns : List Int} {tr tw : Tok} {Q : Flow → Shared → Prop}
    (F : Lw g LL s.heap [(Str.ofString "wanted", .str ⟨(wantL ns).toArray⟩ tw), (Str.ofString "drawn", .ref lD)] (esC LL lN lD vN vD (some (.str ⟨(ringL ns).toArray⟩ tr))))
    (R : Drawn g vD ((List.range 8).map (drawL ns)))
    (next : ∀ h' tk, Lw g LL h' [(Str.ofString "wanted", .str ⟨(wantL ns).toArray⟩ tw), (Str.ofString "drawn", .ref lD)] (esC LL lN lD vN vD (some (.str ⟨(ringL ns).toArray⟩ tr))) → Goes w LL 7 Q { s with heap := h', toks := tk }) : Goes w LL 5 Q s := by
  have hvD : vD.length = 8 := R.1
  refine Goes.of (k := 5) rfl ?_
  refine wpAny_execs_cons ?_
  refine wpAny_If (wpAny_isTrue_Compare1 (lc F 1 rfl ?_))
  with_reducible refine Call_method1 ab_const ?_ ?_ ?_
  · rfl
  · rfl
  refine wpAny_mkText ?_
  refine SB.join ?_
  refine pick_comp (b := false) (lawA_handled LL) rfl (slice_k (k' := 5) rfl F rfl (F.at_ 8 rfl : Heap.PlainList _ _ _).isList (by omega) rfl rfl (by decide) fun h₁ l₁ tk₁ k₁ n₁ p₁ => ?_) rfl (by intro _; rfl)
  have F₁ := F.ext k₁
  refine ⟨l₁, vD.take 5, d5 ns, rfl, p₁.isList, ((R.keeps F₁.kept).take 5), by simp [d5], fun h₂ tk₂ D ys k₂ pD hy => ?_⟩
  have F₂ := F₁.ext k₂
  obtain ⟨l, e1, e2⟩ := StrsAre.values hy
  refine ⟨D, l, rfl, by rw [← e1]; exact pD.isList, _, e2, ds_join _ (d5_good ns) (by simp [d5]), fun t' k => ?_⟩
  rw [show ((d5 ns).map fun d => if false = true then (⟨#[d.1.toNat]⟩ : Str) else d.2) = (d5 ns).map fun d => d.2 from rfl, join_letters]
  refine PyProof.Rows.ne_str (wpAny_truthy_bool ?_)
  rw [if_neg (by unfold ringL; simp)]
  refine wpAny_execs_nil ?_
  dsimp only
  refine wpAny_execs_cons ?_
  refine wpAny_If (wpAny_isTrue_Compare1 (lf F₂ rfl ?_))
  with_reducible refine Call_method1 ab_const ?_ ?_ ?_
  · rfl
  · rfl
  refine wpAny_mkText ?_
  refine SB.join ?_
  refine pick_comp (b := false) (lawA_handled LL) rfl (slice_f (k' := 5) rfl F₂ rfl (F₂.at_ 8 rfl : Heap.PlainList _ _ _).isList (by omega) rfl rfl (by decide) fun h₃ l₃ tk₃ k₃ n₃ p₃ => ?_) rfl (by intro _; rfl)
  have F₃ := F₂.ext k₃
  refine ⟨l₃, vD.drop 5, d3 ns, rfl, p₃.isList, ((R.keeps F₃.kept).drop 5), by simp [d3], fun h₄ tk₄ D' ys' k₄ pD' hy' => ?_⟩
  have F₄ := F₃.ext k₄
  obtain ⟨l', e1', e2'⟩ := StrsAre.values hy'
  refine ⟨D', l', rfl, by rw [← e1']; exact pD'.isList, _, e2', ds_join _ (d3_good ns) (by simp [d3]), fun t'' k' => ?_⟩
  rw [show ((d3 ns).map fun d => if false = true then (⟨#[d.1.toNat]⟩ : Str) else d.2) = (d3 ns).map fun d => d.2 from rfl, join_letters]
  refine PyProof.Rows.ne_str (wpAny_truthy_bool ?_)
  rw [if_neg (by unfold wantL; simp)]
  refine wpAny_execs_nil ?_
  dsimp only
  refine Goes.use (k := 7) ?_ ?_
  · exact next _ _ F₄
  · rfl
/-- size, and an empty tape -/
theorem stE {LL lN lD : Addr} {g : Heap} {vN vD : List Value} {ns : List Int} {tr tw : Tok} {Q : Flow → Shared → Prop} (B : Base X L kvs w g)
    (F : Lw g LL s.heap [(Str.ofString "wanted", .str ⟨(wantL ns).toArray⟩ tw), (Str.ofString "drawn", .ref lD)] (esC LL lN lD vN vD (some (.str ⟨(ringL ns).toArray⟩ tr))))
    (next : ∀ h' tk ts lT, Lw g LL h' [(Str.ofString "size", .int ((ringL ns).length : Nat) ts), (Str.ofString "wanted", .str ⟨(wantL ns).toArray⟩ tw)]
      (cellsE LL (some (.ref lN)) (some (.str ⟨(ringL ns).toArray⟩ tr)) (some (.ref lT)) none none none none ++ [.plain lN vN.toArray, .plain lT #[]]) → Goes w LL 9 Q { s with heap := h', toks := tk }) : Goes w LL 7 Q s := by
  have hD : ∀ b, False → (H1 X L w).get? b = none := fun b q => q.elim
  have hrf := ring_few ns
  refine Goes.of (k := 7) rfl ?_
  refine wpAny_execs_cons ?_
  with_reducible refine wpAny_Assign_Name ?_ swap_call
  refine Call_Name1 (bname (F.base B hD) rfl rfl (m_len X L w) (b_len X L w) (callWith_builtin1 (lc F 1 rfl ?_)) rfl rfl)
  refine PyProof.Rows.len_str (by simp [Str.length]; omega) ?_
  refine sf F fun h₁ F₁ => ?_
  dsimp only
  refine wpAny_execs_cons ?_
  with_reducible refine wpAny_Assign_Name ?_ swap_list
  with_reducible refine List_ ?_
  refine Calls.spliced_nil ?_
  refine newList_f F₁ (Nat.zero_le _) fun h₂ lT F₂ _ _ => ?_
  refine sc F₂ 2 rfl fun h₃ F₃ => ?_
  dsimp only
  refine Goes.use (k := 9) ?_ ?_
  · exact next h₃ _ _ lT (Lf.fewer (F₃.drop 8) ⟨by simp [Str.length]; rfl, rfl, trivial⟩)
  · rfl
end
end Mine
end

-- part V7
section
set_option maxRecDepth 100000
set_option maxHeartbeats 1000000
namespace Mine
open PySem PySem.W PySem.Calls PyProof.Rows
section
variable {X : Nat → Obj} {L : Life} {kvs : List (Int × Value)} {w : World} {h h' : Heap} {s : Shared} {A : Around} {E : Value → Shared → Prop} {env : Env}
theorem keptOf (g : Heap) : KeptH (fun h => ∀ b o, g.get? b = some o → h.get? b = some o) := fun _ _ a b o e => Heap.get?_push_of_some _ (a b o e)
theorem sl_to {value e : Expr} {p pos : Pos} {Q : Value → Shared → Prop}
    (he : wpAny (model pw w) A (eval value env) (fun o s₁ => ∃ (l : List Nat) (t : Tok), o = .str ⟨l.toArray⟩ t ∧ l.length ≤ 10000 ∧ wpAny (model pw w) A (eval e env) (fun v s₂ => ∃ (j : Nat) (u : Tok), v = .int (j : Nat) u ∧ j ≤ l.length ∧
      ∀ h' t' k, (∀ b o, s₂.heap.get? b = some o → h'.get? b = some o) → Q (.str ⟨(l.take j).toArray⟩ t') { s₂ with heap := h', toks := k }) E s₁) E s)
    (ht : ∀ o r, letTemporaryGo value o r = pure ()) :
    wpAny (model pw w) A (eval (.Subscript value (.Slice none (some e) none p) pos) env) Q E s := by
  refine PySem.Subscript_Slice (wpAny_mono he (fun o s₁ h₁ => ?_) fun _ _ e => e) ht
  obtain ⟨l, t, rfl, hl, h₁⟩ := h₁
  refine wpAny_Slice (wpAny_pure (wpAny_mono h₁ (fun v s₂ h₂ => ?_) fun _ _ e => e))
  obtain ⟨j, u, rfl, hj, hQ⟩ := h₂
  refine wpAny_pure (SBH.sliceItem_ns (keptOf s₂.heap) (fun b o e => e) (fun h' t' k a => ?_) (by rw [sizeLine_eq]; simp [Str.length]; omega))
  have e1 : Txt.slice (⟨l.toArray⟩ : Str) none (some (j : Int)) = ⟨(l.take j).toArray⟩ := by
    show StrLaws.sliceText _ _ _ = _
    rw [StrLaws.sliceText_to (by simp; omega)]
    simp
  rw [e1]
  exact hQ h' t' k a
theorem sl_from {value e : Expr} {p pos : Pos} {Q : Value → Shared → Prop}
    (he : wpAny (model pw w) A (eval value env) (fun o s₁ => ∃ (l : List Nat) (t : Tok), o = .str ⟨l.toArray⟩ t ∧ l.length ≤ 10000 ∧ wpAny (model pw w) A (eval e env) (fun v s₂ => ∃ (j : Nat) (u : Tok), v = .int (j : Nat) u ∧ j ≤ l.length ∧
      ∀ h' t' k, (∀ b o, s₂.heap.get? b = some o → h'.get? b = some o) → Q (.str ⟨(l.drop j).toArray⟩ t') { s₂ with heap := h', toks := k }) E s₁) E s)
    (ht : ∀ o r, letTemporaryGo value o r = pure ()) :
    wpAny (model pw w) A (eval (.Subscript value (.Slice (some e) none none p) pos) env) Q E s := by
  refine PySem.Subscript_Slice (wpAny_mono he (fun o s₁ h₁ => ?_) fun _ _ e => e) ht
  obtain ⟨l, t, rfl, hl, h₁⟩ := h₁
  refine wpAny_Slice (wpAny_mono h₁ (fun v s₂ h₂ => ?_) fun _ _ e => e)
  obtain ⟨j, u, rfl, hj, hQ⟩ := h₂
  refine wpAny_pure (wpAny_pure (SBH.sliceItem_sn (keptOf s₂.heap) (fun b o e => e) (fun h' t' k a => ?_) (by rw [sizeLine_eq]; simp [Str.length]; omega)))
  have e1 : Txt.slice (⟨l.toArray⟩ : Str) (some (j : Int)) none = ⟨(l.drop j).toArray⟩ := by
    show StrLaws.sliceText _ _ _ = _
    rw [StrLaws.sliceText_from (by simp; omega)]
    simp only [Int.toNat_natCast]
    rw [List.take_of_length_le]
    simp
  rw [e1]
  exact hQ h' t' k a
theorem sl_ss {value e e' : Expr} {p pos : Pos} {Q : Value → Shared → Prop}
    (he : wpAny (model pw w) A (eval value env) (fun o s₁ => ∃ (l : List Nat) (t : Tok), o = .str ⟨l.toArray⟩ t ∧ l.length ≤ 10000 ∧ wpAny (model pw w) A (eval e env) (fun v s₂ => ∃ (i : Nat) (u : Tok), v = .int (i : Nat) u ∧ wpAny (model pw w) A (eval e' env) (fun v s₃ => ∃ (j : Nat) (u : Tok), v = .int (j : Nat) u ∧ i ≤ j ∧ j ≤ l.length ∧
      ∀ h' t' k, (∀ b o, s₃.heap.get? b = some o → h'.get? b = some o) → Q (.str ⟨((l.drop i).take (j - i)).toArray⟩ t') { s₃ with heap := h', toks := k }) E s₂) E s₁) E s)
    (ht : ∀ o r, letTemporaryGo value o r = pure ()) :
    wpAny (model pw w) A (eval (.Subscript value (.Slice (some e) (some e') none p) pos) env) Q E s := by
  refine PySem.Subscript_Slice (wpAny_mono he (fun o s₁ h₁ => ?_) fun _ _ e => e) ht
  obtain ⟨l, t, rfl, hl, h₁⟩ := h₁
  refine wpAny_Slice (wpAny_mono h₁ (fun v s₂ h₂ => ?_) fun _ _ e => e)
  obtain ⟨i, u, rfl, h₂⟩ := h₂
  refine wpAny_mono h₂ (fun v s₃ h₃ => ?_) fun _ _ e => e
  obtain ⟨j, u', rfl, hij, hj, hQ⟩ := h₃
  refine wpAny_pure (SBH.sliceItem_ss (keptOf s₃.heap) (fun b o e => e) (fun h' t' k a => ?_) (by rw [sizeLine_eq]; simp [Str.length]; omega))
  have e1 : Txt.slice (⟨l.toArray⟩ : Str) (some (i : Int)) (some (j : Int)) = ⟨((l.drop i).take (j - i)).toArray⟩ := by
    show StrLaws.sliceText _ _ _ = _
    rw [StrLaws.sliceText_nat _ hij (by simp [Str.length]; omega)]
  rw [e1]
  exact hQ h' t' k a
theorem str_app (a b : List Nat) : (⟨a.toArray⟩ : Str) ++ ⟨b.toArray⟩ = ⟨(a ++ b).toArray⟩ := by
  apply Str.ext'; rw [Str.cps_append]; simp
/-- the turn begun at a place -/
def rotL (rg : List Nat) (p : Nat) : List Nat := rg.drop p ++ rg.take p
theorem rotL_length (rg : List Nat) (p : Nat) (h : p ≤ rg.length) : (rotL rg p).length = rg.length := by
  unfold rotL; rw [List.length_append, List.length_drop, List.length_take]; omega
/-- ring[place:] + ring[:place] -/
theorem rot_eval {g : Heap} {vs : List (Str × Value)} {es : List Ent} {rg : List Nat} {p : Nat} {tr tp : Tok} {pl : Str} {p1 p2 p3 p4 p5 p6 p7 p8 p9 : Pos} {c : Addr} {Q : Value → Shared → Prop} (F : Lw g env.locals s.heap vs es) (i : Nat) (hi : es[i]? = some (.cell c (some (.str ⟨rg.toArray⟩ tr))))
    (hv : vs.lookup pl = some (.int (p : Nat) tp)) (hp : p ≤ rg.length) (hr : rg.length ≤ 1000)
    (hkd : env.scope.kind = .function) (hcell : env.kindOf (Str.ofString "ring") = some .cell) (hc : env.cells.lookup (Str.ofString "ring") = some c) (hloc : env.kindOf pl = some .local) (hd : (pl == ("__debug__" : Str)) = false)
    (hQ : ∀ h' t' k, (∀ b o, s.heap.get? b = some o → h'.get? b = some o) → Q (.str ⟨(rotL rg p).toArray⟩ t') { s with heap := h', toks := k }) :
    wpAny (model pw w) A (eval (.BinOp (.Subscript (.Name (Str.ofString "ring") p1) (.Slice (some (.Name pl p2)) none none p3) p4) .Add (.Subscript (.Name (Str.ofString "ring") p5) (.Slice none (some (.Name pl p6)) none p7) p8) p9) env) Q E s := by
  refine wpAny_BinOp (sl_from (lc F i hi ⟨rg, tr, rfl, by omega, lf F hv ⟨p, tp, rfl, hp, fun h₁ t₁ k₁ kp₁ => ?_⟩ hkd hloc hd⟩ hkd hcell hc) (by intro _ _; rfl))
  have F₁ := F.ext kp₁
  refine sl_to (lc F₁ i hi ⟨rg, tr, rfl, by omega, lf F₁ hv ⟨p, tp, rfl, hp, fun h₂ t₂ k₂ kp₂ => ?_⟩ hkd hloc hd⟩ hkd hcell hc) (by intro _ _; rfl)
  refine PyProof.Rows.add_str (fun t₃ tk₃ => ?_) (by rw [sizeLine_eq]; simp [Str.length]; omega)
  rw [str_app]
  exact hQ _ _ _ fun b o e => kp₂ _ _ (kp₁ _ _ e)
/-- [ord(letter) for letter in ..] -/
theorem ord_comp {iter : Expr} {p1 p2 p3 p4 pos : Pos} {scope : Scope} (B : Base X L kvs w s.heap) (hA : A.handled = none) (hsc : scope = { kind := .function, names := [(Str.ofString ".0", .local), (Str.ofString "letter", .local), (Str.ofString "ord", .globalImplicit)], isGenerator := false, isCoroutine := false, more := [] })
    {x : Str} {py spos : Pos} {Qf : Flow → Shared → Prop} (hsw : swapsWith (.ListComp (.Call (.Name (Str.ofString "ord") p1) [.Name (Str.ofString "letter") p2] [] p3) [⟨.Name (Str.ofString "letter") p4, iter, [], 0⟩] scope pos) (some (.Name x py)) spos.line env = pure true)
    (hiter : wpAny (model pw w) A (eval iter env) (fun xv s₁ => ∃ (l : List Nat) (t : Tok), xv = .str ⟨l.toArray⟩ t ∧ AllFis l ∧ l.length ≤ 1000 ∧ (∀ b o, s.heap.get? b = some o → s₁.heap.get? b = some o) ∧
      ∀ h' tk D C ys, (∀ b o, s₁.heap.get? b = some o → h'.get? b = some o) → s₁.heap.get? D = none → s₁.heap.get? C = none → D ≠ C → h'.PlainList D ys.toArray → (∃ m, h'.Ns C m) → IntsAre ys (l.map fun c : Nat => (c : Int)) →
        wpAny (model pw w) A (assign (.Name x py) env (.ref D)) (fun _ s'' => ∃ m, s''.heap.Ns C m ∧ ∀ h', Heap.SameBut C s''.heap h' → Qf .next { s'' with heap := h' }) E { s₁ with heap := h', toks := tk }) E s)
    (hclos : closureFor scope env = pure []) (hs : ∀ x, foldedSetIterable iter env x = pure x) (hg : env.globals = mainGlobals) (hb : env.builtins = builtinsNs) :
    wpAny (model pw w) A (exec (.Assign [.Name x py] (.ListComp (.Call (.Name (Str.ofString "ord") p1) [.Name (Str.ofString "letter") p2] [] p3) [⟨.Name (Str.ofString "letter") p4, iter, [], 0⟩] scope pos) spos) env) Qf E s := by
  subst hsc
  refine Assign_ListComp_ask hsw hclos (by decide) rfl (by decide) (wpAny_mono hiter (fun xv s₁ h₁ => ?_) fun _ _ e => e) hs
  obtain ⟨l, t, rfl, hf, hlen, kB, hQ⟩ := h₁
  have B₁ := B.mono kB
  have hasc : (l.toArray).all (· < 128) = true := by
    rw [Array.all_eq_true]
    intro i hi
    have := hf _ (List.getElem_mem (l := l) (n := i) (by simpa using hi))
    rcases this with h | h | h <;> simp [h]
  refine wpAny_pyIter_ascii hasc ?_
  have W := Walks.strAscii (prog := pw) (w := w) (A := A) hA s₁.heap.objs.size ⟨l.toArray⟩ t
  have k₁ : ∀ b o, s₁.heap.get? b = some o → (s₁.heap.push { cls := .type "str_ascii_iterator", data := .fields #[.str ⟨l.toArray⟩ t, .int 0 0] }).get? b = some o := fun b o e => Heap.get?_push_of_some _ e
  refine ⟨s₁.heap.objs.size, _, _, _, _, _, fun D C i ys s' => s₁.heap.get? D = none ∧ s₁.heap.get? C = none ∧ D ≠ C ∧ ∃ h' tk vv, s' = { s₁ with heap := h', toks := tk } ∧ Lw s₁.heap C h' vv [.sit s₁.heap.objs.size ⟨l.toArray⟩ t i, .plain D ys.toArray] ∧
    IntsAre ys ((l.take i).map fun c : Nat => (c : Int)), rfl, W, by rw [sizeLine_eq]; simp; omega, fun _ _ _ _ _ _ _ _ hq => wpAny_pure hq, ?_, ?_, ?_, ?_⟩
  · rintro D C i ys s' ⟨_, _, _, h', tk, vv, rfl, G, R⟩
    exact G.at_ 0 rfl
  · intro D C h₁ m tk hDC hnD hnC k₂ pD nC
    have g0 : ∀ a, (s₁.heap.push { cls := .type "str_ascii_iterator", data := .fields #[.str ⟨l.toArray⟩ t, .int 0 0] }).get? a = none → s₁.heap.get? a = none := fun a ha => by
      cases q : s₁.heap.get? a with
      | none => rfl
      | some o => rw [k₁ _ _ q] at ha; cases ha
    exact ⟨g0 _ hnD, g0 _ hnC, hDC, h₁, tk, [], rfl, Lf.enter k₁ (it := .sit s₁.heap.objs.size ⟨l.toArray⟩ t 0) ⟨_, Heap.get?_push_size _ rfl, rfl, rfl⟩ (get_none_size (Nat.le_refl _)) k₂ hnD hnC hDC pD nC, .nil⟩
  · rintro D C i ys s' v h' tk E' hil hyl ⟨q1, q2, q3, h₂, tk₂, vv, rfl, G, R⟩ ⟨c, u, hc, rfl⟩ hS hkeep
    have G := G.but (h' := h') 0 (.sit s₁.heap.objs.size ⟨l.toArray⟩ t (i + 1)) rfl rfl (fun b o hb e => hkeep b o (fun q => hb (List.mem_singleton.mp q)) e) hS
    have hc' : l[i]? = some c := by simpa using hc
    refine assign_Name (sf G fun h₃ G₃ => ?_)
    dsimp only
    refine wpAny_pure ?_
    rw [if_pos rfl]
    have B₃ : Base X L kvs w h₃ := B₁.mono G₃.kept
    refine Call_Name1 (bname B₃ hg hb (m_ord X L w) (b_ord X L w) (callWith_builtin1 (lf G₃ rfl (P.ord_of_char ?_))) rfl rfl)
    refine ⟨G₃.at_ 1 rfl, fun h₄ hl₄ hs₄ => ⟨q1, q2, q3, h₄, _, _, rfl, G₃.same 1 (.plain D (ys ++ [Value.int (c : Int) _]).toArray) rfl rfl hs₄ hl₄, ?_⟩⟩
    rw [List.take_add_one, hc', List.map_append]
    exact R.append (.cons _ _ .nil)
  · rintro D C ys s' h' tk hyl ⟨q1, q2, q3, h₂, tk₂, vv, rfl, G, R⟩ hkeep
    have G := G.lose (h' := h') 0 rfl fun b o hb e => hkeep b o (fun q => hb (List.mem_singleton.mp q)) e
    rw [show l.take (Array.size (⟨l.toArray⟩ : Str).cps) = l from by rw [show Array.size (⟨l.toArray⟩ : Str).cps = l.length from by simp, List.take_length]] at R
    exact hQ h' tk D C ys G.kept q1 q2 q3 (G.at_ 0 rfl) G.nsOf R
end
end Mine
end

-- part V8
section
set_option maxRecDepth 100000
set_option maxHeartbeats 1000000
namespace Mine
open PySem PySem.W PySem.Calls PyProof.Rows
/-- a turn's octets, its last letter 64 less -/
def octI (l : List Nat) : List Int := (l.map fun c : Nat => (c : Int)).set (l.length - 1) (((l.getD (l.length - 1) 0 : Nat) : Int) - 64)
def tapeI (rg : List Nat) (i : Nat) : List Int := (List.range i).flatMap fun p => octI (rotL rg p)
theorem octI_length (l : List Nat) : (octI l).length = l.length := by unfold octI; simp
theorem tapeI_length (rg : List Nat) : ∀ i, i ≤ rg.length → (tapeI rg i).length = i * rg.length
  | 0, _ => by simp [tapeI]
  | i + 1, h => by
    have ih := tapeI_length rg i (by omega)
    unfold tapeI at *
    rw [List.range_succ, List.flatMap_append, List.length_append, ih, List.flatMap_singleton, octI_length, rotL_length _ _ (by omega), Nat.succ_mul]
theorem rotL_fis {rg : List Nat} (h : AllFis rg) (p : Nat) : AllFis (rotL rg p) := by
  intro c hc
  rcases List.mem_append.mp hc with h1 | h1
  · exact h c (List.mem_of_mem_drop h1)
  · exact h c (List.mem_of_mem_take h1)
section
variable {X : Nat → Obj} {L : Life} {kvs : List (Int × Value)} {w : World} {h h' : Heap} {s : Shared}
abbrev vsE (rg wl : List Nat) (ts tw : Tok) : List (Str × Value) := [(Str.ofString "size", .int (rg.length : Nat) ts), (Str.ofString "wanted", .str ⟨wl.toArray⟩ tw)]
abbrev esE (LL lN lT : Addr) (vN vT : List Value) (rg : List Nat) (tr : Tok) : List Ent := cellsE LL (some (.ref lN)) (some (.str ⟨rg.toArray⟩ tr)) (some (.ref lT)) none none none none ++ [.plain lN vN.toArray, .plain lT vT.toArray]
theorem stF {LL lN lT : Addr} {g : Heap} {vN : List Value} {rg wl : List Nat} {tr ts tw : Tok} {Q : Flow → Shared → Prop} (B : Base X L kvs w g) (hr : AllFis rg) (hn : 0 < rg.length) (hf : rg.length ≤ 15)
    (F : Lw g LL s.heap (vsE rg wl ts tw) (esE LL lN lT vN [] rg tr))
    (next : ∀ h' tk vT, Lw g LL h' (vsE rg wl ts tw) (esE LL lN lT vN vT rg tr) → IntsAre vT (tapeI rg rg.length) → Goes w LL 10 Q { s with heap := h', toks := tk }) : Goes w LL 9 Q s := by
  have hD : ∀ b, False → (H1 X L w).get? b = none := fun b q => q.elim
  refine Goes.of (k := 9) rfl ?_
  refine wpAny_execs_cons ?_
  refine wpAny_For ?_
  refine range_then (n := rg.length) (F.base B hD) (by omega) (lf F rfl ⟨⟨_, rfl⟩, fun h₁ tk₁ I k₁ n₁ r₁ => ?_⟩) rfl
  have F₁ := F.push (.rng I _ _ _) k₁ r₁ n₁
  refine for_walk (Walks.range (lawA_handled LL) I 0 1 rg.length) (fun i s' => ∃ h' tk vT, s' = { s with heap := h', toks := tk } ∧ Lw g LL h' (vsE rg wl ts tw) (esE LL lN lT vN vT rg tr ++ [.rng I (0 + (i : Nat) * 1) ((rg.length : Nat) - (i : Nat)) 1]) ∧ IntsAre vT (tapeI rg i)) ?_ r₁ ?_ ?_
  · exact ⟨h₁, tk₁, [], rfl, F₁, .nil⟩
  · rintro i s' v h' tk E' hil ⟨h₂, tk₂, vT, rfl, G, R⟩ ⟨t, rfl⟩ hS hkeep
    have G := G.but (h' := h') 9 (.rng I (0 + ((i + 1 : Nat) : Int) * 1) ((rg.length : Int) - ((i + 1 : Nat) : Int)) 1) rfl rfl (fun b o hb e => hkeep b o (fun q => hb (List.mem_singleton.mp q)) e) hS
    rw [show (0 : Int) + (i : Nat) * 1 = (i : Nat) by omega]
    refine assign_Name (sf G fun h₃ G₃ => ?_)
    dsimp only
    refine wpAny_execs_cons ?_
    have hrl := rotL_length rg i (by omega)
    refine ord_comp (G₃.base B hD) (lawA_handled LL) rfl rfl (rot_eval G₃ 1 rfl rfl (by omega) (by omega) rfl rfl rfl rfl (by decide) fun h₄ t₄ tk₄ k₄ => ?_) rfl (by intro _; rfl) rfl rfl
    refine ⟨rotL rg i, t₄, rfl, rotL_fis hr i, by omega, k₄, fun h₅ tk₅ D C ys k₅ nD nC hDC pD ⟨mC, nsC⟩ hy => ?_⟩
    dsimp only at k₅ nD nC ⊢
    have G₅ := (G₃.ext k₄).push2 (.plain D ys.toArray) (.ns C mC) k₅ pD nsC nD nC hDC
    refine assign_Name (sf G₅ fun h₆ G₆ => ⟨mC, G₆.at_ 11 rfl, fun h₇ hs₇ => ?_⟩)
    have G₇ := G₆.lose (h' := h₇) 11 rfl fun b o hb e => (hs₇.2 b hb).trans e
    dsimp only
    have hyl : ys.length = rg.length := by rw [ints_len hy, List.length_map, hrl]
    obtain ⟨tl, hvl⟩ := ints_at hy (rg.length - 1) (((rotL rg i).getD (rg.length - 1) 0 : Nat) : Int) (by
      rw [List.getElem?_map, List.getD_eq_getElem?_getD, List.getElem?_eq_getElem (by omega)]; rfl)
    refine wpAny_execs_cons ?_
    refine wpAny_Assign_Subscript (wpAny_BinOp (Subscript_UnaryOp (lf G₇ rfl (wpAny_UnaryOp (wpAny_Constant_int (PyProof.Rows.neg_int ?_)))))) swap_bin
    have pO : h₇.PlainList D ys.toArray := G₇.at_ 10 rfl
    refine ⟨"list", _, slot_list_getitem.lookup, isList_typeIs pO.isList, wpAny_getItem_list_neg pO.isList (by decide) (by rw [List.size_toArray]; omega) (by decide) (x := .int (((rotL rg i).getD (rg.length - 1) 0 : Nat) : Int) tl) ?_ ?_⟩
    · rw [List.size_toArray, hyl]
      have : ((-1 : Int) + (rg.length : Nat)).toNat = rg.length - 1 := by omega
      rw [this]; simpa using hvl
    refine wpAny_Constant_int (PyProof.Rows.sub_int (lf G₇ rfl (wpAny_UnaryOp (wpAny_Constant_int (PyProof.Rows.neg_int ?_)))))
    refine setItem_plain_neg pO (by decide) (by rw [List.size_toArray]; omega) (by decide) fun h₈ hl₈ hs₈ => ?_
    dsimp only
    have e8 : ((-1 : Int) + (ys.toArray.size : Nat)).toNat = rg.length - 1 := by rw [List.size_toArray, hyl]; omega
    rw [e8] at hl₈
    have G₈ := G₇.same 10 (.plain D (ys.set (rg.length - 1) (.int ((((rotL rg i).getD (rg.length - 1) 0 : Nat) : Int) - 64) _)).toArray) rfl rfl hs₈ (show h₈.PlainList D _ from by simpa using hl₈)
    have hoct : IntsAre (ys.set (rg.length - 1) (.int ((((rotL rg i).getD (rg.length - 1) 0 : Nat) : Int) - 64) (tk₅ + 1 + 1 + 1 + 1))) (octI (rotL rg i)) := by
      unfold octI
      rw [hrl]
      exact ints_set hy _ _ _
    refine wpAny_execs_cons ?_
    refine wpAny_Expr ?_
    with_reducible refine Call_method1 ab_name ?_ ?_ ?_
    · rfl
    · rfl
    have pT : h₈.PlainList lT vT.toArray := G₈.at_ 8 rfl
    refine lc G₈ 2 rfl ⟨"list", "list.extend", PySem.F.plainAttrs_list, PySem.F.slot_list_extend, PySem.F.type_list_extend, isList_typeIs pT.isList, ?_, ?_⟩
    · rintro a ⟨⟩
      obtain ⟨c, e⟩ := pT
      exact ⟨_, e, rfl⟩
    refine callWith_builtin (by rfl) (Calls.evalArgs_plain (Calls.spliced_cons (lf G₈ rfl (Calls.spliced_nil ?_))))
    have hTl : vT.length ≤ 15 * 15 := by
      rw [ints_len R, tapeI_length rg i (by omega)]
      exact Nat.le_trans (Nat.mul_le_mul (by omega : i ≤ 15) hf) (by decide)
    refine extend_list pT (G₈.at_ 10 rfl : Heap.PlainList _ _ _).isList (by rw [sizeLine_eq]; simp; omega) fun h₉ hl₉ hs₉ => ?_
    dsimp only
    have G₉ := G₈.same 8 (.plain lT (vT ++ ys.set (rg.length - 1) (.int ((((rotL rg i).getD (rg.length - 1) 0 : Nat) : Int) - 64) (tk₅ + 1 + 1 + 1 + 1))).toArray) rfl rfl hs₉ (show h₉.PlainList lT _ from by simpa using hl₉)
    refine wpAny_execs_nil ⟨rfl, ⟨h₉, _, _, rfl, Lf.fewer (G₉.drop 10) ⟨rfl, rfl, trivial⟩, ?_⟩, G₉.at_ 9 rfl⟩
    unfold tapeI
    rw [List.range_succ, List.flatMap_append, List.flatMap_singleton]
    exact R.append hoct
  · rintro s' h' tk ⟨h₂, tk₂, vT, rfl, G, R⟩ hkeep
    have G := G.lose (h' := h') 9 rfl fun b o hb e => hkeep b o (fun q => hb (List.mem_singleton.mp q)) e
    dsimp only
    refine Goes.use (k := 10) ?_ ?_
    · exact next h' tk vT G R
    · rfl
end
end Mine
end

-- part V9
section
set_option maxRecDepth 100000
set_option maxHeartbeats 1000000
namespace Mine
open PySem PySem.W PySem.Calls PyProof.Rows
/-- the octets that are fed, 128 more at some places -/
def feedAt (T : List Int) (sh : Int) (j : Nat) : Int := if ((j : Int) + sh).fmod 3 = 0 then T.getD j 0 + 128 else T.getD j 0
def feedI (T : List Int) (sh : Int) : List Int := (List.range T.length).map (feedAt T sh)
section
variable {X : Nat → Obj} {L : Life} {kvs : List (Int × Value)} {w : World} {h h' : Heap} {s : Shared}
theorem b_iter (X L w) : (H1 X L w).nsMap builtinsNs (Str.ofString "iter") = some (.builtin "iter") := by kernel_rfl
theorem m_iter (X L w) : (H1 X L w).nsMap mainGlobals (Str.ofString "iter") = none := by kernel_rfl
theorem iter_list {prog : Program} {A : Around} {E : Value → Shared → Prop} {l : Addr} {xs : Array Value} {Q : Value → Shared → Prop} (hl : s.heap.IsList l xs)
    (h : Q (.ref s.heap.objs.size) { s with heap := s.heap.push { cls := .type "list_iterator", data := .fields #[.ref l, .int 0 0] } }) : wpAny (model prog w) A (PySem.call (.builtin "iter") [.ref l]) Q E s := by
  refine call_function_entry (by decide +kernel) (by decide +kernel) kdk_entry_iter (kdk_args_iter _) ?_
  unfold Builtin.«iter»
  refine wpAny_bind (m := someArgs "iter" 1 2 _) (wpAny_of_eq (a := [Value.ref l]) (by first | rfl | kernel_rfl) ?_)
  show wpAny _ _ (pyIter (.ref l) >>= _) _ _ _
  refine wpAny_bind (wpAny_pyIter_list hl ?_)
  exact wpAny_pure ⟨_, rfl, h⟩
/-- cells up to the shift, the lists of numbers, of the tape, of the feed, and its iterator -/
abbrev esG (LL lN lT lF I : Addr) (vN vT vF : List Value) (rg : List Nat) (tr : Tok) (sh : Int) (th : Tok) (k : Nat) : List Ent :=
  cellsE LL (some (.ref lN)) (some (.str ⟨rg.toArray⟩ tr)) (some (.ref lT)) (some (.int sh th)) none none none ++ [.plain lN vN.toArray, .plain lT vT.toArray, .plain lF vF.toArray, .lit I lF k]
theorem stG {LL lN lT : Addr} {g : Heap} {vN vT : List Value} {ns : List Int} {rg wl : List Nat} {tr ts tw : Tok} {Q : Flow → Shared → Prop} (B : Base X L kvs w g) (hi : IntsAre vN (numsL ns)) (hT : IntsAre vT (tapeI rg rg.length)) (hf : rg.length ≤ 15)
    (F : Lw g LL s.heap (vsE rg wl ts tw) (esE LL lN lT vN vT rg tr))
    (next : ∀ h' tk lF I vF sh th lR, Lw g LL h' ([(Str.ofString "rows", .ref lR), (Str.ofString "feed", .ref I)] ++ vsE rg wl ts tw) (esG LL lN lT lF I vN vT vF rg tr sh th 0 ++ [.plain lR #[]]) → IntsAre vF (feedI (tapeI rg rg.length) sh) →
      Goes w LL 13 Q { s with heap := h', toks := tk }) : Goes w LL 10 Q s := by
  have hD : ∀ b, False → (H1 X L w).get? b = none := fun b q => q.elim
  have hN : vN.length = 8 := by rw [ints_len hi, numsL_length]
  have hTl : vT.length ≤ 15 * 15 := by
    rw [ints_len hT, tapeI_length rg _ (Nat.le_refl _)]
    exact Nat.mul_le_mul hf hf
  refine Goes.of (k := 10) rfl ?_
  refine wpAny_execs_cons ?_
  with_reducible refine wpAny_Assign_Name ?_ swap_bin
  obtain ⟨t7, h7⟩ := ints_at hi 7 ((numsL ns).getD 7 0) (by rw [List.getD_eq_getElem?_getD, List.getElem?_eq_getElem (by rw [numsL_length]; decide)]; rfl)
  have pN : s.heap.PlainList lN vN.toArray := F.at_ 7 rfl
  refine wpAny_BinOp (Subscript_Constant (lc F 0 rfl (wpAny_Constant_int ⟨"list", _, slot_list_getitem.lookup, isList_typeIs pN.isList, wpAny_getItem_list pN.isList (by decide) (by decide) (x := .int ((numsL ns).getD 7 0) t7) (by simpa using h7) ?_⟩)) (by intro _ _; rfl))
  refine wpAny_Constant_int (mod_int' (by decide) ?_)
  generalize hsh : ((numsL ns).getD 7 0).fmod 3 = sh
  refine sc F 3 rfl fun h₁ F₁ => ?_
  dsimp only
  -- feed
  refine wpAny_execs_cons ?_
  with_reducible refine wpAny_Assign_Name ?_ swap_call
  refine Call_Name1 (bname (F₁.base B hD) rfl rfl (m_iter X L w) (b_iter X L w) (callWith_builtin1 ?_) rfl rfl)
  refine ListComp_ask (cl := [(Str.ofString "tape", LL + 3), (Str.ofString "shift", LL + 4)]) rfl (by decide) rfl (by decide) ?_ (by intro _; rfl)
  have pT : h₁.PlainList lT vT.toArray := F₁.at_ 8 rfl
  refine range_then (n := vT.length) (F₁.base B hD) (by omega) (Call_Name1 (bname (F₁.base B hD) rfl rfl (m_len X L w) (b_len X L w) (callWith_builtin1 (lc F₁ 2 rfl (call_len_list pT.isList (by rw [List.size_toArray]; omega) ?_))) rfl rfl)) rfl
  refine ⟨⟨_, rfl⟩, fun h₂ tk₂ I k₂ n₂ r₂ => ?_⟩
  dsimp only at k₂ n₂ ⊢
  have c3 : h₁.IsCell (LL + 3) (some (.ref lT)) := F₁.at_ 2 rfl
  have c4 : h₁.IsCell (LL + 4) (some (.int sh _)) := F₁.at_ 3 rfl
  refine ⟨I, [I], [I], vT.length, _, _, fun D C i ys s' => h₁.get? D = none ∧ ∃ h' tk vv, s' = { s with heap := h', toks := tk } ∧ Lw h₁ C h' vv [.rng I (0 + (i : Nat) * 1) ((vT.length : Nat) - (i : Nat)) 1, .plain D ys.toArray] ∧
    IntsAre ys ((List.range i).map (feedAt (tapeI rg rg.length) sh)),
    rfl, Walks.range (lawA_handled LL) I 0 1 vT.length, by rw [sizeLine_eq]; omega, fun _ _ _ _ _ _ _ _ hq => wpAny_pure hq, ?_, ?_, ?_, ?_⟩
  · rintro D C i ys s' ⟨_, h', tk, vv, rfl, G, R⟩
    exact G.at_ 0 rfl
  · intro D C h₃ m tk hDC hnD hnC k₃ pD nC
    have g0 : h₁.get? D = none := by
      cases q : h₁.get? D with
      | none => rfl
      | some o => have := k₂ _ _ q; dsimp only at hnD; rw [hnD] at this; cases this
    exact ⟨g0, h₃, tk, [], rfl, Lf.enter (it := .rng I _ _ _) k₂ r₂ n₂ k₃ hnD hnC hDC pD nC, .nil⟩
  · rintro D C i ys s' v h' tk E' hil hyl ⟨q1, h₃, tk₃, vv, rfl, G, R⟩ ⟨t, rfl⟩ hS hkeep
    have G := G.but (h' := h') 0 (.rng I (0 + ((i + 1 : Nat) : Int) * 1) ((vT.length : Int) - ((i + 1 : Nat) : Int)) 1) rfl rfl (fun b o hb e => hkeep b o (fun q => hb (List.mem_singleton.mp q)) e) hS
    rw [show (0 : Int) + (i : Nat) * 1 = (i : Nat) by omega]
    refine assign_Name (sf G fun h₄ G₄ => ?_)
    dsimp only
    refine wpAny_pure ?_
    rw [if_pos rfl]
    obtain ⟨ti, hvi⟩ := ints_at hT i ((tapeI rg rg.length).getD i 0) (by
      rw [List.getD_eq_getElem?_getD, List.getElem?_eq_getElem (by rw [← ints_len hT]; exact hil)]; rfl)
    have fin : ∀ (y : Int) (ty tk : Nat), y = feedAt (tapeI rg rg.length) sh i → (h₄.PlainList D ys.toArray ∧ ∀ h₅, h₅.PlainList D (ys ++ [Value.int y ty]).toArray → Heap.SameBut D h₄ h₅ → h₁.get? D = none ∧ ∃ h' tk' vv, ({ s with heap := h₅, toks := tk } : Shared) = { s with heap := h', toks := tk' } ∧
        Lw h₁ C h' vv [.rng I (0 + ((i + 1 : Nat) : Int) * 1) ((vT.length : Int) - ((i + 1 : Nat) : Int)) 1, .plain D (ys ++ [Value.int y ty]).toArray] ∧ IntsAre (ys ++ [Value.int y ty]) ((List.range (i + 1)).map (feedAt (tapeI rg rg.length) sh))) := by
      intro y ty tk hy
      refine ⟨G₄.at_ 1 rfl, fun h₅ hl₅ hs₅ => ⟨q1, h₅, _, _, rfl, G₄.same 1 (.plain D (ys ++ [Value.int y ty]).toArray) rfl rfl hs₅ hl₅, ?_⟩⟩
      rw [List.range_succ, List.map_append, hy]
      exact R.append (.cons _ _ .nil)
    have pT₄ : h₄.PlainList lT vT.toArray := pT.at fun o e => G₄.kept _ o e
    refine wpAny_IfExp (wpAny_isTrue_Compare1 (wpAny_BinOp (wpAny_BinOp (lf G₄ rfl (lcl (c4.keeps G₄.kept) (PyProof.Rows.add_int (wpAny_Constant_int (mod_int' (by decide) (wpAny_Constant_int (PyProof.Rows.eq_int (wpAny_truthy_bool ?_))))))))))) 
    by_cases hz : ((i : Int) + sh).fmod 3 = 0
    · rw [if_pos (by simpa using hz)]
      refine wpAny_BinOp (Subscript_Name (lcl (c3.keeps G₄.kept) (lf G₄ rfl ⟨"list", _, slot_list_getitem.lookup, isList_typeIs pT₄.isList, wpAny_getItem_list pT₄.isList (by omega) (by omega) (x := .int ((tapeI rg rg.length).getD i 0) ti) (by simpa using hvi) ?_⟩)) (by intro _ _; rfl))
      refine wpAny_Constant_int (PyProof.Rows.add_int ?_)
      exact fin _ _ _ (by unfold feedAt; rw [if_pos hz])
    · rw [if_neg (by simpa using hz)]
      refine Subscript_Name (lcl (c3.keeps G₄.kept) (lf G₄ rfl ⟨"list", _, slot_list_getitem.lookup, isList_typeIs pT₄.isList, wpAny_getItem_list pT₄.isList (by omega) (by omega) (x := .int ((tapeI rg rg.length).getD i 0) ti) (by simpa using hvi) ?_⟩)) (by intro _ _; rfl)
      exact fin _ _ _ (by unfold feedAt; rw [if_neg hz])
  · rintro D C ys s' h' tk hyl ⟨q1, h₃, tk₃, vv, rfl, G, R⟩ hkeep
    have G := G.lose (h' := h') 0 rfl fun b o hb e => hkeep b o (fun q => hb (List.mem_singleton.mp q)) e
    obtain ⟨m, hm⟩ := G.nsOf
    refine ⟨m, hm, fun h₄ hs₄ => ?_⟩
    obtain ⟨a1, a2⟩ := G.leave hs₄
    have F₄ := F₁.push (.plain D ys.toArray) a1 (a2 _ (.head _)) q1
    have pD : h₄.PlainList D ys.toArray := F₄.at_ 9 rfl
    refine iter_list pD.isList ?_
    have F₅ := F₄.push (.lit h₄.objs.size D 0) (h' := h₄.push { cls := .type "list_iterator", data := .fields #[.ref D, .int 0 0] }) (fun b o e => Heap.get?_push_of_some _ e) ⟨_, Heap.get?_push_size _ rfl, rfl, rfl⟩ (get_none_size (Nat.le_refl _))
    refine sf F₅ fun h₆ F₆ => ?_
    dsimp only
    refine wpAny_execs_cons ?_
    with_reducible refine wpAny_Assign_Name ?_ swap_list
    with_reducible refine List_ ?_
    refine Calls.spliced_nil ?_
    refine newList_f F₆ (Nat.zero_le _) fun h₇ lR F₇ _ _ => ?_
    refine sf F₇ fun h₈ F₈ => ?_
    dsimp only
    refine Goes.use (k := 13) ?_ ?_
    · refine next h₈ _ D h₄.objs.size ys sh _ lR F₈ ?_
      unfold feedI
      rw [← ints_len hT]; exact R
    · rfl
end
end Mine
end

-- part P5
section
set_option maxRecDepth 100000
namespace Mine
open PySem PyProof.Rows
theorem Turn.of : ∀ (l : List Nat), l ≠ [] → (∀ (j b : Nat), l[j]? = some b → b < 256 ∧ b / 64 % 2 = if j + 1 = l.length then 0 else 1) → Turn l
  | [], h, _ => absurd rfl h
  | [b], _, h => by have := h 0 b rfl; simpa [Turn] using this
  | b :: c :: r, _, h => by
    have h0 := h 0 b rfl
    rw [if_neg (by simp)] at h0
    exact ⟨h0.1, h0.2, Turn.of (c :: r) (by simp) fun j d hj => by
      have := h (j + 1) d (by simpa using hj)
      rw [List.length_cons] at this
      refine ⟨this.1, this.2.trans ?_⟩
      by_cases e : j + 1 = (c :: r).length
      · rw [if_pos e, if_pos (by omega)]
      · rw [if_neg e, if_neg (by omega)]⟩
theorem spelt_of : ∀ (os l : List Nat) (v : Nat), os.map (· % 64) = l.map dg → spelt (v : Int) os = ((l.foldl (fun v c => v * 64 + dg c) v : Nat) : Int)
  | [], [], v, _ => rfl
  | [], _ :: _, _, h => by simp at h
  | _ :: _, [], _, h => by simp at h
  | b :: os, c :: l, v, h => by
    simp only [List.map_cons, List.cons.injEq] at h
    have e : (v : Int) * 64 + ((b % 64 : Nat) : Int) = ((v * 64 + dg c : Nat) : Int) := by rw [h.1]; omega
    show spelt ((v : Int) * 64 + ((b % 64 : Nat) : Int)) os = _
    rw [e, spelt_of os l _ h.2, List.foldl_cons]
theorem tapeI_succ (rg : List Nat) (i : Nat) : tapeI rg (i + 1) = tapeI rg i ++ octI (rotL rg i) := by
  unfold tapeI; rw [List.range_succ, List.flatMap_append, List.flatMap_singleton]
theorem tapeI_at {rg : List Nat} : ∀ (i : Nat), i ≤ rg.length → ∀ (p j : Nat), p < i → j < rg.length → (tapeI rg i)[p * rg.length + j]? = (octI (rotL rg p))[j]?
  | 0, _, p, j, hp, _ => by omega
  | i + 1, hi, p, j, hp, hj => by
    have hl := tapeI_length rg i (by omega)
    rw [tapeI_succ]
    rcases Nat.lt_or_ge p i with h | h
    · have : p * rg.length + j < (tapeI rg i).length := by
        rw [hl]
        have : (p + 1) * rg.length ≤ i * rg.length := Nat.mul_le_mul_right _ h
        rw [Nat.succ_mul] at this
        omega
      rw [List.getElem?_append_left this, tapeI_at i (by omega) p j h hj]
    · obtain rfl : p = i := by omega
      rw [List.getElem?_append_right (by rw [hl]; omega), hl]
      congr 1; omega
theorem octI_at {l : List Nat} {j : Nat} (hj : j < l.length) : (octI l)[j]? = some (if j + 1 = l.length then ((l[j] : Nat) : Int) - 64 else ((l[j] : Nat) : Int)) := by
  unfold octI
  rw [List.getElem?_set]
  by_cases h : l.length - 1 = j
  · rw [if_pos h, if_pos (by rw [List.length_map]; omega), if_pos (by omega), List.getD_eq_getElem?_getD, h, List.getElem?_eq_getElem hj]; rfl
  · rw [if_neg h, if_neg (by omega), List.getElem?_map, List.getElem?_eq_getElem hj]; rfl
/-- a turn's octets as they are fed -/
def osN (rg : List Nat) (sh : Int) (p : Nat) : List Nat := (List.range rg.length).map fun j => (feedAt (tapeI rg rg.length) sh (p * rg.length + j)).toNat
theorem feed_oct {rg : List Nat} (hr : AllFis rg) (sh : Int) {p j : Nat} (hp : p < rg.length) (hj : j < rg.length) (c : Nat) (hc : (rotL rg p)[j]? = some c) :
    ∃ b : Nat, feedAt (tapeI rg rg.length) sh (p * rg.length + j) = (b : Int) ∧ b < 256 ∧ b % 64 = dg c ∧ b / 64 % 2 = if j + 1 = rg.length then 0 else 1 := by
  have hrl := rotL_length rg p (by omega)
  have hfc : Fis c := rotL_fis hr p c (List.mem_of_getElem? hc)
  have hj' : j < (rotL rg p).length := by omega
  have hg : (tapeI rg rg.length).getD (p * rg.length + j) 0 = if j + 1 = rg.length then (c : Int) - 64 else (c : Int) := by
    rw [List.getD_eq_getElem?_getD, tapeI_at rg.length (Nat.le_refl _) p j hp hj, octI_at hj', hrl]
    rw [List.getElem?_eq_getElem hj'] at hc
    rw [Option.some.inj hc]; rfl
  unfold feedAt
  rw [hg]
  by_cases h : j + 1 = rg.length <;> simp only [h, if_true, if_false]
  · rcases hfc with rfl | rfl | rfl <;> split <;> first | exact ⟨166, rfl, by decide, rfl, rfl⟩ | exact ⟨38, rfl, by decide, rfl, rfl⟩ | exact ⟨169, rfl, by decide, rfl, rfl⟩ | exact ⟨41, rfl, by decide, rfl, rfl⟩ | exact ⟨179, rfl, by decide, rfl, rfl⟩ | exact ⟨51, rfl, by decide, rfl, rfl⟩
  · rcases hfc with rfl | rfl | rfl <;> split <;> first | exact ⟨230, rfl, by decide, rfl, rfl⟩ | exact ⟨102, rfl, by decide, rfl, rfl⟩ | exact ⟨233, rfl, by decide, rfl, rfl⟩ | exact ⟨105, rfl, by decide, rfl, rfl⟩ | exact ⟨243, rfl, by decide, rfl, rfl⟩ | exact ⟨115, rfl, by decide, rfl, rfl⟩
theorem osN_turn {rg : List Nat} (hr : AllFis rg) (hn : 0 < rg.length) (sh : Int) {p : Nat} (hp : p < rg.length) : Turn (osN rg sh p) := by
  have hl : (osN rg sh p).length = rg.length := by simp [osN]
  refine Turn.of _ (fun h => by rw [h] at hl; simp at hl; omega) fun j b hb => ?_
  unfold osN at hb
  rw [List.getElem?_map, Option.map_eq_some_iff] at hb
  obtain ⟨k, hk, rfl⟩ := hb
  have hjn : j < rg.length := by
    have := (List.getElem?_eq_some_iff.mp hk).1
    simpa using this
  obtain rfl : j = k := by
    rw [List.getElem?_range hjn] at hk
    exact Option.some.inj hk
  have hrl := rotL_length rg p (by omega)
  obtain ⟨b, e, h1, h2, h3⟩ := feed_oct hr sh hp hjn _ (List.getElem?_eq_getElem (by omega))
  rw [e, hl]
  exact ⟨by simpa using h1, by simpa using h3⟩
theorem osN_spelt {rg : List Nat} (hr : AllFis rg) (sh : Int) {p : Nat} (hp : p < rg.length) : spelt 0 (osN rg sh p) = ((valL (rotL rg p) : Nat) : Int) := by
  have hrl := rotL_length rg p (by omega)
  have e : (osN rg sh p).map (· % 64) = (rotL rg p).map dg := by
    apply List.ext_getElem (by simp [osN, hrl])
    intro j h1 h2
    have hjn : j < rg.length := by simpa [osN] using h1
    obtain ⟨b, e, q1, q2, q3⟩ := feed_oct hr sh hp hjn _ (List.getElem?_eq_getElem (by omega))
    simp only [osN, List.getElem_map, List.getElem_range]
    rw [e]
    simpa using q2
  have := spelt_of (osN rg sh p) (rotL rg p) 0 e
  rw [foldl_val] at this
  simpa using this
theorem osN_stood {rg : List Nat} {vF : List Value} {sh : Int} (hr : AllFis rg) (hF : IntsAre vF (feedI (tapeI rg rg.length) sh)) {p : Nat} (hp : p < rg.length) : Stood vF.toArray (p * rg.length) (osN rg sh p) := by
  intro j b hb
  unfold osN at hb
  rw [List.getElem?_map, Option.map_eq_some_iff] at hb
  obtain ⟨k, hk, rfl⟩ := hb
  have hjn : j < rg.length := by
    have := (List.getElem?_eq_some_iff.mp hk).1
    simpa using this
  obtain rfl : j = k := by
    rw [List.getElem?_range hjn] at hk
    exact Option.some.inj hk
  have hrl := rotL_length rg p (by omega)
  obtain ⟨b, e, q1, q2, q3⟩ := feed_oct hr sh hp hjn _ (List.getElem?_eq_getElem (by omega))
  have hlt : p * rg.length + j < rg.length * rg.length := by
    have : (p + 1) * rg.length ≤ rg.length * rg.length := Nat.mul_le_mul_right _ hp
    rw [Nat.succ_mul] at this
    omega
  obtain ⟨t, ht⟩ := ints_at hF (p * rg.length + j) _ (by
    unfold feedI
    rw [List.getElem?_map, tapeI_length rg _ (Nat.le_refl _), List.getElem?_range hlt]; rfl)
  refine ⟨t, ?_⟩
  rw [e] at ht ⊢
  simpa using ht
theorem rotL_win {rg : List Nat} {p : Nat} (hp : p < rg.length) : rotL rg p = win rg rg.length p := by
  apply List.ext_getElem?
  intro j
  rcases Nat.lt_or_ge j rg.length with h | h
  · rw [win_get _ _ _ _ h]
    unfold rotL at'
    rcases Nat.lt_or_ge j (rg.length - p) with h2 | h2
    · rw [List.getElem?_append_left (by rw [List.length_drop]; omega), List.getElem?_drop, Nat.mod_eq_of_lt (by omega), List.getD_eq_getElem?_getD, List.getElem?_eq_getElem (by omega)]; rfl
    · have e : (p + j) % rg.length = p + j - rg.length := by rw [Nat.mod_eq_sub_mod (by omega), Nat.mod_eq_of_lt (by omega)]
      rw [List.getElem?_append_right (by rw [List.length_drop]; omega), List.length_drop, List.getElem?_take, if_pos (by omega), e, List.getD_eq_getElem?_getD, show j - (rg.length - p) = p + j - rg.length by omega, List.getElem?_eq_getElem (by omega)]; rfl
  · rw [List.getElem?_eq_none (by rw [rotL_length rg p (by omega)]; exact h), List.getElem?_eq_none (by rw [win_length]; exact h)]
theorem rotL_num {rg : List Nat} {p : Nat} (hp : p < rg.length) : valL (rotL rg p) = num rg rg.length p := by unfold num; rw [rotL_win hp]
end Mine
end

-- part V10
section
set_option maxRecDepth 100000
set_option maxHeartbeats 1000000
namespace Mine
open PySem PySem.W PySem.Calls PyProof.Rows
section
variable {X : Nat → Obj} {L : Life} {kvs : List (Int × Value)} {w : World} {h h' : Heap} {s : Shared}
theorem m_varint (X L w) : (H1 X L w).nsMap mainGlobals (Str.ofString "_parse_varint") = some (.ref 28) := by kernel_rfl
def rowsOf (rg : List Nat) (i : Nat) : List (Int × Nat) := (List.range i).map fun p => (((num rg rg.length p : Nat) : Int), p)
theorem RowsAre.append {h : Heap} {vs us : List Value} {r q : List (Int × Nat)} (R : RowsAre h vs r) (R' : RowsAre h us q) : RowsAre h (vs ++ us) (r ++ q) := by
  induction R with
  | nil => exact R'
  | cons e _ ih => exact .cons e ih
theorem dueN_lt (l : List Nat) (hl : AllFis l) (h15 : l.length ≤ 15) : valL l < 2 ^ 100 := by
  have h1 := valL_lt l hl
  have h2 : (64 : Nat) ^ l.length ≤ 64 ^ 15 := Nat.pow_le_pow_right (by decide) h15
  have h3 : (64 : Nat) ^ 15 < 2 ^ 100 := by decide
  omega
abbrev vsH (rg wl : List Nat) (ts tw : Tok) (lR I : Addr) : List (Str × Value) := [(Str.ofString "rows", .ref lR), (Str.ofString "feed", .ref I)] ++ vsE rg wl ts tw
theorem stH {LL lN lT lF I lR : Addr} {g : Heap} {vN vT vF : List Value} {rg wl : List Nat} {tr ts tw th : Tok} {sh : Int} {Q : Flow → Shared → Prop} (B : Base X L kvs w g) (hr : AllFis rg) (hn : 0 < rg.length) (hf : rg.length ≤ 15)
    (hF : IntsAre vF (feedI (tapeI rg rg.length) sh))
    (F : Lw g LL s.heap (vsH rg wl ts tw lR I) (esG LL lN lT lF I vN vT vF rg tr sh th 0 ++ [.plain lR #[]]))
    (next : ∀ g' h' tk vR, (∀ b o, g.get? b = some o → g'.get? b = some o) → Lw g' LL h' (vsH rg wl ts tw lR I) (esG LL lN lT lF I vN vT vF rg tr sh th (rg.length * rg.length) ++ [.plain lR vR.toArray]) → RowsAre g' vR (rowsOf rg rg.length) →
      Goes w LL 14 Q { s with heap := h', toks := tk }) : Goes w LL 13 Q s := by
  have hD : ∀ b, False → (H1 X L w).get? b = none := fun b q => q.elim
  refine Goes.of (k := 13) rfl ?_
  refine wpAny_execs_cons ?_
  refine wpAny_For ?_
  refine range_then (n := rg.length) (F.base B hD) (by omega) (lf F rfl ⟨⟨_, rfl⟩, fun h₁ tk₁ J k₁ n₁ r₁ => ?_⟩) rfl
  have F₁ := F.push (.rng J _ _ _) k₁ r₁ n₁
  refine for_walk (Walks.range (lawA_handled LL) J 0 1 rg.length) (fun i s' => ∃ g' h' tk vR, s' = { s with heap := h', toks := tk } ∧ (∀ b o, g.get? b = some o → g'.get? b = some o) ∧
    Lw g' LL h' (vsH rg wl ts tw lR I) (esG LL lN lT lF I vN vT vF rg tr sh th (i * rg.length) ++ [.plain lR vR.toArray, .rng J (0 + (i : Nat) * 1) ((rg.length : Nat) - (i : Nat)) 1]) ∧ RowsAre g' vR (rowsOf rg i)) ?_ r₁ ?_ ?_
  · exact ⟨g, h₁, tk₁, [], rfl, fun _ _ e => e, by rw [Nat.zero_mul]; exact F₁, .nil⟩
  · rintro i s' v h' tk E' hil ⟨g₂, h₂, tk₂, vR, rfl, kg, G, R⟩ ⟨t, rfl⟩ hS hkeep
    have B₂ : Base X L kvs w g₂ := B.mono kg
    have G := G.but (h' := h') 12 (.rng J (0 + ((i + 1 : Nat) : Int) * 1) ((rg.length : Int) - ((i + 1 : Nat) : Int)) 1) rfl rfl (fun b o hb e => hkeep b o (fun q => hb (List.mem_singleton.mp q)) e) hS
    rw [show (0 : Int) + (i : Nat) * 1 = (i : Nat) by omega]
    refine assign_Name (sf G fun h₃ G₃ => ?_)
    dsimp only
    have hrl := rotL_length rg i (by omega)
    have hrf := rotL_fis hr i
    -- due
    refine wpAny_execs_cons ?_
    with_reducible refine wpAny_Assign_Name ?_ swap_const
    refine wpAny_Constant_int (sf G₃ fun h₄ G₄ => ?_)
    dsimp only
    refine wpAny_execs_cons ?_
    have hasc : ((rotL rg i).toArray).all (· < 128) = true := by
      rw [Array.all_eq_true]
      intro j hj
      have := hrf _ (List.getElem_mem (l := rotL rg i) (n := j) (by simpa using hj))
      rcases this with h | h | h <;> simp [h]
    refine wpAny_For (rot_eval G₄ 1 rfl rfl (by omega) (by omega) rfl rfl rfl rfl (by decide) fun h₅ t₅ tk₅ k₅ => wpAny_pyIter_ascii hasc ?_)
    have G₅ := (G₄.ext k₅).push (.sit h₅.objs.size ⟨(rotL rg i).toArray⟩ t₅ 0) (h' := h₅.push { cls := .type "str_ascii_iterator", data := .fields #[.str ⟨(rotL rg i).toArray⟩ t₅, .int 0 0] }) (fun b o e => Heap.get?_push_of_some _ e) ⟨_, Heap.get?_push_size _ rfl, rfl, rfl⟩ (get_none_size (Nat.le_refl _))
    dsimp only
    refine for_walk (Walks.strAscii (lawA_handled LL) h₅.objs.size ⟨(rotL rg i).toArray⟩ t₅) (fun j s' => ∃ h' tk td, s' = { s with heap := h', toks := tk } ∧
      Lw g₂ LL h' ([(Str.ofString "due", .int ((valL ((rotL rg i).take j) : Nat) : Int) td), (Str.ofString "place", .int (i : Nat) t)] ++ vsH rg wl ts tw lR I)
        (esG LL lN lT lF I vN vT vF rg tr sh th (i * rg.length) ++ [.plain lR vR.toArray, .rng J (0 + ((i + 1 : Nat) : Int) * 1) ((rg.length : Int) - ((i + 1 : Nat) : Int)) 1, .sit h₅.objs.size ⟨(rotL rg i).toArray⟩ t₅ j])) ?_ (G₅.at_ 13 rfl) ?_ ?_
    · exact ⟨_, _, _, rfl, G₅⟩
    · rintro j s' v h' tk E'' hjl ⟨h₆, tk₆, td, rfl, K⟩ ⟨c, tc, hc, rfl⟩ hS' hkeep'
      have K := K.but (h' := h') 13 (.sit h₅.objs.size ⟨(rotL rg i).toArray⟩ t₅ (j + 1)) rfl rfl (fun b o hb e => hkeep' b o (fun q => hb (List.mem_singleton.mp q)) e) hS'
      have hc' : (rotL rg i)[j]? = some c := by simpa using hc
      have hcf : Fis c := hrf c (List.mem_of_getElem? hc')
      refine assign_Name (sf K fun h₇ K₇ => ?_)
      dsimp only
      refine wpAny_execs_cons ?_
      with_reducible refine wpAny_Assign_Name ?_ swap_bin
      refine wpAny_BinOp (wpAny_BinOp (wpAny_BinOp (lf K₇ rfl (wpAny_Constant_int (P.mul_int ?_ (IntMulOk.of_right (by decide)))))))
      refine Call_Name1 (bname (K₇.base B₂ hD) rfl rfl (m_ord X L w) (b_ord X L w) (callWith_builtin1 (lf K₇ rfl (P.ord_of_char (PyProof.Rows.add_int (wpAny_Constant_int (PyProof.Rows.sub_int ?_)))))) rfl rfl)
      refine sf K₇ fun h₈ K₈ => ?_
      dsimp only
      have e : ((valL ((rotL rg i).take j) : Nat) : Int) * 64 + (c : Int) - 64 = ((valL ((rotL rg i).take (j + 1)) : Nat) : Int) := by
        rw [List.take_add_one, hc', Option.toList_some, valL_append]
        have : 64 ≤ c := by rcases hcf with rfl | rfl | rfl <;> decide
        simp only [valL, dg, List.length_cons, List.length_nil]
        omega
      rw [e] at K₈
      exact wpAny_execs_nil ⟨rfl, ⟨h₈, _, _, rfl, K₈.fewer ⟨rfl, rfl, rfl, rfl, rfl, rfl, trivial⟩⟩, K₈.at_ 13 rfl⟩
    · rintro s' h' tk ⟨h₆, tk₆, td, rfl, K⟩ hkeep'
      have K := K.lose (h' := h') 13 rfl fun b o hb e => hkeep' b o (fun q => hb (List.mem_singleton.mp q)) e
      have efull : (rotL rg i).take (Array.size (⟨(rotL rg i).toArray⟩ : Str).cps) = rotL rg i := by
        rw [show Array.size (⟨(rotL rg i).toArray⟩ : Str).cps = (rotL rg i).length from by simp, List.take_length]
      rw [efull] at K
      dsimp only
      -- number
      refine wpAny_execs_cons ?_
      with_reducible refine wpAny_Assign_Name ?_ swap_call
      refine Call_Name1 (gname (K.base B₂ hD) rfl (m_varint X L w) (callWith_fn1 (o := o28_p2 w.params) rfl (lf K rfl ⟨K.kept _ _ (B₂.keep _ _ (h1_o28 X L w)), ?_⟩)) rfl rfl)
      have hturn := osN_turn hr hn sh hil
      have hstood := osN_stood hr hF hil
      have hspelt := osN_spelt hr sh hil
      have hol : (osN rg sh i).length = rg.length := by simp [osN]
      obtain ⟨b₀, os, eos⟩ : ∃ b₀ os, osN rg sh i = b₀ :: os := by
        cases q : osN rg sh i with
        | nil => rw [q] at hol; simp at hol; omega
        | cons a r => exact ⟨a, r, rfl⟩
      rw [eos] at hturn hstood hspelt hol
      have hI0 : (H1 X L w).get? I = none := by
        rcases K.new 10 rfl with h1 | h1
        · exact h1.elim
        · cases q : (H1 X L w).get? I with
          | none => rfl
          | some o => have h1' : g₂.get? I = none := h1
                      rw [B₂.keep _ _ q] at h1'; cases h1'
      refine varint_ok (K.base B₂ hD) (by have := lawA_depth LL; omega) (K.at_ 10 rfl) (K.at_ 9 rfl : Heap.PlainList _ _ _).isList hI0 hturn hstood (by simp at hol; omega) fun h₇ tk₇ t₇ hit₇ k₇ => ?_
      rw [hspelt, hol, ← Nat.succ_mul] at *
      have K₇ := K.but (h' := h₇) 10 (.lit I lF ((i + 1) * rg.length)) rfl rfl k₇ hit₇
      refine sf K₇ fun h₈ K₈ => ?_
      dsimp only
      refine wpAny_execs_cons ?_
      refine wpAny_If (wpAny_isTrue_Compare1 (lf K₈ rfl (lf K₈ rfl (PyProof.Rows.ne_int (wpAny_truthy_bool ?_)))))
      rw [if_neg (by simp)]
      refine wpAny_execs_nil ?_
      dsimp only
      refine wpAny_execs_cons ?_
      refine wpAny_Expr ?_
      with_reducible refine Call_method1 ab_name ?_ ?_ ?_
      · rfl
      · rfl
      have pR : h₈.PlainList lR vR.toArray := K₈.at_ 11 rfl
      refine lf K₈ rfl ⟨"list", "list.append", PySem.F.plainAttrs_list, slot_list_append, PySem.F.type_list_append, isList_typeIs pR.isList, ?_, ?_⟩
      · rintro a ⟨⟩
        obtain ⟨c, e⟩ := pR
        exact ⟨_, e, rfl⟩
      refine callWith_builtin (by rfl) (Calls.evalArgs_plain (Calls.spliced_cons (Tuple_ (Calls.spliced_cons (lf K₈ rfl (Calls.spliced_cons (lf K₈ rfl (Calls.spliced_nil (wpAny_newObj_type ?_ (by show (2 : Nat) ≤ sizeLine; rw [sizeLine_eq]; decide))))))))))
      dsimp only
      have K₉ := K₈.ext (h' := h₈.push (rowObj ((valL (rotL rg i) : Nat) : Int) t₇ i t)) fun b o e => Heap.get?_push_of_some _ e
      obtain ⟨g₉, K₁₀, k₉, hp₉⟩ := Lf.hold K₈ (get_none_size (Nat.le_refl _)) K₉ (Heap.get?_push_size h₈ (o := rowObj ((valL (rotL rg i) : Nat) : Int) t₇ i t) rfl)
      have pR' : (h₈.push (rowObj ((valL (rotL rg i) : Nat) : Int) t₇ i t)).PlainList lR vR.toArray := K₁₀.at_ 11 rfl
      have hRl : vR.length ≤ 15 := by rw [R.length]; simp [rowsOf]; omega
      refine Calls.spliced_nil ?_
      show wpAny _ _ (PySem.call (.builtin "list.append") [.ref lR, .ref h₈.objs.size]) _ _ { s with heap := h₈.push (rowObj ((valL (rotL rg i) : Nat) : Int) t₇ i t), toks := _ }
      refine wpAny_list_append_plain (items := vR.toArray) pR' (fun h₁₀ hl₁₀ hs₁₀ => ?_) (by rw [sizeLine_eq, List.size_toArray]; omega)
      dsimp only
      have K₁₁ := K₁₀.same 11 (.plain lR (vR ++ [Value.ref h₈.objs.size]).toArray) rfl rfl hs₁₀ (show h₁₀.PlainList lR _ from by simpa using hl₁₀)
      refine wpAny_execs_nil ⟨rfl, ⟨g₉, h₁₀, _, _, rfl, fun b o e => k₉ b o (kg b o e), K₁₁.fewer ⟨rfl, rfl, rfl, rfl, trivial⟩, ?_⟩, K₁₁.at_ 12 rfl⟩
      unfold rowsOf
      rw [List.range_succ, List.map_append]
      refine (R.keeps fun b o _ e => k₉ b o e).append ?_
      rw [List.map_singleton, ← rotL_num hil]
      exact .cons hp₉ .nil
  · rintro s' h' tk ⟨g₂, h₂, tk₂, vR, rfl, kg, G, R⟩ hkeep
    have G := G.lose (h' := h') 12 rfl fun b o hb e => hkeep b o (fun q => hb (List.mem_singleton.mp q)) e
    dsimp only
    refine Goes.use (k := 14) ?_ ?_
    · exact next g₂ h' tk vR kg G R
    · rfl
end
end Mine
end

-- part V11
section
set_option maxRecDepth 100000
set_option maxHeartbeats 1000000
namespace Mine
open PySem PySem.W PySem.Calls PyProof.Rows
/-- the frame behind an exception that was caught -/
theorem Lf.after {g h h' : Heap} {LL I : Addr} {vs : List (Str × Value)} {es : List Ent} (F : Lw g LL h vs es) (i : Nat) {e : Ent} (hi : es[i]? = some e) (hI : e.a = I) (k : ∀ b o, b ≠ I → b ≠ LL → h.get? b = some o → h'.get? b = some o)
    (hns : ∀ m, h.Ns LL m → h'.Ns LL m) : Lw g LL h' vs (es.eraseIdx i) := by
  obtain ⟨m, V, B⟩ := F
  have hnL : ∀ b o, g.get? b = some o → b ≠ LL ∧ b ≠ I := fun b o q => by
    refine ⟨fun q2 => ?_, fun q2 => ?_⟩
    · rcases B.new _ (.head _) with h1 | h1
      · exact h1
      · have h1' : g.get? LL = none := h1
        rw [q2, h1'] at q; cases q
    · rcases B.new e (.tail _ (List.mem_of_getElem? hi)) with h1 | h1
      · exact h1
      · rw [hI] at h1; rw [q2, h1] at q; cases q
  have hs := List.eraseIdx_sublist es i
  refine ⟨m, V, fun b o _ q => k b o (hnL b o q).2 (hnL b o q).1 (B.keep b o (fun q => q) q), fun e₂ h2 => ?_, fun e₂ h2 => ?_, (B.apart).sublist ((hs.cons_cons _).map _)⟩
  · rcases List.mem_cons.mp h2 with rfl | h2
    · exact hns m (B.has _ (.head _))
    · obtain ⟨j, hj, hje⟩ := List.mem_eraseIdx_iff_getElem?.mp h2
      have hnd := List.nodup_cons.mp B.apart
      refine e₂.loc _ _ (B.has e₂ (.tail _ (hs.subset h2))) fun o => k _ o (fun q2 => ?_) fun q2 => ?_
      · have e1 : (es.map (·.a))[j]? = some e.a := by rw [List.getElem?_map, hje]; exact congrArg some (q2.trans hI.symm)
        have e2 : (es.map (·.a))[i]? = some e.a := by rw [List.getElem?_map, hi]; rfl
        exact hj ((List.getElem?_inj (by rw [List.length_map]; exact (List.getElem?_eq_some_iff.mp hi).1) hnd.2).mp (e2.trans e1.symm)).symm
      · exact hnd.1 (List.mem_map.mpr ⟨e₂, hs.subset h2, q2⟩)
  · rcases List.mem_cons.mp h2 with rfl | h2
    · exact B.new _ (.head _)
    · exact B.new e₂ (.tail _ (hs.subset h2))
section
variable {X : Nat → Obj} {L : Life} {kvs : List (Int × Value)} {w : World} {h h' : Heap} {s : Shared}
theorem b_stop (X L w) : (H1 X L w).nsMap builtinsNs (Str.ofString "StopIteration") = some (.type "StopIteration") := by kernel_rfl
theorem m_stop (X L w) : (H1 X L w).nsMap mainGlobals (Str.ofString "StopIteration") = none := by kernel_rfl
theorem stop_exc : isSubtype (.type "StopIteration") (.type "BaseException") = pure true := by rw [isSubtype_type]; kernel_rfl
theorem stop_stop : isSubtype (.type "StopIteration") (.type "StopIteration") = pure true := by rw [isSubtype_type]; kernel_rfl
theorem stop_meta : isSubtype (.type ((Manifest.find? "StopIteration").elim "type" fun x => x.metatype)) (.type "tuple") = pure false := by rw [isSubtype_type]; kernel_rfl
/-- the cells up to the shift, the lists of numbers, of the tape, of the feed, and the rows -/
abbrev esI (LL lN lT lF lR : Addr) (vN vT vF vR : List Value) (rg : List Nat) (tr : Tok) (sh : Int) (th : Tok) : List Ent :=
  cellsE LL (some (.ref lN)) (some (.str ⟨rg.toArray⟩ tr)) (some (.ref lT)) (some (.int sh th)) none none none ++ [.plain lN vN.toArray, .plain lT vT.toArray, .plain lF vF.toArray, .plain lR vR.toArray]
theorem stI {LL lN lT lF I lR : Addr} {g : Heap} {vN vT vF vR : List Value} {rg wl : List Nat} {tr ts tw th : Tok} {sh : Int} {Q : Flow → Shared → Prop} (B : Base X L kvs w g) (hf : rg.length ≤ 15)
    (hF : IntsAre vF (feedI (tapeI rg rg.length) sh)) (R : RowsAre g vR (rowsOf rg rg.length))
    (F : Lw g LL s.heap (vsH rg wl ts tw lR I) (esG LL lN lT lF I vN vT vF rg tr sh th (rg.length * rg.length) ++ [.plain lR vR.toArray]))
    (next : ∀ h' tk vR' rs, Lw g LL h' (vsH rg wl ts tw lR I) (esI LL lN lT lF lR vN vT vF vR' rg tr sh th) → RowsAre g vR' rs → rs.Perm (rowsOf rg rg.length) → rs.Pairwise (fun x y => codeOf x ≤ codeOf y) →
      Goes w LL 15 Q { s with heap := h', toks := tk }) : Goes w LL 14 Q s := by
  have hD : ∀ b, False → (H1 X L w).get? b = none := fun b q => q.elim
  have hdp := lawA_depth LL
  refine Goes.of (k := 14) rfl ?_
  refine wpAny_execs_cons ?_
  refine wpAny_Try_except ?_
  refine wpAny_execs_cons ?_
  refine wpAny_Expr ?_
  have hvF : vF.length = rg.length * rg.length := by rw [ints_len hF]; unfold feedI; rw [List.length_map, List.length_range, tapeI_length rg _ (Nat.le_refl _)]
  obtain ⟨m, hm⟩ := F.nsOf
  have hIL : I ≠ LL := by
    obtain ⟨m, V, Bg⟩ := F
    have := (List.nodup_cons.mp Bg.apart).1
    intro q
    exact this (List.mem_map.mpr ⟨.lit I lF (rg.length * rg.length), by simp, q⟩)
  refine Call_Name1 (gname (F.base B hD) rfl (m_varint X L w) (callWith_fn1 (o := o28_p2 w.params) rfl (lf F rfl ⟨F.kept _ _ (B.keep _ _ (h1_o28 X L w)), ?_⟩)) rfl rfl)
  refine varint_stop (env₀ := lawEnv LL) (LL := LL) (F.base B hD) (by omega) rfl (lawA_frames LL) rfl rfl ?_ (F.at_ 10 rfl) (F.at_ 9 rfl : Heap.PlainList _ _ _).isList ?_ hIL fun base h₁ tk₁ e a0 kb fly slot => ?_
  · obtain ⟨o, es, ep, ho, hd, _⟩ := hm
    exact ⟨o, ho, fun vs q => by rw [hd] at q; cases q⟩
  · rw [Array.getElem?_eq_none]
    rw [List.size_toArray, hvF]; exact Nat.le_refl _
  have ns₁ : ∀ m, s.heap.Ns LL m → h₁.Ns LL m := by
    rintro m ⟨o, es, ep, ho, hd, r⟩
    obtain ⟨sl, hs⟩ := slot o ho fun vs q => by rw [hd] at q; cases q
    exact ⟨_, es, ep, hs, hd, r⟩
  refine wpAny_looks_onW (outer := []) (lawA_frames LL) rfl fly fun h₂ held up₂ => ?_
  refine wpAny_landsW held fun h₃ fly₃ up₃ => ?_
  have F₃ : Lw g LL h₃ (vsH rg wl ts tw lR I) (esI LL lN lT lF lR vN vT vF vR rg tr sh th) := F.after 10 rfl rfl (fun b o h1 h2 h3 => fly₃.1 b o (kb b o h1 h2 h3)) fun m hm => up₃.ns (up₂.ns (ns₁ m hm))
  refine wpAny_handleBy_builtin (X := "StopIteration") (T := "StopIteration") (b := true) stop_exc stop_meta stop_stop ?_
  refine bname (F₃.base B hD) rfl rfl (m_stop X L w) (b_stop X L w) ⟨rfl, fly₃.there, ?_⟩ rfl rfl
  rw [if_pos rfl]
  refine lands_againW fly₃ fun h₄ fly₄ up₄ => ?_
  have F₄ : Lw g LL h₄ (vsH rg wl ts tw lR I) (esI LL lN lT lF lR vN vT vF vR rg tr sh th) := F.after 10 rfl rfl (fun b o h1 h2 h3 => fly₄.1 b o (kb b o h1 h2 h3)) fun m hm => up₄.ns (up₃.ns (up₂.ns (ns₁ m hm)))
  refine wpAny_execs_cons ?_
  refine wpAny_Expr ?_
  with_reducible refine Call_method0 ab_name ?_ ?_
  · rfl
  have pR : h₄.PlainList lR vR.toArray := F₄.at_ 10 rfl
  refine lf F₄ rfl ⟨"list", "list.sort", PySem.F.plainAttrs_list, PyProof.Rows.slot_list_sort, PySem.F.type_list_sort, isList_typeIs pR.isList, ?_, ?_⟩
  · rintro a ⟨⟩
    obtain ⟨c, e⟩ := pR
    exact ⟨_, e, rfl⟩
  refine callWith_builtin (by rfl) (PyProof.Rows.evalArgs_none ?_)
  have hRl : (rowsOf rg rg.length).length = rg.length := by simp [rowsOf]
  refine sort_rows pR R F₄.kept (by omega) ?_ ?_ fun h₅ vR' rs pR' R' hp hs k₅ => ?_
  · intro r hr
    obtain ⟨p, hp, rfl⟩ := List.mem_map.mp hr
    have := List.mem_range.mp hp
    show p < 64
    omega
  · unfold rowsOf
    rw [List.map_map]
    refine List.pairwise_map.mpr ?_
    refine List.Pairwise.imp_of_mem (fun {a b} ha hb hne e => hne ?_) List.nodup_range
    have h1 := List.mem_range.mp ha
    have h2 := List.mem_range.mp hb
    simp only [Function.comp, codeOf] at e
    omega
  dsimp only
  have F₅ := F₄.but (h' := h₅) 10 (.plain lR vR'.toArray) rfl rfl k₅ pR'
  refine wpAny_execs_nil ?_
  dsimp only
  refine Goes.use (k := 15) ?_ ?_
  · exact next h₅ _ vR' rs F₅ R' hp hs
  · rfl
end
end Mine
end

-- part V12
section
set_option maxRecDepth 100000
set_option maxHeartbeats 1000000
namespace Mine
open PySem PySem.W PySem.Calls PyProof.Rows
theorem ints_nat {vs : List Value} {ts : List Nat} {p : Nat} {t : Tok} (R : IntsAre vs (ts.map fun c : Nat => (c : Int))) : IntsAre (vs ++ [Value.int (p : Nat) t]) ((ts ++ [p]).map fun c : Nat => (c : Int)) := by
  rw [List.map_append]; exact R.append (.cons _ _ .nil)
section
variable {X : Nat → Obj} {L : Life} {kvs : List (Int × Value)} {w : World} {h h' : Heap} {s : Shared}
/-- turns = [place for number, place in rows] -/
theorem stJ {LL lN lT lF I lR : Addr} {g : Heap} {vN vT vF vR : List Value} {rg wl : List Nat} {tr ts tw th : Tok} {sh : Int} {rs : List (Int × Nat)} {Q : Flow → Shared → Prop} (hrs : rs.length ≤ 15)
    (R : RowsAre g vR rs) (F : Lw g LL s.heap (vsH rg wl ts tw lR I) (esI LL lN lT lF lR vN vT vF vR rg tr sh th))
    (next : ∀ h' tk vU lU, Lw g LL h' ([(Str.ofString "turns", .ref lU)] ++ vsE rg wl ts tw) (cellsE LL (some (.ref lN)) (some (.str ⟨rg.toArray⟩ tr)) (some (.ref lT)) (some (.int sh th)) none none none ++ [.plain lU vU.toArray]) →
      IntsAre vU ((rs.map (·.2)).map fun c : Nat => (c : Int)) → Goes w LL 16 Q { s with heap := h', toks := tk }) : Goes w LL 15 Q s := by
  refine Goes.of (k := 15) rfl ?_
  refine wpAny_execs_cons ?_
  have pR : s.heap.PlainList lR vR.toArray := F.at_ 10 rfl
  have hls : lR < s.heap.objs.size := by obtain ⟨o, ho⟩ := pR; exact Heap.lt_size ho
  refine Assign_ListComp_ask (cl := []) rfl rfl (by decide) rfl (by decide) (lf F rfl (wpAny_pyIter_list pR.isList ?_)) (by intro _; rfl)
  have W := Walks.list (prog := pw) (w := w) (A := lawA LL) rfl s.heap.objs.size lR (Nat.ne_of_lt hls) vR.toArray
  have k₁ : ∀ b o, s.heap.get? b = some o → (s.heap.push { cls := .type "list_iterator", data := .fields #[.ref lR, .int 0 0] }).get? b = some o := fun b o e => Heap.get?_push_of_some _ e
  have g0 : ∀ a, (s.heap.push { cls := .type "list_iterator", data := .fields #[.ref lR, .int 0 0] }).get? a = none → s.heap.get? a = none := fun a ha => by
    cases q : s.heap.get? a with
    | none => rfl
    | some o => rw [k₁ _ _ q] at ha; cases ha
  have R' : RowsAre s.heap vR rs := R.keeps fun b o _ e => F.kept b o e
  refine ⟨s.heap.objs.size, [s.heap.objs.size, lR], [s.heap.objs.size], vR.toArray.size, _, _, fun D C i ys s' => s.heap.get? D = none ∧ s.heap.get? C = none ∧ D ≠ C ∧ ∃ h' tk vv, s' = { s with heap := h', toks := tk } ∧ Lw s.heap C h' vv [.lit s.heap.objs.size lR i, .plain D ys.toArray] ∧
    IntsAre ys (((rs.take i).map (·.2)).map fun c : Nat => (c : Int)), rfl, W, by rw [List.size_toArray, R.length, sizeLine_eq]; omega, ?_, ?_, ?_, ?_, ?_⟩
  · intro i v s' Q' E' hil hv hS hq
    have hil' : i < rs.length := by rw [← R.length]; simpa using hil
    obtain ⟨t, u, z, e1, e2⟩ := R'.at i _ (List.getElem?_eq_getElem hil')
    have hv' : vR[i]? = some v := by simpa using hv
    obtain rfl : v = .ref t := Option.some.inj (hv'.symm.trans e1)
    exact wpAny_letOwnedTupleGo_listiter hS.1 hq
  · rintro D C i ys s' ⟨_, _, _, h', tk, vv, rfl, G, _⟩
    exact ⟨G.at_ 0 rfl, pR.isList.at fun o e => G.kept _ o e⟩
  · intro D C h₁ m tk hDC hnD hnC k₂ pD nC
    exact ⟨g0 _ hnD, g0 _ hnC, hDC, h₁, tk, [], rfl, Lf.enter k₁ (it := .lit s.heap.objs.size lR 0) ⟨_, Heap.get?_push_size _ rfl, rfl, rfl⟩ (get_none_size (Nat.le_refl _)) k₂ hnD hnC hDC pD nC, .nil⟩
  · rintro D C i ys s' v h' tk E' hil hyl ⟨q1, q2, q3, h₂, tk₂, vv, rfl, G, Ry⟩ hv hS hkeep
    have G := G.but (h' := h') 0 (.lit s.heap.objs.size lR (i + 1)) rfl rfl (fun b o hb e => hkeep b o (fun q => hb (List.mem_singleton.mp q)) e) hS.1
    have hil' : i < rs.length := by rw [← R.length]; simpa using hil
    obtain ⟨t, u, z, e1, e2⟩ := R'.at i _ (List.getElem?_eq_getElem hil')
    have hv' : vR[i]? = some v := by simpa using hv
    obtain rfl : v = .ref t := Option.some.inj (hv'.symm.trans e1)
    have ht : h'.IsTuple t #[.int (rs[i]).1 u, .int ((rs[i]).2 : Nat) z] := ⟨_, G.kept _ _ e2, rfl, _, rfl⟩
    refine wpAny_assign_Tuple (items := #[.int (rs[i]).1 u, .int ((rs[i]).2 : Nat) z]) rfl ht rfl rfl fun h₃ he₃ => ?_
    have G₃ := G.ext (h' := h₃) fun b o e => he₃ b o (Nat.ne_of_lt (Heap.lt_size e)) e
    unfold assignInOrder
    refine wpAny_bind (assign_Name (sf G₃ fun h₄ G₄ => ?_))
    dsimp only
    unfold assignInOrder
    refine wpAny_bind (assign_Name (sf G₄ fun h₅ G₅ => ?_))
    refine wpAny_pure ?_
    dsimp only
    refine wpAny_pure ?_
    rw [if_pos rfl]
    have htk : rs.take (i + 1) = rs.take i ++ [rs[i]] := by rw [List.take_add_one, List.getElem?_eq_getElem hil']; rfl
    refine lf G₅ rfl ⟨G₅.at_ 1 rfl, fun h₆ hl₆ hs₆ => ⟨q1, q2, q3, h₆, _, _, rfl, G₅.same 1 (.plain D (ys ++ [Value.int ((rs[i]).2 : Nat) z]).toArray) rfl rfl hs₆ hl₆, ?_⟩⟩
    rw [htk, List.map_append]
    exact ints_nat Ry
  · rintro D C ys s' h' tk hyl ⟨q1, q2, q3, h₂, tk₂, vv, rfl, G, Ry⟩ hkeep
    have G := G.lose (h' := h') 0 rfl fun b o hb e => hkeep b o (fun q => hb (List.mem_singleton.mp q)) e
    obtain ⟨mC, nsC⟩ := G.nsOf
    have F₁ := F.push2 (.plain D ys.toArray) (.ns C mC) G.kept (G.at_ 0 rfl) nsC q1 q2 q3
    refine assign_Name (sf F₁ fun h₆ F₆ => ⟨mC, F₆.at_ 12 rfl, fun h₇ hs₇ => ?_⟩)
    have F₇ := F₆.lose (h' := h₇) 12 rfl fun b o hb e => (hs₇.2 b hb).trans e
    dsimp only
    rw [show rs.take vR.toArray.size = rs by rw [List.size_toArray, R.length, List.take_length]] at Ry
    refine Goes.use (k := 16) ?_ ?_
    · exact next h₇ _ ys D (((((F₇.drop 10).drop 9).drop 8).drop 7).fewer ⟨rfl, rfl, rfl, trivial⟩) Ry
    · rfl
end
end Mine
end

-- part V13
section
set_option maxRecDepth 100000
set_option maxHeartbeats 1000000
namespace Mine
open PySem PySem.W PySem.Calls PyProof.Rows
theorem char_end {rg : List Nat} {p : Nat} (hp : p < rg.length) : Txt.charAt ⟨rg.toArray⟩ ((p : Int) - 1) = some (endAt rg p) := by
  unfold Txt.charAt endAt at'
  have hl : (⟨rg.toArray⟩ : Str).length = rg.length := by simp [Str.length]
  rw [hl]
  rcases Nat.eq_zero_or_pos p with rfl | h
  · rw [seqIndex_neg (by decide) (by omega)]
    have e : (((0 : Nat) : Int) - 1 + (rg.length : Nat)).toNat = rg.length - 1 := by omega
    rw [e, Nat.zero_add, Nat.mod_eq_of_lt (by omega), List.getD_eq_getElem?_getD, List.getElem?_eq_getElem (by omega)]
    simp
  · obtain ⟨q, rfl⟩ : ∃ q, p = q + 1 := ⟨p - 1, by omega⟩
    have e : ((q + 1 : Nat) : Int) - 1 = (q : Nat) := by omega
    rw [e, show q + 1 + (rg.length - 1) = q + rg.length by omega, Nat.add_mod_right, Nat.mod_eq_of_lt (by omega)]
    have e2 : seqIndex? ((q : Nat) : Int) rg.length = some q := by
      unfold seqIndex?
      have h1 : ¬ ((q : Int) < 0) := by omega
      simp only [h1, if_false]
      rw [if_pos (by simp; omega)]
      simp
    rw [e2]
    show (rg.toArray)[q]? = _
    rw [List.getElem?_toArray, List.getD_eq_getElem?_getD, List.getElem?_eq_getElem (by omega)]
    rfl
theorem SignsAre.snoc {vs : List Value} {cs : List Nat} {c : Nat} {t : Tok} (R : SignsAre vs cs) : SignsAre (vs ++ [.str ⟨#[c]⟩ t]) (cs ++ [c]) := by
  induction R with
  | nil => exact .cons c t .nil
  | cons d u _ ih => exact .cons d u ih
section
variable {X : Nat → Obj} {L : Life} {kvs : List (Int × Value)} {w : World} {h h' : Heap} {s : Shared}
abbrev vsK (rg wl : List Nat) (ts tw : Tok) (lU : Addr) : List (Str × Value) := [(Str.ofString "turns", .ref lU)] ++ vsE rg wl ts tw
abbrev esK (LL lN lT lU : Addr) (vU : List Value) (rg : List Nat) (tr : Tok) (sh : Int) (th : Tok) (en : Option Value) : List Ent :=
  cellsE LL (some (.ref lN)) (some (.str ⟨rg.toArray⟩ tr)) (some (.ref lT)) (some (.int sh th)) en none none ++ [.plain lU vU.toArray]
/-- ends = [ring[place - 1] for place in turns] -/
theorem stK {LL lN lT lU : Addr} {g : Heap} {vU : List Value} {rg wl tl : List Nat} {tr ts tw th : Tok} {sh : Int} {Q : Flow → Shared → Prop} (hf : rg.length ≤ 15) (htl : tl.length = rg.length) (hlt : ∀ p ∈ tl, p < rg.length)
    (hU : IntsAre vU (tl.map fun c : Nat => (c : Int))) (F : Lw g LL s.heap (vsK rg wl ts tw lU) (esK LL lN lT lU vU rg tr sh th none))
    (next : ∀ h' tk vE lE, Lw g LL h' (vsK rg wl ts tw lU) (esK LL lN lT lU vU rg tr sh th (some (.ref lE)) ++ [.plain lE vE.toArray]) → SignsAre vE (endsOf rg tl) → Goes w LL 17 Q { s with heap := h', toks := tk }) : Goes w LL 16 Q s := by
  refine Goes.of (k := 16) rfl ?_
  refine wpAny_execs_cons ?_
  with_reducible refine wpAny_Assign_Name ?_ ?_
  rotate_left
  · rfl
  have pU : s.heap.PlainList lU vU.toArray := F.at_ 7 rfl
  have hls : lU < s.heap.objs.size := by obtain ⟨o, ho⟩ := pU; exact Heap.lt_size ho
  have hUl : vU.length = tl.length := by rw [ints_len hU, List.length_map]
  refine ListComp_ask (cl := [(Str.ofString "ring", LL + 2)]) rfl (by decide) rfl (by decide) (lf F rfl (wpAny_pyIter_list pU.isList ?_)) (by intro _; rfl)
  have W := Walks.list (prog := pw) (w := w) (A := lawA LL) rfl s.heap.objs.size lU (Nat.ne_of_lt hls) vU.toArray
  have k₁ : ∀ b o, s.heap.get? b = some o → (s.heap.push { cls := .type "list_iterator", data := .fields #[.ref lU, .int 0 0] }).get? b = some o := fun b o e => Heap.get?_push_of_some _ e
  have g0 : ∀ a, (s.heap.push { cls := .type "list_iterator", data := .fields #[.ref lU, .int 0 0] }).get? a = none → s.heap.get? a = none := fun a ha => by
    cases q : s.heap.get? a with
    | none => rfl
    | some o => rw [k₁ _ _ q] at ha; cases ha
  have c2 : s.heap.IsCell (LL + 2) (some (.str ⟨rg.toArray⟩ tr)) := F.at_ 1 rfl
  refine ⟨s.heap.objs.size, [s.heap.objs.size, lU], [s.heap.objs.size], vU.toArray.size, _, _, fun D C i ys s' => s.heap.get? D = none ∧ ∃ h' tk vv, s' = { s with heap := h', toks := tk } ∧ Lw s.heap C h' vv [.lit s.heap.objs.size lU i, .plain D ys.toArray] ∧
    SignsAre ys ((tl.take i).map (endAt rg)), rfl, W, by rw [List.size_toArray, hUl, sizeLine_eq]; omega, fun _ _ _ _ _ _ _ _ hq => wpAny_pure hq, ?_, ?_, ?_, ?_⟩
  · rintro D C i ys s' ⟨_, h', tk, vv, rfl, G, _⟩
    exact ⟨G.at_ 0 rfl, pU.isList.at fun o e => G.kept _ o e⟩
  · intro D C h₁ m tk hDC hnD hnC k₂ pD nC
    exact ⟨g0 _ hnD, h₁, tk, [], rfl, Lf.enter k₁ (it := .lit s.heap.objs.size lU 0) ⟨_, Heap.get?_push_size _ rfl, rfl, rfl⟩ (get_none_size (Nat.le_refl _)) k₂ hnD hnC hDC pD nC, .nil⟩
  · rintro D C i ys s' v h' tk E' hil hyl ⟨q1, h₂, tk₂, vv, rfl, G, Ry⟩ hv hS hkeep
    have G := G.but (h' := h') 0 (.lit s.heap.objs.size lU (i + 1)) rfl rfl (fun b o hb e => hkeep b o (fun q => hb (List.mem_singleton.mp q)) e) hS.1
    have hil' : i < tl.length := by rw [← hUl]; simpa using hil
    obtain ⟨tp, e1⟩ := ints_at hU i ((tl[i] : Nat) : Int) (by rw [List.getElem?_map, List.getElem?_eq_getElem hil']; rfl)
    have hv' : vU[i]? = some v := by simpa using hv
    obtain rfl : v = .int ((tl[i] : Nat) : Int) tp := Option.some.inj (hv'.symm.trans e1)
    have hpl := hlt _ (List.getElem_mem hil')
    refine assign_Name (sf G fun h₄ G₄ => ?_)
    dsimp only
    refine wpAny_pure ?_
    rw [if_pos rfl]
    have hce := char_end hpl
    refine Subscript_BinOp (lcl (c2.keeps G₄.kept) (wpAny_BinOp (lf G₄ rfl (wpAny_Constant_int (PyProof.Rows.sub_int ?_))))) (by intro _ _; rfl)
    refine SB.item (by unfold fitsSsize; simp; omega) (by rw [hce]; rfl) ?_
    have hit : Txt.item ⟨rg.toArray⟩ ((tl[i] : Int) - 1) = ⟨#[endAt rg tl[i]]⟩ := by unfold Txt.item; rw [hce]; rfl
    rw [hit]
    have htk : tl.take (i + 1) = tl.take i ++ [tl[i]] := by rw [List.take_add_one, List.getElem?_eq_getElem hil']; rfl
    refine ⟨G₄.at_ 1 rfl, fun h₆ hl₆ hs₆ => ⟨q1, h₆, _, _, rfl, G₄.same 1 (.plain D (ys ++ [Value.str ⟨#[endAt rg tl[i]]⟩ _]).toArray) rfl rfl hs₆ hl₆, ?_⟩⟩
    rw [htk, List.map_append]
    exact Ry.snoc
  · rintro D C ys s' h' tk hyl ⟨q1, h₂, tk₂, vv, rfl, G, Ry⟩ hkeep
    have G := G.lose (h' := h') 0 rfl fun b o hb e => hkeep b o (fun q => hb (List.mem_singleton.mp q)) e
    obtain ⟨mC, nsC⟩ := G.nsOf
    refine ⟨mC, nsC, fun h₃ hs₃ => ?_⟩
    obtain ⟨a1, a2⟩ := G.leave hs₃
    have F₁ := F.push (.plain D ys.toArray) a1 (a2 _ (.head _)) q1
    refine sc F₁ 4 rfl fun h₆ F₆ => ?_
    dsimp only
    rw [show tl.take vU.toArray.size = tl by rw [List.size_toArray, hUl, List.take_length]] at Ry
    refine Goes.use (k := 17) ?_ ?_
    · exact next h₆ _ ys D F₆ Ry
    · rfl
end
end Mine
end

-- part V14
section
set_option maxRecDepth 100000
set_option maxHeartbeats 2000000
namespace Mine
open PySem PySem.W PySem.Calls PyProof.Rows
theorem WsAt.weak {h : Heap} {Y Y' : Addr → Prop} {x : Addr} {cnt : List Int} (W : WsAt h Y x cnt) (hy : ∀ b, Y b → Y' b) : WsAt h Y' x cnt := by
  obtain ⟨dx, mA, n, tp, tc, t, vs, h1, h2, h3, h4, h5, h6, y1, y2, y3, y4⟩ := W
  exact ⟨dx, mA, n, tp, tc, t, vs, h1, h2, h3, h4, h5, h6, hy _ y1, hy _ y2, hy _ y3, hy _ y4⟩
theorem SignsAre.take {vs : List Value} {cs : List Nat} (R : SignsAre vs cs) : ∀ i, SignsAre (vs.take i) (cs.take i) := by
  induction R with
  | nil => intro i; simp; exact .nil
  | cons c t _ ih =>
    intro i
    cases i with
    | zero => exact .nil
    | succ i => exact .cons c t (ih i)
/-- the heads: an instance for every beginning of the ends -/
def Heads (g : Heap) (Y : Addr → Prop) (hs : List Addr) (ends : List Nat) : Prop := ∀ (j : Nat) (x : Addr), hs[j]? = some x → WsAt g Y x (normOf (ends.take j))
section
variable {X : Nat → Obj} {L : Life} {kvs : List (Int × Value)} {w : World} {h h' : Heap} {s : Shared}
theorem m_indent (X L w) : (H1 X L w).nsMap mainGlobals (Str.ofString "_law_indent") = some (.ref 177) := by kernel_rfl
abbrev vsL (rg wl : List Nat) (ts tw : Tok) (lU lH : Addr) : List (Str × Value) := [(Str.ofString "heads", .ref lH)] ++ vsK rg wl ts tw lU
abbrev esL (LL lN lT lU lE lH : Addr) (vU vE : List Value) (hs : List Addr) (rg : List Nat) (tr : Tok) (sh : Int) (th : Tok) : List Ent :=
  esK LL lN lT lU vU rg tr sh th (some (.ref lE)) ++ [.plain lE vE.toArray, .plain lH (hs.map Value.ref).toArray]
/-- heads = [Whitespace(_law_indent(ends[:k])) for k in range(size + 1)] -/
theorem stL {LL lN lT lU lE : Addr} {g : Heap} {vU vE : List Value} {rg wl en : List Nat} {tr ts tw th : Tok} {sh : Int} {Q : Flow → Shared → Prop} (B : Base X L kvs w g) (hf : rg.length ≤ 15) (hen : en.length = rg.length) (hfe : AllFis en)
    (hE : SignsAre vE en) (F : Lw g LL s.heap (vsK rg wl ts tw lU) (esK LL lN lT lU vU rg tr sh th (some (.ref lE)) ++ [.plain lE vE.toArray]))
    (next : ∀ g' h' tk hs lH, (∀ b o, g.get? b = some o → g'.get? b = some o) → Lw g' LL h' (vsL rg wl ts tw lU lH) (esL LL lN lT lU lE lH vU vE hs rg tr sh th) → hs.length = rg.length + 1 → Heads g' (fun _ => True) hs en →
      Goes w LL 18 Q { s with heap := h', toks := tk }) : Goes w LL 17 Q s := by
  have hD : ∀ b, False → (H1 X L w).get? b = none := fun b q => q.elim
  have hdp := lawA_depth LL
  have hEl : vE.length = en.length := hE.length
  refine Goes.of (k := 17) rfl ?_
  refine wpAny_execs_cons ?_
  refine Assign_ListComp_ask (cl := [(Str.ofString "ends", LL + 5)]) rfl rfl (by decide) rfl (by decide) ?_ (by intro _; rfl)
  refine range_then (n := rg.length + 1) (F.base B hD) (by omega) (wpAny_BinOp (lf F rfl (wpAny_Constant_int (PyProof.Rows.add_int ⟨⟨_, by rw [Int.natCast_add]; rfl⟩, fun h₁ tk₁ I k₁ n₁ r₁ => ?_⟩)))) rfl
  dsimp only at k₁ n₁ ⊢
  have c5 : s.heap.IsCell (LL + 5) (some (.ref lE)) := F.at_ 4 rfl
  have pE : s.heap.PlainList lE vE.toArray := F.at_ 8 rfl
  have Bs : Base X L kvs w s.heap := F.base B hD
  refine ⟨I, [I], [I], rg.length + 1, _, _, fun D C i ys s' => s.heap.get? D = none ∧ s.heap.get? C = none ∧ D ≠ C ∧ ∃ g' h' tk vv hs, s' = { s with heap := h', toks := tk } ∧ (∀ b o, s.heap.get? b = some o → g'.get? b = some o) ∧
    Lw g' C h' vv [.rng I (0 + (i : Nat) * 1) ((rg.length + 1 : Nat) - (i : Nat)) 1, .plain D ys.toArray] ∧ ys = hs.map Value.ref ∧ hs.length = i ∧ Heads g' (fun b => s.heap.get? b = none) hs en,
    rfl, Walks.range (lawA_handled LL) I 0 1 (rg.length + 1), by rw [sizeLine_eq]; omega, fun _ _ _ _ _ _ _ _ hq => wpAny_pure hq, ?_, ?_, ?_, ?_⟩
  · rintro D C i ys s' ⟨_, _, _, g', h', tk, vv, hs, rfl, kg, G, _⟩
    exact G.at_ 0 rfl
  · intro D C h₃ m tk hDC hnD hnC k₃ pD nC
    have g0 : ∀ a, h₁.get? a = none → s.heap.get? a = none := fun a ha => by
      cases q : s.heap.get? a with
      | none => rfl
      | some o => have := k₁ _ _ q; rw [ha] at this; cases this
    exact ⟨g0 _ hnD, g0 _ hnC, hDC, s.heap, h₃, tk, [], [], rfl, fun _ _ e => e, Lf.enter (it := .rng I _ _ _) k₁ r₁ n₁ k₃ hnD hnC hDC pD nC, rfl, rfl, fun j x hx => by simp at hx⟩
  · rintro D C i ys s' v h' tk E' hil hyl ⟨q1, q2, q3, g', h₃, tk₃, vv, hs, rfl, kg, G, rfl, hsl, HH⟩ ⟨t, rfl⟩ hS hkeep
    have G := G.but (h' := h') 0 (.rng I (0 + ((i + 1 : Nat) : Int) * 1) (((rg.length + 1 : Nat) : Int) - ((i + 1 : Nat) : Int)) 1) rfl rfl (fun b o hb e => hkeep b o (fun q => hb (List.mem_singleton.mp q)) e) hS
    rw [show (0 : Int) + (i : Nat) * 1 = (i : Nat) by omega]
    refine assign_Name (sf G fun h₄ G₄ => ?_)
    dsimp only
    refine wpAny_pure ?_
    rw [if_pos rfl]
    have kk : ∀ {h vv es}, Lw g' C h vv es → ∀ b o, s.heap.get? b = some o → h.get? b = some o := fun G b o e => G.kept _ _ (kg _ _ e)
    refine Call_Name1 (gname (Bs.mono (kk G₄)) rfl (m_ws X L w) ?_ rfl rfl)
    refine ws_call (Bs.mono (kk G₄)) rfl ?_
    refine Call_Name1 (gname (Bs.mono (kk G₄)) rfl (m_indent X L w) (callWith_fn1 (o := o177_p13 w.params) rfl ?_) rfl rfl)
    have pE₄ : h₄.PlainList lE vE.toArray := pE.at fun o e => kk G₄ _ o e
    refine wpAny_Subscript_list_slice (lcl (c5.keeps (kk G₄)) (wpAny_pure (lf G₄ rfl ⟨lE, vE.toArray, none, some (i : Int), rfl, pE₄.isList, by rw [List.size_toArray, sizeLine_eq]; omega, .none, .int _ _, ?_⟩))) (by intro _ _; rfl)
    rw [slicePick_upto']
    have k₅ : ∀ b o, h₄.get? b = some o → ((h₄.push { cls := .type "slice", data := .fields #[.none, .int (i : Nat) t, .none] }).push { cls := .type "list", data := .seq (vE.take i).toArray }).get? b = some o := fun b o e => Heap.get?_push_of_some _ (Heap.get?_push_of_some _ e)
    have G₅ := G₄.ext k₅
    have e5 := Heap.get?_push_size (h₄.push { cls := .type "slice", data := .fields #[.none, .int (i : Nat) t, .none] }) (o := { cls := .type "list", data := .seq (vE.take i).toArray }) rfl
    rw [Heap.size_push] at e5
    refine ⟨kk G₅ _ _ (Bs.keep _ _ (h1_o177 X L w)), ?_⟩
    have hEt : SignsAre (vE.take i) (en.take i) := hE.take i
    refine indent_ok (cs := en.take i) (Bs.mono (kk G₅)) (by omega) rfl (.list _ _ ⟨_, e5, rfl, _, rfl⟩ hEt) (fun c hc => hfe c (List.mem_of_mem_take hc)) (by rw [List.length_take]; omega) fun h₆ tk₆ t₆ k₆ => ?_
    have G₆ := G₅.ext k₆
    refine ⟨fun b o e => k₆ _ _ (k₅ _ _ e), ?_⟩
    refine ws_new (cs := en.take i) (Y := fun b => s.heap.get? b = none ∧ b ≠ C ∧ ∀ e ∈ [Ent.rng I (0 + ((i + 1 : Nat) : Int) * 1) (((rg.length + 1 : Nat) : Int) - ((i + 1 : Nat) : Int)) 1, Ent.plain D (hs.map Value.ref).toArray], b ≠ e.a)
      (Bs.mono (kk G₆)) (by omega) rfl (by rw [List.length_take]; omega) (fun b hb => ⟨?_, G₆.fresh hb⟩) fun h₇ tk₇ x Wx hx k₇ => ?_
    · cases q : s.heap.get? b with
      | none => rfl
      | some o => have := kk G₆ _ _ q; dsimp only at hb; rw [hb] at this; cases this
    have G₇ := G₆.ext k₇
    obtain ⟨g₈, G₈, k₈, hk₈⟩ := G₇.freeze
    have Wx₈ : WsAt g₈ (fun b => s.heap.get? b = none) x (normOf (en.take i)) := (Wx.keeps fun b o ⟨_, y2, y3⟩ e => hk₈ b o e y2 y3).weak fun b y => y.1
    refine ⟨G₈.at_ 1 rfl, fun h₉ hl₉ hs₉ => ⟨q1, q2, q3, g₈, h₉, _, _, hs ++ [x], rfl, fun b o e => k₈ _ _ (kg b o e), G₈.same 1 (.plain D (hs.map Value.ref ++ [Value.ref x]).toArray) rfl rfl hs₉ hl₉, by simp, by simp [hsl], ?_⟩⟩
    intro j y hy
    rcases Nat.lt_or_ge j hs.length with hj | hj
    · rw [List.getElem?_append_left hj] at hy
      exact (HH j y hy).keeps fun b o _ e => k₈ b o e
    · rw [List.getElem?_append_right hj] at hy
      have : j - hs.length = 0 := by
        rcases Nat.eq_zero_or_pos (j - hs.length) with h0 | h0
        · exact h0
        · rw [List.getElem?_eq_none (by simp; omega)] at hy; cases hy
      rw [this] at hy
      simp at hy
      subst hy
      obtain rfl : j = i := by omega
      exact Wx₈
  · rintro D C ys s' h' tk hyl ⟨q1, q2, q3, g', h₃, tk₃, vv, hs, rfl, kg, G, rfl, hsl, HH⟩ hkeep
    have G := G.lose (h' := h') 0 rfl fun b o hb e => hkeep b o (fun q => hb (List.mem_singleton.mp q)) e
    obtain ⟨mC, nsC⟩ := G.nsOf
    have F₁ := F.push2 (.plain D (hs.map Value.ref).toArray) (.ns C mC) (fun b o e => G.kept _ _ (kg _ _ e)) (G.at_ 0 rfl) nsC q1 q2 q3
    obtain ⟨g₄, F₄, k₄, hk₄⟩ := F₁.freeze
    have H₄ : Heads g₄ (fun _ => True) hs en := fun j x hx => by
      refine ((HH j x hx).keeps (h' := g₄) fun b o hb e => hk₄ b o (G.kept _ _ e) ?_ ?_).weak fun _ _ => trivial
      · exact (F.fresh hb).1
      · intro e he q
        rcases List.mem_append.mp he with he | he
        · exact (F.fresh hb).2 e he q
        · rcases List.mem_cons.mp he with rfl | he
          · rcases G.new 0 rfl with h1 | h1
            · exact h1
            · have h1' : g'.get? D = none := h1
              have q' : b = D := q
              rw [q', h1'] at e; cases e
          · obtain rfl := List.mem_singleton.mp he
            obtain ⟨_, _, Bg⟩ := G
            rcases Bg.new _ (.head _) with h1 | h1
            · exact h1
            · have h1' : g'.get? C = none := h1
              have q' : b = C := q
              rw [q', h1'] at e; cases e
    refine assign_Name (sf F₄ fun h₆ F₆ => ⟨mC, F₆.at_ 10 rfl, fun h₇ hs₇ => ?_⟩)
    have F₇ := F₆.lose (h' := h₇) 10 rfl fun b o hb e => (hs₇.2 b hb).trans e
    dsimp only
    refine Goes.use (k := 18) ?_ ?_
    · exact next g₄ h₇ _ hs D k₄ F₇ hsl H₄
    · rfl
end
end Mine
end

-- part V15
section
set_option maxRecDepth 100000
set_option maxHeartbeats 2000000
namespace Mine
open PySem PySem.W PySem.Calls PyProof.Rows
theorem first_zero : ∀ (tl : List Nat), 0 ∈ tl → ∃ j, tl[j]? = some 0 ∧ ∀ (m p : Nat), m < j → tl[m]? = some p → p ≠ 0
  | [], h => by cases h
  | a :: r, h => by
    by_cases ha : a = 0
    · exact ⟨0, by simp [ha], fun m p hm => absurd hm (by omega)⟩
    · obtain ⟨j, h1, h2⟩ := first_zero r (by
        rcases List.mem_cons.mp h with h | h
        · exact absurd h.symm ha
        · exact h)
      refine ⟨j + 1, by simpa using h1, fun m p hm hp => ?_⟩
      cases m with
      | zero => simp at hp; omega
      | succ m => exact h2 m p (by omega) (by simpa using hp)
section
variable {X : Nat → Obj} {L : Life} {kvs : List (Int × Value)} {w : World} {h h' : Heap} {s : Shared} {A : Around} {E : Value → Shared → Prop}
theorem meth_equal {x : Addr} {mA : Str → Option Value} {pl : Sem Bool} {Q : Value × List Value → Shared → Prop} (B : Base X L kvs w s.heap) (I : s.heap.Inst x 154 mA) (he : mA (Str.ofString "equal") = none) (hq : Q (.ref 130, [.ref x]) s) :
    wpAny (model pw w) A (getMethod (.ref x) (Str.ofString "equal") pl) Q E s := by
  obtain ⟨hh', g, d, t, os⟩ := s
  obtain ⟨nm, q, bs, sn, sub, col, dd, k0, k1, k2, k3, k5, hC⟩ := B.cls.obj
  exact method_of hC B.cls.ns (n_ga X L w) (n_gh X L w) (n_equal X L w) (B.keep _ _ (h1_o130 X L w)) rfl ob_equal I he hq
theorem callWith_meth1 {M : Model} {pos : Pos} {f : Addr} {o : Obj} {fd : FuncData} {first : List Value} {t : Sem Value} {Q : Value → Shared → Prop} (hdat : o.data = .func fd)
    (h : wpAny M A t (fun v s₁ => s₁.heap.get? f = some o ∧ wpAny M A (PySem.call (.ref f) (first ++ [v])) Q E s₁) E s) : wpAny M A (callWith pos (.ref f) first [(false, t)] []) Q E s :=
  callWith_function (o := o) (fd := fd) (evalArgs_plain (spliced_cons (wpAny_mono h (fun _ _ h₁ => spliced_nil ⟨⟨h₁.1, hdat⟩, h₁.2⟩) fun _ _ x => x)))
/-- if heads[size].equal(Whitespace(_law_indent(ring))) is not True -/
theorem stM {LL lN lT lU lE lH : Addr} {g : Heap} {vU vE : List Value} {hs : List Addr} {rg wl en : List Nat} {tr ts tw th : Tok} {sh : Int} {Q : Flow → Shared → Prop} (B : Base X L kvs w g) (hr : AllFis rg) (hf : rg.length ≤ 15) (hen : en.length = rg.length)
    (hnorm : normOf en = normOf rg) (hsl : hs.length = rg.length + 1) (HH : Heads g (fun _ => True) hs en) (F : Lw g LL s.heap (vsL rg wl ts tw lU lH) (esL LL lN lT lU lE lH vU vE hs rg tr sh th))
    (next : ∀ h' tk, Lw g LL h' (vsL rg wl ts tw lU lH) (esL LL lN lT lU lE lH vU vE hs rg tr sh th) → Goes w LL 19 Q { s with heap := h', toks := tk }) : Goes w LL 18 Q s := by
  have hD : ∀ b, False → (H1 X L w).get? b = none := fun b q => q.elim
  have hdp := lawA_depth LL
  refine Goes.of (k := 18) rfl ?_
  refine wpAny_execs_cons ?_
  refine wpAny_If (wpAny_isTrue_Compare1 ?_)
  obtain ⟨xn, hxn⟩ : ∃ xn, hs[rg.length]? = some xn := ⟨hs[rg.length]'(by omega), List.getElem?_eq_getElem _⟩
  have pH : s.heap.PlainList lH (hs.map Value.ref).toArray := F.at_ 9 rfl
  have Wn := HH _ _ hxn
  rw [show en.take rg.length = en by rw [← hen, List.take_length], hnorm] at Wn
  with_reducible refine Call_methodI ab_sub ?_ ?_ ?_
  · rfl
  · rfl
  refine Subscript_Name (lf F rfl (lf F rfl ⟨"list", _, slot_list_getitem.lookup, isList_typeIs pH.isList, wpAny_getItem_list pH.isList (by omega) (by omega) (x := .ref xn) (by simp [hxn]) ?_⟩)) (by intro _ _; rfl)
  intro pl
  obtain ⟨mA, v, I, _, he, _, _⟩ := (Wn.keeps (h' := s.heap) fun b o _ e => F.kept b o e).reads
  refine meth_equal (F.base B hD) I he ?_
  refine callWith_meth1 (o := o130_p9 w.params) rfl ?_
  refine Call_Name1 (gname (F.base B hD) rfl (m_ws X L w) (ws_call (F.base B hD) rfl ?_) rfl rfl)
  refine Call_Name1 (gname (F.base B hD) rfl (m_indent X L w) (callWith_fn1 (o := o177_p13 w.params) rfl (lc F 1 rfl ⟨F.kept _ _ (B.keep _ _ (h1_o177 X L w)), ?_⟩)) rfl rfl)
  refine indent_ok (cs := rg) (F.base B hD) (by omega) rfl (.str _ _ (by simp)) hr (by omega) fun h₁ tk₁ t₁ k₁ => ?_
  have F₁ := F.ext k₁
  refine ⟨k₁, ws_new (cs := rg) (Y := fun _ => True) (F₁.base B hD) (by omega) rfl (by omega) (fun _ _ => trivial) fun h₂ tk₂ y Wy hy k₂ => ?_⟩
  have F₂ := F₁.ext k₂
  refine ⟨F₂.kept _ _ (B.keep _ _ (h1_o130 X L w)), ?_⟩
  refine equal_ok (F₂.base B hD) (by omega) (by rw [lawA_units]; decide) (Wn.keeps fun b o _ e => F₂.kept b o e) Wy fun h₃ tk₃ k₃ => ?_
  have F₃ := F₂.ext k₃
  refine wpAny_pure (wpAny_isNot_plain rfl (wpAny_truthy_bool ?_))
  rw [if_neg (by decide)]
  refine wpAny_execs_nil ?_
  dsimp only
  refine Goes.use (k := 19) ?_ ?_
  · exact next h₃ _ F₃
  · rfl
abbrev vsN (rg wl : List Nat) (ts tw : Tok) (lU lH : Addr) (bk : List Nat) (tb : Tok) (row : Nat) (to : Tok) : List (Str × Value) := [(Str.ofString "back", .str ⟨bk.toArray⟩ tb), (Str.ofString "row", .int (row : Nat) to)] ++ vsL rg wl ts tw lU lH
/-- row = turns.index(0); back = '' -/
theorem stN {LL lN lT lU lE lH : Addr} {g : Heap} {vU vE : List Value} {hs : List Addr} {rg wl tl : List Nat} {tr ts tw th : Tok} {sh : Int} {Q : Flow → Shared → Prop} (htl : tl.length ≤ 15) (h0 : 0 ∈ tl)
    (hU : IntsAre vU (tl.map fun c : Nat => (c : Int))) (F : Lw g LL s.heap (vsL rg wl ts tw lU lH) (esL LL lN lT lU lE lH vU vE hs rg tr sh th))
    (next : ∀ h' tk tb to j, tl[j]? = some 0 → Lw g LL h' (vsN rg wl ts tw lU lH [] tb j to) (esL LL lN lT lU lE lH vU vE hs rg tr sh th) → Goes w LL 21 Q { s with heap := h', toks := tk }) : Goes w LL 19 Q s := by
  obtain ⟨j, hj, hno⟩ := first_zero tl h0
  have hUl : vU.length = tl.length := by rw [ints_len hU, List.length_map]
  have hjl : j < tl.length := (List.getElem?_eq_some_iff.mp hj).1
  refine Goes.of (k := 19) rfl ?_
  refine wpAny_execs_cons ?_
  with_reducible refine wpAny_Assign_Name ?_ swap_call
  with_reducible refine Call_method1 ab_name ?_ ?_ ?_
  · rfl
  · rfl
  obtain ⟨n, pU⟩ : s.heap.PlainList lU vU.toArray := F.at_ 7 rfl
  refine lf F rfl ⟨"list", "list.index", PySem.F.plainAttrs_list, PySem.F.slot_list_index, PySem.F.type_list_index, ⟨_, pU, rfl⟩, ?_, ?_⟩
  · rintro a ⟨⟩
    exact ⟨_, pU, rfl⟩
  refine callWith_builtin (by rfl) (Calls.evalArgs_plain (Calls.spliced_cons (wpAny_Constant_int (Calls.spliced_nil ?_))))
  have hat : ∀ (m : Nat) (hm : m < vU.toArray.size), ∃ p t, tl[m]? = some p ∧ vU.toArray[m] = .int (p : Nat) t := fun m hm => by
    have hm' : m < tl.length := by rw [← hUl]; simpa using hm
    obtain ⟨t, e⟩ := ints_at hU m ((tl[m] : Nat) : Int) (by rw [List.getElem?_map, List.getElem?_eq_getElem hm']; rfl)
    refine ⟨tl[m], t, List.getElem?_eq_getElem hm', ?_⟩
    have := (List.getElem?_eq_some_iff.mp e).2
    simpa using this
  refine call_meets PySem.F.slot_list_index ⟨_, pU, rfl⟩ PySem.F.entry_list_index (PySem.F.args_list_index_2 _ _)
    (MeetsSeq.list_index lU vU.toArray n (.int 0 _) (fun y => match y with | .int k _ => k == 0 | _ => false) ?_ j (by rw [List.size_toArray]; omega) (by omega) ?_ ?_) ⟨pU, ?_⟩
  · intro y hy
    obtain ⟨m, hm, rfl⟩ := Array.mem_iff_getElem.mp hy
    obtain ⟨p, t, _, e⟩ := hat m hm
    rw [e]
    exact MeetsSeq.EqGives.int _ _ _ _
  · obtain ⟨p, t, e1, e2⟩ := hat j (by rw [List.size_toArray]; omega)
    rw [e2]
    rw [hj] at e1
    have := Option.some.inj e1
    subst this
    rfl
  · intro m hm hlt
    obtain ⟨p, t, e1, e2⟩ := hat m hm
    rw [e2]
    have := hno m p hlt e1
    show ((p : Int) == 0) = false
    rw [beq_eq_false_iff_ne]; omega
  refine sf F fun h₁ F₁ => ?_
  dsimp only
  refine wpAny_execs_cons ?_
  with_reducible refine wpAny_Assign_Name ?_ swap_const
  refine wpAny_mkText (sf F₁ fun h₂ F₂ => ?_)
  dsimp only
  refine Goes.use (k := 21) ?_ ?_
  · exact next h₂ _ _ _ j hj F₂
  · rfl
end
end Mine
end

-- part V16
section
set_option maxRecDepth 100000
set_option maxHeartbeats 2000000
namespace Mine
open PySem PySem.W PySem.Calls PyProof.Rows
theorem win_shift {rg : List Nat} (hn : 0 < rg.length) {p q : Nat} (h : win rg rg.length p = win rg rg.length q) (k : Nat) : win rg rg.length (p + k) = win rg rg.length (q + k) := by
  apply List.ext_getElem?
  intro j
  by_cases hj : j < rg.length
  · rw [win_get _ _ _ _ hj, win_get _ _ _ _ hj, Nat.add_assoc, Nat.add_assoc, win_all hn h]
  · rw [List.getElem?_eq_none (by rw [win_length]; omega), List.getElem?_eq_none (by rw [win_length]; omega)]
theorem win_back {rg : List Nat} {i : Nat} (hi : i < rg.length) : win rg rg.length (rg.length - i + (rg.length - 1)) = win rg rg.length (rg.length - (i + 1)) := by
  rw [← win_mod, show rg.length - i + (rg.length - 1) = rg.length - (i + 1) + rg.length by omega, Nat.add_mod_right, win_mod]
theorem drop_back {rg : List Nat} {i : Nat} (hi : i < rg.length) : rg.drop (rg.length - (i + 1)) = at' rg (rg.length - i + (rg.length - 1)) :: rg.drop (rg.length - i) := by
  have e : at' rg (rg.length - i + (rg.length - 1)) = rg[rg.length - (i + 1)] := by
    unfold at'
    rw [show rg.length - i + (rg.length - 1) = rg.length - (i + 1) + rg.length by omega, Nat.add_mod_right, Nat.mod_eq_of_lt (by omega), List.getD_eq_getElem?_getD, List.getElem?_eq_getElem (by omega)]; rfl
  rw [e, List.drop_eq_getElem_cons (by omega)]
  congr 2
  omega
theorem SignsAre.get {vs : List Value} {cs : List Nat} (R : SignsAre vs cs) {i c : Nat} (h : cs[i]? = some c) : ∃ t : Tok, vs[i]? = some (Value.str ⟨#[c]⟩ t) := by
  have hl : i < vs.length := by rw [R.length]; exact (List.getElem?_eq_some_iff.mp h).1
  obtain ⟨c', t, e1, e2⟩ := R.at i vs[i] (List.getElem?_eq_getElem hl)
  rw [h] at e1
  obtain rfl := Option.some.inj e1
  exact ⟨t, by rw [List.getElem?_eq_getElem hl, e2]⟩
section
variable {X : Nat → Obj} {L : Life} {kvs : List (Int × Value)} {w : World} {h h' : Heap} {s : Shared} {A : Around} {E : Value → Shared → Prop} {env : Env}
theorem m_ahead (X L w) : (H1 X L w).nsMap mainGlobals (Str.ofString "_law_ahead") = some (.ref 184) := by kernel_rfl
theorem Call_Name3' {M : Model} {x : Str} {p pos : Pos} {e₁ e₂ e₃ : Expr} {Q : Value → Shared → Prop}
    (h : wpAny M A (eval (.Name x p) env) (fun f s₁ => wpAny M A (callWith pos f [] [(false, eval e₁ env), (false, eval e₂ env), (false, eval e₃ env)] []) Q E s₁) E s)
    (hs : starEach [e₁, e₂, e₃] env = [(false, eval e₁ env), (false, eval e₂ env), (false, eval e₃ env)]) :
    wpAny M A (eval (.Call (.Name x p) [e₁, e₂, e₃] [] pos) env) Q E s := Call_Name (by rw [hs]; rfl) h
/-- _law_ahead, called with the heads -/
theorem ahead_call {lH : Addr} {g : Heap} {hs : List Addr} {rg en : List Nat} {c row : Nat} {t to : Tok} {Q : Value → Shared → Prop} (B : Base X L kvs w g) (kg : ∀ b o, g.get? b = some o → s.heap.get? b = some o) (hA : A.depth < recursionLimit) (hh : A.handled = none)
    (hf : rg.length ≤ 15) (hen : en.length = rg.length) (hsl : hs.length = rg.length + 1) (HH : Heads g (fun _ => True) hs en) (pH : s.heap.IsList lH (hs.map Value.ref).toArray) (hc : Fis c) (hrow : row ≤ rg.length)
    (hQ : ∀ h' tk t', (∀ b o, s.heap.get? b = some o → h'.get? b = some o) → Q (.int ((ahead en c row : Nat) : Int) t') { s with heap := h', toks := tk }) :
    wpAny (model pw w) A (PySem.call (.ref 184) [.ref lH, .str ⟨#[c]⟩ t, .int (row : Nat) to]) Q E s := by
  refine ahead_ok (n := rg.length) (cn := fun j => normOf (en.take j)) (B.mono kg) hA hh pH hsl (by omega) (fun j x hx => (HH j x hx).keeps fun b o _ e => kg b o e) hc hrow (fun j _ => Nat.le_trans (normOf_length _) (by decide)) fun h' tk t' k => ?_
  have e : ((normOf (en.take rg.length)).take (rk c)).sum + (((normOf (en.take row)).drop (rk c)).take 1).sum = ((ahead en c row : Nat) : Int) := by
    rw [show en.take rg.length = en by rw [← hen, List.take_length]]; exact ahead_int en c row
  exact e ▸ hQ h' tk t' k
theorem stO {LL lN lT lU lE lH : Addr} {g : Heap} {vU vE : List Value} {hs : List Addr} {rg wl tl : List Nat} {tr ts tw th tb to : Tok} {sh : Int} {j : Nat} {Q : Flow → Shared → Prop} (B : Base X L kvs w g) (hr : AllFis rg) (hn : 0 < rg.length) (hf : rg.length ≤ 15)
    (T : Turned rg tl) (hE : SignsAre vE (endsOf rg tl)) (hsl : hs.length = rg.length + 1) (HH : Heads g (fun _ => True) hs (endsOf rg tl)) (hj : tl[j]? = some 0)
    (F : Lw g LL s.heap (vsN rg wl ts tw lU lH [] tb j to) (esL LL lN lT lU lE lH vU vE hs rg tr sh th))
    (next : ∀ h' tk, Lw g LL h' (vsL rg wl ts tw lU lH) (esL LL lN lT lU lE lH vU vE hs rg tr sh th) → Goes w LL 23 Q { s with heap := h', toks := tk }) : Goes w LL 21 Q s := by
  have hD : ∀ b, False → (H1 X L w).get? b = none := fun b q => q.elim
  have hdp := lawA_depth LL
  have htl := turned_len hr hn T
  have hel : (endsOf rg tl).length = rg.length := by unfold endsOf; rw [List.length_map, htl]
  have hEl : vE.length = rg.length := by rw [hE.length, hel]
  refine Goes.of (k := 21) rfl ?_
  refine wpAny_execs_cons ?_
  refine wpAny_For ?_
  refine range_then (n := rg.length) (F.base B hD) (by omega) (lf F rfl ⟨⟨_, rfl⟩, fun h₁ tk₁ I k₁ n₁ r₁ => ?_⟩) rfl
  have F₁ := F.push (.rng I _ _ _) k₁ r₁ n₁
  refine for_walk (Walks.range (lawA_handled LL) I 0 1 rg.length) (fun i s' => ∃ h' tk tb to row p, s' = { s with heap := h', toks := tk } ∧
    Lw g LL h' (vsN rg wl ts tw lU lH (rg.drop (rg.length - i)) tb row to) (esL LL lN lT lU lE lH vU vE hs rg tr sh th ++ [.rng I (0 + (i : Nat) * 1) ((rg.length : Nat) - (i : Nat)) 1]) ∧
    tl[row]? = some p ∧ win rg rg.length p = win rg rg.length (rg.length - i)) ?_ r₁ ?_ ?_
  · refine ⟨h₁, tk₁, tb, to, j, 0, rfl, ?_, hj, ?_⟩
    · rw [show rg.drop (rg.length - 0) = [] by simp]; exact F₁
    · rw [Nat.sub_zero, ← win_mod rg rg.length rg.length, Nat.mod_self]
  · rintro i s' v h' tk E' hil ⟨h₂, tk₂, tb₂, to₂, row, p, rfl, G, hp, hw⟩ ⟨t, rfl⟩ hS hkeep
    have G := G.but (h' := h') 10 (.rng I (0 + ((i + 1 : Nat) : Int) * 1) ((rg.length : Int) - ((i + 1 : Nat) : Int)) 1) rfl rfl (fun b o hb e => hkeep b o (fun q => hb (List.mem_singleton.mp q)) e) hS
    refine assign_Name (sf G fun h₃ G₃ => ?_)
    dsimp only
    have hrl : row < tl.length := (List.getElem?_eq_some_iff.mp hp).1
    have hc : (endsOf rg tl)[row]? = some (endAt rg p) := by unfold endsOf; rw [List.getElem?_map, hp]; rfl
    obtain ⟨tc, hvc⟩ := hE.get hc
    have hfc : Fis (endAt rg p) := at'_fis hr hn _
    have hce : endAt rg p = at' rg (rg.length - i + (rg.length - 1)) := by unfold endAt; exact win_all hn hw _
    have pE : h₃.PlainList lE vE.toArray := G₃.at_ 8 rfl
    refine wpAny_execs_cons ?_
    with_reducible refine wpAny_Assign_Name ?_ swap_bin
    refine wpAny_BinOp (Subscript_Name (lc G₃ 4 rfl (lf G₃ rfl ⟨"list", _, slot_list_getitem.lookup, isList_typeIs pE.isList, wpAny_getItem_list pE.isList (by omega) (by omega) (x := .str ⟨#[endAt rg p]⟩ tc) (by simpa using hvc) ?_⟩)) (by intro _ _; rfl))
    refine lf G₃ rfl (PyProof.Rows.add_str (fun t₄ tk₄ => ?_) (by rw [sizeLine_eq]; simp [Str.length]; omega))
    have estr : (⟨#[endAt rg p]⟩ : Str) ++ ⟨(rg.drop (rg.length - i)).toArray⟩ = ⟨(rg.drop (rg.length - (i + 1))).toArray⟩ := by
      rw [drop_back hil, ← hce, show (⟨#[endAt rg p]⟩ : Str) = ⟨[endAt rg p].toArray⟩ from rfl, str_app]; rfl
    rw [estr]
    refine sf G₃ fun h₄ G₄ => ?_
    dsimp only
    refine wpAny_execs_cons ?_
    with_reducible refine wpAny_Assign_Name ?_ swap_call
    refine Call_Name3' (gname (G₄.base B hD) rfl (m_ahead X L w) (callWith_fn3 (o := o184_p14 w.params) rfl (lf G₄ rfl ?_)) rfl rfl) rfl
    have pE₄ : h₄.PlainList lE vE.toArray := G₄.at_ 8 rfl
    refine Subscript_Name (lc G₄ 4 rfl (lf G₄ rfl ⟨"list", _, slot_list_getitem.lookup, isList_typeIs pE₄.isList, wpAny_getItem_list pE₄.isList (by omega) (by omega) (x := .str ⟨#[endAt rg p]⟩ tc) (by simpa using hvc) ?_⟩)) (by intro _ _; rfl)
    refine lf G₄ rfl ⟨G₄.kept _ _ (B.keep _ _ (h1_o184 X L w)), ?_⟩
    refine ahead_call B G₄.kept (by omega) rfl hf hel hsl HH (G₄.at_ 9 rfl : Heap.PlainList _ _ _).isList hfc (by omega) fun h₅ tk₅ t₅ k₅ => ?_
    have G₅ := G₄.ext k₅
    refine sf G₅ fun h₆ G₆ => ?_
    dsimp only
    obtain ⟨p', hp', hw'⟩ := ahead_row hr hn T row p hp
    refine wpAny_execs_nil ⟨rfl, ⟨h₆, _, _, _, _, p', rfl, G₆.fewer ⟨rfl, rfl, rfl, rfl, rfl, rfl, trivial⟩, hp', ?_⟩, G₆.at_ 10 rfl⟩
    rw [hw', win_shift hn hw, win_back hil]
  · rintro s' h' tk ⟨h₂, tk₂, tb₂, to₂, row, p, rfl, G, hp, hw⟩ hkeep
    have G := G.lose (h' := h') 10 rfl fun b o hb e => hkeep b o (fun q => hb (List.mem_singleton.mp q)) e
    dsimp only
    refine wpAny_execs_cons ?_
    refine wpAny_If (wpAny_isTrue_Compare1 (lf G rfl (lc G 1 rfl (PyProof.Rows.ne_str (wpAny_truthy_bool ?_)))))
    rw [if_neg (by rw [Nat.sub_self, List.drop_zero]; simp)]
    refine wpAny_execs_nil ?_
    dsimp only
    refine Goes.use (k := 23) ?_ ?_
    · exact next h' tk (G.fewer ⟨rfl, rfl, rfl, rfl, trivial⟩)
    · rfl
end
end Mine
end

-- part V17
section
set_option maxRecDepth 100000
set_option maxHeartbeats 2000000
namespace Mine
open PySem PySem.W PySem.Calls PyProof.Rows
/-- the ring, eleven times round -/
def arL (rg : List Nat) : List Nat := (List.replicate 11 rg).flatten
theorem arL_length (rg : List Nat) : (arL rg).length = 11 * rg.length := by unfold arL; simp; omega
theorem flat_at (rg : List Nat) (hn : 0 < rg.length) : ∀ (k j : Nat), j < k * rg.length → ((List.replicate k rg).flatten)[j]? = some (at' rg j)
  | 0, j, h => by omega
  | k + 1, j, h => by
    rw [List.replicate_succ, List.flatten_cons]
    rcases Nat.lt_or_ge j rg.length with h1 | h1
    · rw [List.getElem?_append_left h1, List.getElem?_eq_getElem h1]
      unfold at'
      rw [Nat.mod_eq_of_lt h1, List.getD_eq_getElem?_getD, List.getElem?_eq_getElem h1]; rfl
    · rw [List.getElem?_append_right h1, flat_at rg hn k _ (by rw [Nat.succ_mul] at h; omega)]
      congr 1
      refine at'_congr ?_
      rw [Nat.mod_eq_sub_mod h1]
theorem around_win {rg : List Nat} (hn : 0 < rg.length) {p k : Nat} (hp : p < rg.length) (hk : k ≤ 9) : ((arL rg).drop p).take k = win rg k p := by
  apply List.ext_getElem?
  intro j
  rw [List.getElem?_take]
  by_cases hj : j < k
  · rw [if_pos hj, List.getElem?_drop, win_get _ _ _ _ hj]
    exact flat_at rg hn 11 _ (by omega)
  · rw [if_neg hj, List.getElem?_eq_none (by rw [win_length]; omega)]
theorem reps_arr (rg : List Nat) : ∀ (k : Nat) (acc : Array Nat), (List.replicate k rg.toArray).foldl (· ++ ·) acc = acc ++ ((List.replicate k rg).flatten).toArray
  | 0, acc => by simp
  | k + 1, acc => by
    rw [List.replicate_succ, List.foldl_cons, reps_arr rg k, List.replicate_succ, List.flatten_cons]
    apply Array.toList_inj.mp
    simp
theorem swap_name {x : Str} {p : Pos} {t : Option Expr} {l : Nat} {env : Env} : swapsWith (.Name x p) t l env = pure false := by unfold swapsWith; rfl
section
variable {X : Nat → Obj} {L : Life} {kvs : List (Int × Value)} {w : World} {h h' : Heap} {s : Shared} {A : Around} {E : Value → Shared → Prop} {env : Env}
abbrev vsP (rg wl : List Nat) (ts tw : Tok) (lU lH : Addr) (lo hi : Nat) (tl th : Tok) : List (Str × Value) := [(Str.ofString "high", .int (hi : Nat) th), (Str.ofString "low", .int (lo : Nat) tl)] ++ vsL rg wl ts tw lU lH
abbrev esP (LL lN lT lU lE lH : Addr) (vU vE : List Value) (hs : List Addr) (rg : List Nat) (tr : Tok) (sh : Int) (th : Tok) (ta : Tok) (so : Option Value) : List Ent :=
  cellsE LL (some (.ref lN)) (some (.str ⟨rg.toArray⟩ tr)) (some (.ref lT)) (some (.int sh th)) (some (.ref lE)) (some (.str ⟨(arL rg).toArray⟩ ta)) so ++ [.plain lU vU.toArray, .plain lE vE.toArray, .plain lH (hs.map Value.ref).toArray]
theorem stP {LL lN lT lU lE lH : Addr} {g : Heap} {vU vE : List Value} {hs : List Addr} {rg wl : List Nat} {tr ts tw th : Tok} {sh : Int} {Q : Flow → Shared → Prop} (hn : 0 < rg.length) (hf : rg.length ≤ 15)
    (F : Lw g LL s.heap (vsL rg wl ts tw lU lH) (esL LL lN lT lU lE lH vU vE hs rg tr sh th))
    (next : ∀ h' tk ta t1 t2, Lw g LL h' (vsP rg wl ts tw lU lH 0 rg.length t1 t2) (esP LL lN lT lU lE lH vU vE hs rg tr sh th ta none) → Goes w LL 26 Q { s with heap := h', toks := tk }) : Goes w LL 23 Q s := by
  refine Goes.of (k := 23) rfl ?_
  refine wpAny_execs_cons ?_
  with_reducible refine wpAny_Assign_Name ?_ swap_bin
  refine wpAny_BinOp (lc F 1 rfl (wpAny_Constant_int (P.mul_str (by decide) (fun _ _ => ?_) (fun _ _ => ?_) ?_)))
  · have el : (⟨rg.toArray⟩ : Str).length = rg.length := by simp [Str.length]
    rw [el]
    have hb : (1000 : Int) ≤ ((2 : Int) ^ 63 - 1) / 11 := by decide
    exact fun q => by have q' : ((2 : Int) ^ 63 - 1) / 11 < (rg.length : Int) := q; omega
  · have : (⟨rg.toArray⟩ : Str).length = rg.length := by simp [Str.length]
    rw [this]
    unfold Builtin.Str.tooLong
    simp only [decide_eq_false_iff_not, gt_iff_lt, Nat.not_lt, sizeLine_eq]
    show rg.length * 11 ≤ _
    omega
  have elen : (⟨rg.toArray⟩ : Str).length = rg.length := by simp [Str.length]
  rw [if_neg (by decide), if_neg (by
    rw [elen]
    have h0 : (rg.length == 0) = false := by rw [beq_eq_false_iff_ne]; omega
    rw [h0]; decide)]
  have e : (⟨(List.replicate (11 : Int).toNat (⟨rg.toArray⟩ : Str).cps).foldl (· ++ ·) #[]⟩ : Str) = ⟨(arL rg).toArray⟩ := by
    apply Str.ext'
    show (List.replicate 11 rg.toArray).foldl (· ++ ·) #[] = _
    rw [reps_arr]; simp [arL]
  rw [e]
  refine ⟨by rw [sizeLine_eq]; show (arL rg).toArray.size ≤ _; rw [List.size_toArray, arL_length]; omega, ?_⟩
  refine sc F 5 rfl fun h₁ F₁ => ?_
  dsimp only
  refine wpAny_execs_cons ?_
  with_reducible refine wpAny_Assign_Name ?_ swap_const
  refine wpAny_Constant_int (sf F₁ fun h₂ F₂ => ?_)
  dsimp only
  refine wpAny_execs_cons ?_
  with_reducible refine wpAny_Assign_Name ?_ swap_name
  refine lf F₂ rfl (sf F₂ fun h₃ F₃ => ?_)
  dsimp only
  refine Goes.use (k := 26) ?_ ?_
  · exact next h₃ _ _ _ _ F₃
  · rfl
end
end Mine
end

-- part V18
section
set_option maxRecDepth 100000
set_option maxHeartbeats 2000000
namespace Mine
open PySem PySem.W PySem.Calls PyProof.Rows
section
variable {X : Nat → Obj} {L : Life} {kvs : List (Int × Value)} {w : World} {h h' : Heap} {s : Shared} {A : Around} {E : Value → Shared → Prop} {env : Env}
def standsL (rg P : List Nat) : List Nat := (List.range rg.length).filter fun p => decide (win rg P.length p = P)
def standsTo (rg P : List Nat) (i : Nat) : List Nat := (List.range i).filter fun p => decide (win rg P.length p = P)
/-- stands = [place for place in range(size) if around[place:place + len(sought)] == sought] -/
theorem stands_comp {LL : Addr} {g : Heap} {vs : List (Str × Value)} {es : List Ent} {rg P : List Nat} {ts ta to : Tok} {Qf : Flow → Shared → Prop} {scope : Scope} (B : Base X L kvs w g) (hn : 0 < rg.length) (hf : rg.length ≤ 15) (hP9 : P.length ≤ 9)
    (F : Lw g LL s.heap vs es) (hsz : vs.lookup (Str.ofString "size") = some (.int (rg.length : Nat) ts)) (c6 : s.heap.IsCell (LL + 6) (some (.str ⟨(arL rg).toArray⟩ ta))) (c7 : s.heap.IsCell (LL + 7) (some (.str ⟨P.toArray⟩ to)))
    {p1 p2 p3 p4 p5 p6 p7 p8 p9 q1 q2 q3 q4 q5 q6 q7 q8 q9 q0 : Pos}
    (hsc : scope = { kind := .function, names := [(Str.ofString ".0", .local), (Str.ofString "place", .local), (Str.ofString "len", .globalImplicit), (Str.ofString "around", .free), (Str.ofString "sought", .free)], isGenerator := false, isCoroutine := false, more := [] })
    (hsw : swapsWith (.ListComp (.Name (Str.ofString "place") p1) [⟨.Name (Str.ofString "place") p2, .Call (.Name (Str.ofString "range") p3) [.Name (Str.ofString "size") p4] [] p5,
      [.Compare (.Subscript (.Name (Str.ofString "around") p6) (.Slice (some (.Name (Str.ofString "place") p7)) (some (.BinOp (.Name (Str.ofString "place") p8) .Add (.Call (.Name (Str.ofString "len") p9) [.Name (Str.ofString "sought") q1] [] q2) q3)) none q7) q8) [.Eq] [.Name (Str.ofString "sought") q9] q0], 0⟩]
      scope q5) (some (.Name (Str.ofString "stands") q4)) q6.line (lawEnv LL) = pure true)
    (hQ : ∀ h' tk D ys, Lw g LL h' ((Str.ofString "stands", .ref D) :: vs) (es ++ [.plain D ys.toArray]) → IntsAre ys ((standsL rg P).map fun c : Nat => (c : Int)) → Qf .next { s with heap := h', toks := tk }) :
    wpAny (model pw w) (lawA LL) (exec (.Assign [.Name (Str.ofString "stands") q4] (.ListComp (.Name (Str.ofString "place") p1) [⟨.Name (Str.ofString "place") p2, .Call (.Name (Str.ofString "range") p3) [.Name (Str.ofString "size") p4] [] p5,
      [.Compare (.Subscript (.Name (Str.ofString "around") p6) (.Slice (some (.Name (Str.ofString "place") p7)) (some (.BinOp (.Name (Str.ofString "place") p8) .Add (.Call (.Name (Str.ofString "len") p9) [.Name (Str.ofString "sought") q1] [] q2) q3)) none q7) q8) [.Eq] [.Name (Str.ofString "sought") q9] q0], 0⟩]
      scope q5) q6) (lawEnv LL)) Qf E s := by
  subst hsc
  have hD : ∀ b, False → (H1 X L w).get? b = none := fun b q => q.elim
  refine Assign_ListComp_ask (cl := [(Str.ofString "sought", LL + 7), (Str.ofString "around", LL + 6)]) hsw rfl (by decide) rfl (by decide) ?_ (by intro _; rfl)
  refine range_then (n := rg.length) (F.base B hD) (by omega) (lf F hsz ⟨⟨_, rfl⟩, fun h₁ tk₁ I k₁ n₁ r₁ => ?_⟩) rfl
  have Bs : Base X L kvs w s.heap := F.base B hD
  refine ⟨I, [I], [I], rg.length, _, _, fun D C i ys s' => s.heap.get? D = none ∧ s.heap.get? C = none ∧ D ≠ C ∧ ∃ h' tk vv, s' = { s with heap := h', toks := tk } ∧
    Lw s.heap C h' vv [.rng I (0 + (i : Nat) * 1) ((rg.length : Nat) - (i : Nat)) 1, .plain D ys.toArray] ∧ IntsAre ys ((standsTo rg P i).map fun c : Nat => (c : Int)),
    rfl, Walks.range (lawA_handled LL) I 0 1 rg.length, by rw [sizeLine_eq]; omega, fun _ _ _ _ _ _ _ _ hq => wpAny_pure hq, ?_, ?_, ?_, ?_⟩
  · rintro D C i ys s' ⟨_, _, _, h', tk, vv, rfl, G, _⟩
    exact G.at_ 0 rfl
  · intro D C h₃ m tk hDC hnD hnC k₃ pD nC
    have g0 : ∀ a, h₁.get? a = none → s.heap.get? a = none := fun a ha => by
      cases q : s.heap.get? a with
      | none => rfl
      | some o => have := k₁ _ _ q; rw [ha] at this; cases this
    exact ⟨g0 _ hnD, g0 _ hnC, hDC, h₃, tk, [], rfl, Lf.enter (it := .rng I _ _ _) k₁ r₁ n₁ k₃ hnD hnC hDC pD nC, .nil⟩
  · rintro D C i ys s' v h' tk E' hil hyl ⟨q1, q2, q3, h₃, tk₃, vv, rfl, G, R⟩ ⟨t, rfl⟩ hS hkeep
    have G := G.but (h' := h') 0 (.rng I (0 + ((i + 1 : Nat) : Int) * 1) ((rg.length : Int) - ((i + 1 : Nat) : Int)) 1) rfl rfl (fun b o hb e => hkeep b o (fun q => hb (List.mem_singleton.mp q)) e) hS
    rw [show (0 : Int) + (i : Nat) * 1 = (i : Nat) by omega]
    refine assign_Name (sf G fun h₄ G₄ => ?_)
    dsimp only
    have hst : standsTo rg P (i + 1) = standsTo rg P i ++ (if win rg P.length i = P then [i] else []) := by
      unfold standsTo
      rw [List.range_succ, List.filter_append]
      by_cases hw : win rg P.length i = P <;> simp [hw]
    refine wpAny_tests_one (wpAny_isTrue_Compare1 (sl_ss (lcl (c6.keeps G₄.kept) ⟨arL rg, ta, rfl, by rw [arL_length]; omega, lf G₄ rfl ⟨i, t, rfl, ?_⟩⟩) (by intro _ _; rfl)))
    refine wpAny_BinOp (lf G₄ rfl (Call_Name1 (bname (Bs.mono G₄.kept) rfl rfl (m_len X L w) (b_len X L w) (callWith_builtin1 (lcl (c7.keeps G₄.kept) (PyProof.Rows.len_str (by simp [Str.length]; omega) (PyProof.Rows.add_int ?_)))) rfl rfl)))
    have el : (⟨P.toArray⟩ : Str).length = P.length := by simp [Str.length]
    refine ⟨i + P.length, _, by rw [el, Int.natCast_add], by omega, by rw [arL_length]; omega, fun h₅ t₅ k₅ kp₅ => ?_⟩
    have G₅ := G₄.ext kp₅
    rw [show i + P.length - i = P.length by omega, around_win hn hil hP9]
    refine lcl (c7.keeps G₅.kept) (PySem.P.eq_str (wpAny_truthy_bool ?_))
    by_cases hw : win rg P.length i = P
    · rw [show ((⟨(win rg P.length i).toArray⟩ : Str).cps.toList == (⟨P.toArray⟩ : Str).cps.toList) = true by rw [hw]; exact beq_self_eq_true _, if_pos rfl]
      refine lf G₅ rfl ⟨G₅.at_ 1 rfl, fun h₉ hl₉ hs₉ => ⟨q1, q2, q3, h₉, _, _, rfl, G₅.same 1 (.plain D (ys ++ [Value.int (i : Nat) t]).toArray) rfl rfl hs₉ hl₉, ?_⟩⟩
      rw [hst, if_pos hw]
      exact ints_nat R
    · rw [show ((⟨(win rg P.length i).toArray⟩ : Str).cps.toList == (⟨P.toArray⟩ : Str).cps.toList) = false by rw [beq_eq_false_iff_ne]; exact hw, if_neg (by decide)]
      refine ⟨q1, q2, q3, h₅, _, _, rfl, G₅, ?_⟩
      rw [hst, if_neg hw, List.append_nil]
      exact R
  · rintro D C ys s' h' tk hyl ⟨q1, q2, q3, h₃, tk₃, vv, rfl, G, R⟩ hkeep
    have G := G.lose (h' := h') 0 rfl fun b o hb e => hkeep b o (fun q => hb (List.mem_singleton.mp q)) e
    obtain ⟨mC, nsC⟩ := G.nsOf
    have F₁ := F.push2 (.plain D ys.toArray) (.ns C mC) G.kept (G.at_ 0 rfl) nsC q1 q2 q3
    refine assign_Name (sf F₁ fun h₆ F₆ => ?_)
    have hes : (es ++ [Ent.plain D ys.toArray, Ent.ns C mC])[es.length + 1]? = some (.ns C mC) := by
      rw [List.getElem?_append_right (by omega), show es.length + 1 - es.length = 1 by omega]; rfl
    refine ⟨mC, F₆.at_ _ hes, fun h₇ hs₇ => ?_⟩
    have F₇ := F₆.lose (h' := h₇) (es.length + 1) hes fun b o hb e => (hs₇.2 b hb).trans e
    have her : (es ++ [Ent.plain D ys.toArray, Ent.ns C mC]).eraseIdx (es.length + 1) = es ++ [.plain D ys.toArray] := by
      rw [List.eraseIdx_append_of_length_le (by omega), show es.length + 1 - es.length = 1 by omega]; rfl
    rw [her] at F₇
    exact hQ h₇ _ D ys F₇ R
end
end Mine
end

-- part V19
section
set_option maxRecDepth 100000
set_option maxHeartbeats 1000000
namespace Mine
open PySem PySem.W PySem.Calls PyProof.Rows
theorem char_at {l : List Nat} {c x : Nat} (h : l[c]? = some x) : Txt.charAt ⟨l.toArray⟩ ((c : Nat) : Int) = some x := by
  unfold Txt.charAt
  have hl : (⟨l.toArray⟩ : Str).length = l.length := by simp [Str.length]
  have hc : c < l.length := (List.getElem?_eq_some_iff.mp h).1
  rw [hl]
  have e2 : seqIndex? ((c : Nat) : Int) l.length = some c := by
    unfold seqIndex?
    have h1 : ¬ ((c : Int) < 0) := by omega
    simp only [h1, if_false]
    rw [if_pos (by simp; omega)]
    simp
  rw [e2]
  show (l.toArray)[c]? = _
  rw [List.getElem?_toArray, h]
theorem down_key : ∀ m < 10, Builtin.Range.small (((m : Nat) : Int) - 1) (-1) (-1) = true ∧ Builtin.Range.rangeSize (((m : Nat) : Int) - 1) (-1) (-1) = ((m : Nat) : Int) ∧ Builtin.divisionGoesByPylong (-1 - (((m : Nat) : Int) - 1)) (-1) = false := by decide +kernel
theorem stands_sorted (rg P : List Nat) : ((standsL rg P).map fun c : Nat => (c : Int)).Pairwise (· ≤ ·) := by
  unfold standsL
  rw [List.pairwise_map]
  refine (List.Pairwise.filter _ List.pairwise_lt_range).imp ?_
  intro a b h
  omega
section
variable {X : Nat → Obj} {L : Life} {kvs : List (Int × Value)} {w : World} {h h' : Heap} {s : Shared} {A : Around} {E : Value → Shared → Prop} {env : Env}
theorem b_sorted (X L w) : (H1 X L w).nsMap builtinsNs (Str.ofString "sorted") = some (.builtin "sorted") := by kernel_rfl
theorem m_sorted (X L w) : (H1 X L w).nsMap mainGlobals (Str.ofString "sorted") = none := by kernel_rfl
theorem callWith_type3 {M : Model} {T : String} {pos : Pos} {t₁ t₂ t₃ : Sem Value} {Q : Value → Shared → Prop} (h : wpAny M A t₁ (fun v s₁ => wpAny M A t₂ (fun u s₂ => wpAny M A t₃ (fun z s₃ => wpAny M A (PySem.call (.type T) [v, u, z]) Q E s₃) E s₂) E s₁) E s) :
    wpAny M A (callWith pos (.type T) [] [(false, t₁), (false, t₂), (false, t₃)] []) Q E s :=
  PySem.callWith_type rfl (Calls.evalArgs_plain (Calls.spliced_cons (wpAny_mono h (fun _ _ h₁ => Calls.spliced_cons (wpAny_mono h₁ (fun _ _ h₂ => Calls.spliced_cons (wpAny_mono h₂ (fun _ _ h₃ => Calls.spliced_nil h₃) fun _ _ e => e)) fun _ _ e => e)) fun _ _ e => e)))
/-- range(m - 1, -1, -1), begun to be walked -/
theorem range_down {e₁ e₂ e₃ : Expr} {p pos : Pos} {m : Nat} {Q : Value → Shared → Prop} (B : Base X L kvs w s.heap) (hm : m < 10)
    (he : wpAny (model pw w) A (eval e₁ env) (fun v s₁ => wpAny (model pw w) A (eval e₂ env) (fun u s₂ => wpAny (model pw w) A (eval e₃ env) (fun z s₃ => (∃ t, v = .int (((m : Nat) : Int) - 1) t) ∧ (∃ t, u = .int (-1) t) ∧ (∃ t, z = .int (-1) t) ∧
      ∀ h' tk I, (∀ b o, s₃.heap.get? b = some o → h'.get? b = some o) → s₃.heap.get? I = none → IsRangeIter h' I (((m : Nat) : Int) - 1 + ((0 : Nat) : Int) * (-1)) ((m : Int) - ((0 : Nat) : Int)) (-1) → Q (.ref I) { s₃ with heap := h', toks := tk }) E s₂) E s₁) E s)
    (hs : starEach [e₁, e₂, e₃] env = [(false, eval e₁ env), (false, eval e₂ env), (false, eval e₃ env)]) (hg : env.globals = mainGlobals := by rfl) (hb : env.builtins = builtinsNs := by rfl) (hk : env.scope.kind = .function := by rfl) (hx : env.kindOf (Str.ofString "range") = some .globalImplicit := by rfl) :
    wpAny (model pw w) A (eval (.Call (.Name (Str.ofString "range") p) [e₁, e₂, e₃] [] pos) env) (fun xv s₁ => wpAny (model pw w) A (pyIter xv) Q E s₁) E s := by
  refine Call_Name3' (bname B hg hb (m_range X L w) (b_range X L w) (callWith_type3 (wpAny_mono he (fun v s₁ h₁ => wpAny_mono h₁ (fun u s₂ h₂ => wpAny_mono h₂ (fun z s₃ h₃ => ?_) fun _ _ e => e) fun _ _ e => e) fun _ _ e => e)) hk hx) hs
  obtain ⟨⟨t1, rfl⟩, ⟨t2, rfl⟩, ⟨t3, rfl⟩, hQ⟩ := h₃
  obtain ⟨d1, d2, d3⟩ := down_key m hm
  refine call_range_3 (by decide) ?_ (Or.inl d3)
  refine wpAny_pyIter_range (Heap.get?_push_size _ rfl) d1 ?_
  rw [d2]
  dsimp only
  refine hQ _ s₃.toks _ (fun b o e => Heap.get?_push_of_some _ (Heap.get?_push_of_some _ e)) (get_none_size (by rw [Heap.size_push]; exact Nat.le_succ _)) ?_
  rw [show (((m : Nat) : Int) - 1 + ((0 : Nat) : Int) * (-1)) = (m : Nat) - 1 by omega, show (m : Int) - ((0 : Nat) : Int) = m by omega]
  exact Heap.get?_push_size _ rfl
theorem stQ {LL lN lT lU lE lH : Addr} {g : Heap} {vU vE : List Value} {hs : List Addr} {rg wl tl : List Nat} {tr ts tw th ta t1 t2 : Tok} {sh : Int} {Q : Flow → Shared → Prop} (B : Base X L kvs w g) (hr : AllFis rg) (hn : 0 < rg.length) (hf : rg.length ≤ 15) (hw : AllFis wl) (hw9 : wl.length ≤ 9)
    (T : Turned rg tl) (hU : IntsAre vU (tl.map fun c : Nat => (c : Int))) (hsl : hs.length = rg.length + 1) (HH : Heads g (fun _ => True) hs (endsOf rg tl))
    (F : Lw g LL s.heap (vsP rg wl ts tw lU lH 0 rg.length t1 t2) (esP LL lN lT lU lE lH vU vE hs rg tr sh th ta none))
    (hQ : ∀ h' tk, (∀ b o, g.get? b = some o → h'.get? b = some o) → Q (.ret (.bool true)) { s with heap := h', toks := tk }) : Goes w LL 26 Q s := by
  have hD : ∀ b, False → (H1 X L w).get? b = none := fun b q => q.elim
  have hdp := lawA_depth LL
  have htl := turned_len hr hn T
  have hUl : vU.length = rg.length := by rw [ints_len hU, List.length_map, htl]
  have hel : (endsOf rg tl).length = rg.length := by unfold endsOf; rw [List.length_map, htl]
  have elw : (⟨wl.toArray⟩ : Str).length = wl.length := by simp [Str.length]
  refine Goes.of (k := 26) rfl ?_
  refine wpAny_execs_cons ?_
  refine wpAny_For ?_
  refine range_down (m := wl.length) (F.base B hD) (by omega) (wpAny_BinOp (Call_Name1 (bname (F.base B hD) rfl rfl (m_len X L w) (b_len X L w) (callWith_builtin1 (lf F rfl (PyProof.Rows.len_str (by rw [elw]; omega) (wpAny_Constant_int (PyProof.Rows.sub_int ?_))))) rfl rfl))) rfl
  rw [elw]
  refine wpAny_UnaryOp (wpAny_Constant_int (PyProof.Rows.neg_int (wpAny_UnaryOp (wpAny_Constant_int (PyProof.Rows.neg_int ⟨⟨_, rfl⟩, ⟨_, rfl⟩, ⟨_, rfl⟩, fun h₁ tk₁ I k₁ n₁ r₁ => ?_⟩)))))
  have F₁ := F.push (.rng I _ _ _) k₁ r₁ n₁
  refine for_walk (Walks.range (lawA_handled LL) I ((wl.length : Int) - 1) (-1) wl.length) (fun i s' => ∃ h' tk t1 t2 so, s' = { s with heap := h', toks := tk } ∧
    Lw g LL h' (vsP rg wl ts tw lU lH (lowOf rg (wl.drop (wl.length - i))) (highOf rg (wl.drop (wl.length - i))) t1 t2) (esP LL lN lT lU lE lH vU vE hs rg tr sh th ta so ++ [.rng I ((wl.length : Int) - 1 + (i : Nat) * (-1)) ((wl.length : Nat) - (i : Nat)) (-1)])) ?_ r₁ ?_ ?_
  · refine ⟨h₁, tk₁, t1, t2, none, rfl, ?_⟩
    rw [Nat.sub_zero, List.drop_length, low_nil hr hn, high_nil hr hn]
    exact F₁
  · rintro i s' v h' tk E' hil ⟨h₂, tk₂, u1, u2, so, rfl, G⟩ ⟨t, rfl⟩ hS hkeep
    have G := G.but (h' := h') 10 (.rng I ((wl.length : Int) - 1 + ((i + 1 : Nat) : Int) * (-1)) ((wl.length : Int) - ((i + 1 : Nat) : Int)) (-1)) rfl rfl (fun b o hb e => hkeep b o (fun q => hb (List.mem_singleton.mp q)) e) hS
    obtain ⟨c, hc⟩ : ∃ c, c = wl.length - (i + 1) := ⟨_, rfl⟩
    have hcl : c < wl.length := by omega
    obtain ⟨x, hx⟩ : ∃ x, wl[c]? = some x := ⟨_, List.getElem?_eq_getElem hcl⟩
    have hxf : Fis x := hw x (List.mem_of_getElem? hx)
    have hdr : wl.drop c = x :: wl.drop (wl.length - i) := by
      rw [List.drop_eq_getElem_cons hcl, show c + 1 = wl.length - i by omega]
      rw [List.getElem?_eq_getElem hcl] at hx
      rw [Option.some.inj hx]
    have hPf : AllFis (wl.drop (wl.length - i)) := fun d hd => hw d (List.mem_of_mem_drop hd)
    rw [show ((wl.length : Int) - 1 + (i : Nat) * (-1)) = ((c : Nat) : Int) by omega]
    refine assign_Name (sf G fun h₃ G₃ => ?_)
    dsimp only
    have hce := char_at hx
    have hit : Txt.item ⟨wl.toArray⟩ ((c : Nat) : Int) = ⟨#[x]⟩ := by unfold Txt.item; rw [hce]; rfl
    -- low
    refine wpAny_execs_cons ?_
    with_reducible refine wpAny_Assign_Name ?_ swap_call
    refine Call_Name3' (gname (G₃.base B hD) rfl (m_ahead X L w) (callWith_fn3 (o := o184_p14 w.params) rfl (lf G₃ rfl ?_)) rfl rfl) rfl
    refine Subscript_Name (lf G₃ rfl (lf G₃ rfl (SB.item (by unfold fitsSsize; simp; omega) (by rw [hce]; rfl) ?_))) (by intro _ _; rfl)
    rw [hit]
    refine lf G₃ rfl ⟨G₃.kept _ _ (B.keep _ _ (h1_o184 X L w)), ?_⟩
    refine ahead_call B G₃.kept (by omega) rfl hf hel hsl HH (G₃.at_ 9 rfl : Heap.PlainList _ _ _).isList hxf (cntB_le hr hn _ _) fun h₄ tk₄ t₄ k₄ => ?_
    rw [ahead_low hr hn T x _ hxf hPf, ← hdr]
    refine sf (G₃.ext k₄) fun h₅ G₅ => ?_
    dsimp only
    -- high
    refine wpAny_execs_cons ?_
    with_reducible refine wpAny_Assign_Name ?_ swap_call
    refine Call_Name3' (gname (G₅.base B hD) rfl (m_ahead X L w) (callWith_fn3 (o := o184_p14 w.params) rfl (lf G₅ rfl ?_)) rfl rfl) rfl
    refine Subscript_Name (lf G₅ rfl (lf G₅ rfl (SB.item (by unfold fitsSsize; simp; omega) (by rw [hce]; rfl) ?_))) (by intro _ _; rfl)
    rw [hit]
    refine lf G₅ rfl ⟨G₅.kept _ _ (B.keep _ _ (h1_o184 X L w)), ?_⟩
    refine ahead_call B G₅.kept (by omega) rfl hf hel hsl HH (G₅.at_ 9 rfl : Heap.PlainList _ _ _).isList hxf (cntB_le hr hn _ _) fun h₆ tk₆ t₆ k₆ => ?_
    rw [ahead_high hr hn T x _ hxf hPf, ← hdr]
    refine sf (G₅.ext k₆) fun h₇ G₇ => ?_
    dsimp only
    -- sought
    refine wpAny_execs_cons ?_
    with_reducible refine wpAny_Assign_Name ?_ swap_sub
    refine sl_from (lf G₇ rfl ⟨wl, tw, rfl, by omega, lf G₇ rfl ⟨c, t, rfl, by omega, fun h₈ t₈ tk₈ k₈ => ?_⟩⟩) (by intro _ _; rfl)
    refine sc (G₇.ext k₈) 6 rfl fun h₉ G₉ => ?_
    dsimp only
    -- stands
    have hPd : AllFis (wl.drop c) := fun d hd => hw d (List.mem_of_mem_drop hd)
    have c6 : h₉.IsCell (LL + 6) (some (.str ⟨(arL rg).toArray⟩ ta)) := G₉.at_ 5 rfl
    have c7 : h₉.IsCell (LL + 7) (some (.str ⟨(wl.drop c).toArray⟩ t₈)) := G₉.at_ 6 rfl
    have hPl : (wl.drop c).length ≤ 9 := by rw [List.length_drop]; omega
    refine wpAny_execs_cons ?_
    refine stands_comp (s := { s with heap := h₉, toks := tk₈ }) (LL := LL) (P := wl.drop c) (rg := rg) (ta := ta) (to := t₈) B hn hf hPl G₉ rfl c6 c7 ?_ ?_ fun h₁₀ tk₁₀ D ys G₁₀ Ry => ?_
    · rfl
    · rfl
    obtain ⟨hle, hperm⟩ := cut_perm hr hn T (wl.drop c) hPd
    have hhi : highOf rg (wl.drop c) ≤ rg.length := cntB_le hr hn _ _
    have hlen : ys.length = highOf rg (wl.drop c) - lowOf rg (wl.drop c) := by
      rw [ints_len Ry, List.length_map]
      have := hperm.length_eq
      rw [List.length_drop, List.length_take, htl] at this
      show (standsL rg (wl.drop c)).length = _
      unfold standsL
      omega
    refine wpAny_execs_cons (wpAny_If (wpAny_isTrue_BoolOp (wpAny_allTrue_Or_cons (wpAny_isTrue_Compare1 ?_))))
    refine wpAny_BinOp (lf G₁₀ rfl (lf G₁₀ rfl (PyProof.Rows.sub_int (Call_Name1 (bname (G₁₀.base B hD) rfl rfl (m_len X L w) (b_len X L w) (callWith_builtin1 (lf G₁₀ rfl (call_len_list (G₁₀.at_ 11 rfl : Heap.PlainList _ _ _).isList (by rw [List.size_toArray]; omega) (PyProof.Rows.ne_int (wpAny_truthy_bool ?_))))) rfl rfl)))))
    have hz : (((highOf rg (wl.drop c) : Nat) : Int) - ((lowOf rg (wl.drop c) : Nat) : Int) != ((ys.toArray.size : Nat) : Int)) = false := by
      rw [List.size_toArray, hlen, bne_eq_false_iff_eq]
      omega
    rw [hz, if_neg (by decide)]
    refine wpAny_allTrue_Or_cons (wpAny_isTrue_Compare1 ?_)
    have pU : h₁₀.PlainList lU vU.toArray := G₁₀.at_ 7 rfl
    refine Call_Name1 (bname (G₁₀.base B hD) rfl rfl (m_sorted X L w) (b_sorted X L w) (callWith_builtin1 (wpAny_Subscript_list_slice (lf G₁₀ rfl (lf G₁₀ rfl (lf G₁₀ rfl ⟨lU, vU.toArray, some ((lowOf rg (wl.drop c) : Nat) : Int), some ((highOf rg (wl.drop c) : Nat) : Int), rfl, pU.isList, by rw [List.size_toArray, sizeLine_eq]; omega, .int _ _, .int _ _, ?_⟩))) (by intro _ _; rfl))) rfl rfl)
    rw [slicePick_run _ _ _ (by rw [List.size_toArray]; omega) hle]
    dsimp only
    have k₁₁ : ∀ b o, h₁₀.get? b = some o → ((h₁₀.push { cls := .type "slice", data := .fields #[.int ((lowOf rg (wl.drop c) : Nat) : Int) t₄, .int ((highOf rg (wl.drop c) : Nat) : Int) t₆, .none] }).push { cls := .type "list", data := .seq ((vU.drop (lowOf rg (wl.drop c))).take (highOf rg (wl.drop c) - lowOf rg (wl.drop c))).toArray }).get? b = some o := fun b o e => Heap.get?_push_of_some _ (Heap.get?_push_of_some _ e)
    have G₁₁ := G₁₀.ext k₁₁
    have e₁₁ := Heap.get?_push_size (h₁₀.push { cls := .type "slice", data := .fields #[.int ((lowOf rg (wl.drop c) : Nat) : Int) t₄, .int ((highOf rg (wl.drop c) : Nat) : Int) t₆, .none] }) (o := { cls := .type "list", data := .seq ((vU.drop (lowOf rg (wl.drop c))).take (highOf rg (wl.drop c) - lowOf rg (wl.drop c))).toArray }) rfl
    rw [Heap.size_push] at e₁₁
    have hI := ints_take (ints_drop hU (lowOf rg (wl.drop c))) (highOf rg (wl.drop c) - lowOf rg (wl.drop c))
    refine sorted_ints ⟨_, e₁₁, rfl, _, rfl⟩ hI (by rw [List.length_take, List.length_drop]; omega) fun out ns' hio hpo hso => ?_
    have G₁₂ := G₁₁.ext fun b o e => sortedAll_old (vs := (vU.drop (lowOf rg (wl.drop c))).take (highOf rg (wl.drop c) - lowOf rg (wl.drop c))) (out := out) e
    obtain ⟨eo, ho⟩ := sortedAll_at ((h₁₀.push { cls := .type "slice", data := .fields #[.int ((lowOf rg (wl.drop c) : Nat) : Int) t₄, .int ((highOf rg (wl.drop c) : Nat) : Int) t₆, .none] }).push { cls := .type "list", data := .seq ((vU.drop (lowOf rg (wl.drop c))).take (highOf rg (wl.drop c) - lowOf rg (wl.drop c))).toArray }) ((vU.drop (lowOf rg (wl.drop c))).take (highOf rg (wl.drop c) - lowOf rg (wl.drop c))) out
    have hsame : ns' = (standsL rg (wl.drop c)).map fun c : Nat => (c : Int) := by
      refine lks_uniq (hpo.trans ?_) hso (stands_sorted rg _)
      rw [← List.map_drop, ← List.map_take, ← List.drop_take]
      exact hperm.map _
    refine lf G₁₂ rfl (ne_intsK (vs := out.toList) ⟨_, ho, rfl, eo, by simp⟩ hio (G₁₂.at_ 11 rfl : Heap.PlainList _ _ _).isList Ry (by rw [lawA_units]; decide) (wpAny_truthy_bool ?_))
    rw [decide_eq_true hsame, if_neg (by decide)]
    refine wpAny_allTrue_Or_nil ?_
    rw [if_neg (by decide)]
    refine wpAny_execs_nil ?_
    dsimp only
    subst hc
    have Gd := G₁₂.drop 11
    have Gf := Gd.fewer (vs' := vsP rg wl ts tw lU lH (lowOf rg (wl.drop (wl.length - (i + 1)))) (highOf rg (wl.drop (wl.length - (i + 1)))) t₄ t₆) ⟨rfl, rfl, rfl, rfl, rfl, rfl, trivial⟩
    have r₁₂ := G₁₂.at_ 10 rfl
    refine wpAny_execs_nil ⟨rfl, ⟨_, _, t₄, t₆, some (.str ⟨(wl.drop (wl.length - (i + 1))).toArray⟩ t₈), rfl, ?_⟩, ?_⟩
    · exact Gf
    · exact r₁₂
  · rintro s' h' tk ⟨h₂, tk₂, u1, u2, so, rfl, G⟩ hkeep
    have G := G.lose (h' := h') 10 rfl fun b o hb e => hkeep b o (fun q => hb (List.mem_singleton.mp q)) e
    dsimp only
    refine wpAny_execs_cons (wpAny_Return_some (wpAny_Constant_bool ?_))
    exact hQ _ _ G.kept
end
end Mine
end

-- part V20
section
set_option maxRecDepth 100000
set_option maxHeartbeats 2000000
namespace Mine
open PySem PySem.W PySem.Calls PyProof.Rows
theorem rows_turned {rg : List Nat} (hr : AllFis rg) (hn : 0 < rg.length) (hf : rg.length ≤ 15) {rs : List (Int × Nat)} (hp : rs.Perm (rowsOf rg rg.length)) (hs : rs.Pairwise fun x y => codeOf x ≤ codeOf y) : Turned rg (rs.map (·.2)) := by
  have hm : ∀ x ∈ rs, x.1 = ((num rg rg.length x.2 : Nat) : Int) ∧ x.2 < rg.length := by
    intro x hx
    obtain ⟨p, hp', rfl⟩ := List.mem_map.mp (hp.subset hx)
    exact ⟨rfl, List.mem_range.mp hp'⟩
  refine ⟨?_, ?_⟩
  · have h1 := hp.map (·.2)
    have h2 : (rowsOf rg rg.length).map (·.2) = List.range rg.length := by
      unfold rowsOf
      rw [List.map_map]
      exact List.map_id _
    rw [h2] at h1
    exact h1
  · rw [List.pairwise_map]
    refine hs.imp_of_mem fun {x y} hx hy h => ?_
    obtain ⟨x1, x2⟩ := hm x hx
    obtain ⟨y1, y2⟩ := hm y hy
    unfold codeOf at h
    rw [x1, y1] at h
    omega
theorem ends_perm {rg tl : List Nat} (hr : AllFis rg) (hn : 0 < rg.length) (T : Turned rg tl) : (endsOf rg tl).Perm rg := by
  have h1 : (endsOf rg tl).Perm ((List.range rg.length).map (endAt rg)) := T.perm.map _
  have h2 : ((List.range rg.length).map (endAt rg)).Perm ((List.range rg.length).map (at' rg)) := by
    have h3 := ((turn_perm rg.length).map (endAt rg)).symm
    rw [List.map_map] at h3
    have e : (List.range rg.length).map (endAt rg ∘ fun q => (q + 1) % rg.length) = (List.range rg.length).map (at' rg) := by
      apply List.map_congr_left
      intro q _
      exact end_turn hr hn q
    rw [e] at h3
    exact h3
  have h4 : (List.range rg.length).map (at' rg) = rg := by
    apply List.ext_getElem?
    intro i
    rw [List.getElem?_map]
    rcases Nat.lt_or_ge i rg.length with h | h
    · rw [List.getElem?_range h]
      show some (at' rg i) = _
      unfold at'
      rw [Nat.mod_eq_of_lt h, List.getD_eq_getElem?_getD, List.getElem?_eq_getElem h]; rfl
    · rw [List.getElem?_eq_none (by rw [List.length_range]; exact h), List.getElem?_eq_none h]; rfl
  rw [h4] at h2
  exact h1.trans h2
/-- the whole law -/
theorem law_call : LawCall := by
  intro X L kvs w s B a items ns hl hi hlen
  have hr := ring_fis ns
  have hn := ring_pos ns
  have hf := ring_few ns
  have hw := want_fis ns
  have hw9 := want_few ns
  refine law_start B fun h₁ tk₁ F₁ => ?_
  refine stA B F₁ hl hi hlen fun h₂ tk₂ vN lN F₂ hN => ?_
  refine stB B F₂ hN fun g₃ h₃ tk₃ vD lD k₃ F₃ R₃ => ?_
  have B₃ := B.mono k₃
  refine stC B₃ F₃ R₃ fun h₄ tk₄ tr tw F₄ => ?_
  refine stD F₄ R₃ fun h₅ tk₅ F₅ => ?_
  refine stE B₃ F₅ fun h₆ tk₆ ts lT F₆ => ?_
  refine stF (rg := ringL ns) (wl := wantL ns) (ts := ts) (tw := tw) (tr := tr) (lT := lT) B₃ hr hn hf F₆ fun h₇ tk₇ vT F₇ hT => ?_
  refine stG B₃ hN hT hf F₇ fun h₈ tk₈ lF I vF sh th lR F₈ hF => ?_
  refine stH B₃ hr hn hf hF F₈ fun g₉ h₉ tk₉ vR k₉ F₉ R₉ => ?_
  have B₉ := B₃.mono k₉
  refine stI B₉ hf hF R₉ F₉ fun h₁₀ tk₁₀ vR' rs F₁₀ R₁₀ hp hs => ?_
  have T := rows_turned hr hn hf hp hs
  have hrl : rs.length = (ringL ns).length := by rw [hp.length_eq]; unfold rowsOf; rw [List.length_map, List.length_range]
  refine stJ (by omega) R₁₀ F₁₀ fun h₁₁ tk₁₁ vU lU F₁₁ hU => ?_
  obtain ⟨tl, htl⟩ : ∃ tl, tl = rs.map (·.2) := ⟨_, rfl⟩
  rw [← htl] at T hU
  have htn := turned_len hr hn T
  refine stK hf htn (fun p hp => List.mem_range.mp (T.perm.subset hp)) hU F₁₁ fun h₁₂ tk₁₂ vE lE F₁₂ hE => ?_
  have hel : (endsOf (ringL ns) tl).length = (ringL ns).length := by unfold endsOf; rw [List.length_map, htn]
  have hef : AllFis (endsOf (ringL ns) tl) := fun d hd => hr d ((ends_perm hr hn T).subset hd)
  refine stL B₉ hf hel hef hE F₁₂ fun g₁₃ h₁₃ tk₁₃ hs' lH k₁₃ F₁₃ hsl HH => ?_
  have B₁₃ := B₉.mono k₁₃
  refine stM B₁₃ hr hf hel (normOf_perm (ends_perm hr hn T)) hsl HH F₁₃ fun h₁₄ tk₁₄ F₁₄ => ?_
  refine stN (by omega) (T.perm.symm.subset (List.mem_range.mpr hn)) hU F₁₄ fun h₁₅ tk₁₅ tb to j hj F₁₅ => ?_
  refine stO B₁₃ hr hn hf T hE hsl HH hj F₁₅ fun h₁₆ tk₁₆ F₁₆ => ?_
  refine stP hn hf F₁₆ fun h₁₇ tk₁₇ ta t1 t2 F₁₇ => ?_
  refine stQ B₁₃ hr hn hf hw hw9 T hU hsl HH F₁₇ fun h₁₈ tk₁₈ k₁₈ => ?_
  exact ⟨rfl, h₁₈, tk₁₈, rfl, fun b o e => k₁₈ b o (k₁₃ b o (k₉ b o (k₃ b o e)))⟩
end Mine

theorem PySem.Challenge.cw_rl0123_01_holds : PySem.Challenge.rw_rl0123_01.Holds := by
  exact Mine.law_holds Mine.law_call
end
