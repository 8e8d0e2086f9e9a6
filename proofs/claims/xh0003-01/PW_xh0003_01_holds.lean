import PyProof.Rows.All
import Wide.All
import OpenK.AllK
import Wide.FinOn
import PySem.Challenge.RW_xh0003_01
set_option Elab.async false
local macro_rules | `(tactic| walk_at $s:str) => `(tactic| k_extra $s)
section
namespace Mine
open PySem PySem.W PyProof.Rows
local macro_rules | `(tactic| o_head $_) => `(tactic| skip)
set_option maxRecDepth 100000 in
set_option maxHeartbeats 8000000 in
theorem hd (h : PySem.Challenge.rw_xh0003_01.row.Holds) : PySem.Challenge.rw_xh0003_01.Holds := by
  w_on
  o_law
  k_head
  exact h
end Mine
end
section
open PySem PySem.W PyProof.Rows PySem.Calls
namespace Mine
def fBody : Stmt → List Stmt | .FunctionDef _ _ b .. => b | _ => []
def fScope : Stmt → Scope | .FunctionDef _ _ _ _ _ _ s .. => s | _ => default
def fParams : Stmt → Arguments | .FunctionDef _ a .. => a | _ => default
def forBody : Stmt → List Stmt | .For _ _ b .. => b | _ => []
def forIter : Stmt → Expr | .For _ i .. => i | _ => .Constant .none 0 default
def forTarget : Stmt → Expr | .For t .. => t | _ => .Constant .none 0 default
def top (i : Nat) : Stmt := PySem.Challenge.pw_xh0003_01.main.body.getD i (.Pass default)
def giS : Stmt := top 2
def lsS : Stmt := top 12
def lgS : Stmt := top 13
def lawS : Stmt := top 14
def lawSt (i : Nat) : Stmt := (fBody lawS).getD i (.Pass default)
def loopSt (i : Nat) : Stmt := (forBody (lawSt 7)).getD i (.Pass default)
abbrev prog : Program := PySem.Challenge.rw_xh0003_01.row.prog
abbrev lenv (L fa : Addr) : Env := envOfC "law" (fScope lawS) L fa (.ref 74)
end Mine
namespace Mine
theorem Fr_pin {h₀ h : Heap} {L : Addr} {m : Str → Option Value} {x : Str} {v : Value} (F : Fr h₀ L h m) (hx : m x = some v) : Fr h₀ L h (fun y => if y = x then some v else m y) := by
  have e : (fun y => if y = x then some v else m y) = m := by
    funext y; by_cases q : y = x
    · subst q; simp [hx]
    · simp [q]
  rw [e]; exact F
end Mine
namespace Mine
theorem fd4_ne {n k : Int} (_h0 : 0 ≤ k) (_h : k < 0 + (((n.fmod 4 - 0).toNat : Nat) : Int)) : (4:Int) ^ k.toNat ≠ 0 := Int.ne_of_gt (Int.pow_pos (by decide))
theorem fmod4 (n : Int) : 0 ≤ n.fmod 4 ∧ n.fmod 4 < 4 := ⟨Int.fmod_nonneg_of_pos n (by decide), Int.fmod_lt_of_pos n (by decide)⟩
theorem fd4_log {n k : Int} (h0 : 0 ≤ k) (h : k < 0 + (((n.fmod 4 - 0).toNat : Nat) : Int)) : ((4:Int) ^ k.toNat).natAbs.log2 < 9000 := by
  have := fmod4 n
  have h3 : k = 0 ∨ k = 1 ∨ k = 2 ∨ k = 3 := by omega
  rcases h3 with rfl | rfl | rfl | rfl <;> decide +kernel
theorem News_sub {h₀ h : Heap} {L : Addr} {news news' : List (Addr × Obj)} (N : News h₀ L h news) (hs : ∀ p ∈ news', p ∈ news) : News h₀ L h news' := fun p hp => N p (hs p hp)
def SzOk (sz : List Int) : Prop := sz.length ≤ 3 ∧ ∀ x ∈ sz, 1 ≤ x ∧ x ≤ 3
def tails : List (List Int) := [[], [0], [127], [127, 2]]
theorem szOk_of (n : Int) : SzOk ((rangeKs 0 (n.fmod 4 - 0).toNat).map fun k => 1 + (n.fdiv (4 ^ k.toNat)).fmod 3) := by
  have := fmod4 n
  refine ⟨?_, ?_⟩
  · simp [rangeKs]; omega
  · intro x hx
    obtain ⟨k, _, rfl⟩ := List.mem_map.mp hx
    have h1 := Int.fmod_nonneg_of_pos (n.fdiv (4 ^ k.toNat)) (b := 3) (by decide)
    have h2 := Int.fmod_lt_of_pos (n.fdiv (4 ^ k.toNat)) (b := 3) (by decide)
    omega
def MidG (h₀ : Heap) (L l : Nat) (s s' : Shared) : Prop :=
  ∃ h' tk m' o1 o2 o3, ∃ G : Nat, ∃ gv n sz t, s' = { s with heap := h', toks := tk } ∧ Fr h₀ L h' m' ∧ m' "script" = some (.ref l) ∧
    News h₀ L h' [(G, W.listOf gv n), (L+1+1+1, o3), (L+1+1, o2), (L+1, o1), (72, tabObj #[])] ∧ o1.data = .cell (some (.ref G)) ∧ o2.data = .cell none ∧ o3.data = .cell none ∧ L + 1 + 1 + 1 < G ∧
    IntsAre gv.toList (sz ++ t) ∧ SzOk sz ∧ t ∈ tails ∧ ¬ (sz = [] ∧ t = [0])
end Mine
namespace Mine
def pinM : List (Str × Value) → (Str → Option Value) → Str → Option Value
  | [], m => m
  | (x, v) :: r, m => fun y => if y = x then some v else pinM r m y
theorem pinM_eq {m : Str → Option Value} : ∀ {l : List (Str × Value)}, (∀ p ∈ l, m p.1 = some p.2) → pinM l m = m
  | [], _ => rfl
  | (x, v) :: r, h => by
    have ih := pinM_eq (m := m) (l := r) fun p hp => h p (.tail _ hp)
    funext y
    show (if y = x then some v else pinM r m y) = m y
    rw [ih]
    by_cases q : y = x
    · subst q; rw [if_pos rfl]; exact (h (y, v) (.head _)).symm
    · rw [if_neg q]
theorem Fr_pins {h₀ h : Heap} {L : Addr} {m : Str → Option Value} (l : List (Str × Value)) (F : Fr h₀ L h m) (hl : ∀ p ∈ l, m p.1 = some p.2) : Fr h₀ L h (pinM l m) := by
  rw [pinM_eq hl]; exact F
end Mine
end
section
open PySem PySem.W PyProof.Rows PySem.Calls
set_option maxRecDepth 100000
namespace Mine
section
variable {M : Model} {A : Around} {R : GenEnd} {Y : Protocol} {n : Nat} {s₀ : Shared} {c : Code} {fs : List Frame} {s : Shared} {env : Env}
  {K : Flow → Sem Fin} {H : Value → Sem Fin} {gd : Bool → Bool} {lv : List Value → List Value}
theorem sg_bind {α β : Type} {m : Sem α} {f : α → Sem β} {K' : β → Sem Fin} {H' : Value → Sem Fin}
    (h : wpAny M (A.over c fs) m (fun a s' => Seg M A R Y n s₀ c ((f a).wrap K' H' gd lv) fs s') (fun x s' => Seg M A R Y n s₀ c (H' x) fs s') s) :
    Seg M A R Y n s₀ c ((m >>= f).wrap K' H' gd lv) fs s := by
  rw [Sem.bind_eq_wrap', Sem.wrap_wrap]
  exact seg_wrap h
theorem sg_If {test : Expr} {body orelse : List Stmt} {pos : Pos}
    (h : wpAny M (A.over c fs) (isTrue test env (eval test env)) (fun b s' => Seg M A R Y n s₀ c ((execs (if b then body else orelse) env).wrap K H gd lv) fs s') (fun x s' => Seg M A R Y n s₀ c (H x) fs s') s) :
    Seg M A R Y n s₀ c ((exec (.If test body orelse pos) env).wrap K H gd lv) fs s := by
  rw [exec_If]
  refine sg_bind (wpAny_standAt ?_)
  refine sg_bind (wpAny_mono h (fun b s' hb => ?_) fun _ _ e => e)
  cases b <;> exact hb
theorem sg_plain {st : Stmt} (h : wpAny M (A.over c fs) (exec st env) (fun f s' => Seg M A R Y n s₀ c (K f) fs s') (fun x s' => Seg M A R Y n s₀ c (H x) fs s') s) :
    Seg M A R Y n s₀ c ((exec st env).wrap K H gd lv) fs s := seg_wrap h
abbrev loopFr (K : Flow → Sem Fin) (H : Value → Sem Fin) (gd : Bool → Bool) (lv : List Value → List Value) (env : Env) (c : Code) (p : Pos) : Frame :=
  .ret (fun r => ((match r with | .ok f => (.pure f : Sem Flow) | .error e => .raise e).onRaise fun (x : Value) => do
        if (← field x 1) == Value.none then unsupported "frame.own-activation:exception-without-traceback"
        setFlight x env.frame).wrap K H gd lv) none (gd false) (lv []) c p []
theorem sg_For {target iter : Expr} {body orelse : List Stmt} {pos : Pos}
    (h : wpAny M (A.over c fs) (eval iter env) (fun x s₁ => wpAny M (A.over c fs) (pyIter x) (fun it s₂ =>
      ∀ p, Seg M A R Y n s₀ (.forLoop target it body orelse env) (M.den (.forLoop target it body orelse env)) (loopFr K H gd lv env c p :: fs) s₂)
       (fun x s' => Seg M A R Y n s₀ c (H x) fs s') s₁) (fun x s' => Seg M A R Y n s₀ c (H x) fs s') s)
    (hs : ∀ x, foldedSetIterable iter env x = pure x := by intro _; rfl) :
    Seg M A R Y n s₀ c ((exec (.For target iter body orelse pos) env).wrap K H gd lv) fs s := by
  rw [exec_For]
  refine sg_bind (wpAny_standAt ?_)
  refine sg_bind (wpAny_mono h (fun x s₁ h₁ => ?_) fun _ _ e => e)
  refine sg_bind (wpAny_of_eq (hs x) ?_)
  refine sg_bind (wpAny_standAt ?_)
  refine sg_bind (wpAny_holding (wpAny_mono h₁ (fun it s₂ h₂ => ?_) fun _ _ e => e))
  exact seg_call h₂
end
section
variable {prog : Program} {w : World} {A : Around} {R : GenEnd} {Y : Protocol} {n : Nat} {s₀ : Shared} {fs : List Frame} {s : Shared} {env : Env}
abbrev forK (target : Expr) (it : Value) (body orelse : List Stmt) (env : Env) : Flow → Sem Fin := fun f => match f with
  | .next | .cont => .pure (.again (.forLoop target it body orelse env))
  | .brk => .pure (.done .next)
  | .ret v => .pure (.done (.ret v))
abbrev forH (env : Env) : Value → Sem Fin := fun e => (do noteFrame e env; theTreesLotGoes e : Sem Unit).wrap (fun _ => .raise e) .raise id id
theorem sg_forLoop {target : Expr} {it : Value} {body orelse : List Stmt}
    (h : wpAny (model prog w) (A.over (.forLoop target it body orelse env) fs) (pyNext it) (fun r s' => match r with
        | none => Seg (model prog w) A R Y n s₀ (.forLoop target it body orelse env) (.pure (.again (.block orelse env))) fs s'
        | some v => wpAny (model prog w) (A.over (.forLoop target it body orelse env) fs) (assign target env v) (fun _ s'' =>
            Seg (model prog w) A R Y n s₀ (.forLoop target it body orelse env) ((execs body env).wrap (forK target it body orelse env) (forH env) id id) fs s'')
            (fun x s'' => Seg (model prog w) A R Y n s₀ (.forLoop target it body orelse env) (forH env x) fs s'') s')
      (fun x s' => Seg (model prog w) A R Y n s₀ (.forLoop target it body orelse env) (forH env x) fs s') s)
    (ht : ∀ v, letOwnedTupleGo target it v = pure () := by intro _; rfl) :
    Seg (model prog w) A R Y n s₀ (.forLoop target it body orelse env) ((model prog w).den (.forLoop target it body orelse env)) fs s := by
  show Seg _ A R Y n s₀ _ ((forTurn target it body orelse env).onRaise (fun x => do noteFrame x env; theTreesLotGoes x)) fs s
  unfold forTurn
  rw [Sem.onRaise_eq_wrap]
  have hH : (fun e => (do noteFrame e env; theTreesLotGoes e : Sem Unit).bind fun _ => (.raise e : Sem Fin)) = forH env := by
    funext e
    show (do noteFrame e env; theTreesLotGoes e : Sem Unit).bind (fun _ => .raise e) = _
    rw [Sem.bind_eq_wrap]
  rw [hH]
  refine sg_bind (wpAny_standAt ?_)
  refine sg_bind (wpAny_onRaise (wpAny_mono h (fun r s' hr => ?_) fun _ _ e => wpAny_standAt e))
  cases r with
  | none => exact hr
  | some v =>
    refine sg_bind (wpAny_of_eq (ht v) ?_)
    refine sg_bind (wpAny_mono hr (fun _ s'' h'' => ?_) fun _ _ e => e)
    rw [Sem.bind_eq_wrap', Sem.wrap_wrap]
    refine Eq.mp (congrArg (fun t => Seg (model prog w) A R Y n s₀ (.forLoop target it body orelse env) t fs s'') ?_) h''
    exact Sem.wrap_congr _ _ _ (fun f => by cases f <;> rfl) (fun _ => rfl)
theorem sg_block_nil {c : Code} (h : Seg (model prog w) A R Y n s₀ (.block [] env) (leafOf (.ok .next)) fs s) :
    Seg (model prog w) A R Y n s₀ c (.pure (.again (.block [] env))) fs s :=
  seg_again rfl h
end
end Mine
end
section
open PySem PySem.W PyProof.Rows PySem.Calls
set_option maxRecDepth 100000
namespace Mine
abbrev genv (Lg : Nat) : Env := envOf "_grouping_intervals" (fScope giS) Lg 21 (.ref 20)
def giFor : Stmt := (fBody giS).getD 1 (.Pass default)
def giLB : List Stmt := forBody giFor
abbrev cFor (Lg I : Nat) : Code := .forLoop (forTarget giFor) (.ref I) giLB [] (genv Lg)
def gOut (sz t : List Int) (j : Nat) : Option Int := if j < sz.length then sz[j]? else if t = [0] then sz.getLast? else none
def Since (Lg Sz : Nat) (s₀ s' : Shared) : Prop :=
  ∃ h' tk, s' = { s₀ with heap := h', toks := tk } ∧ ∀ b o, b ≠ Lg → b < Sz → s₀.heap.get? b = some o → h'.get? b = some o
theorem Since.refl (Lg Sz : Nat) (s : Shared) : Since Lg Sz s s := ⟨s.heap, s.toks, rfl, fun _ _ _ _ e => e⟩
theorem Since.step {Lg Sz : Nat} {s₀ s : Shared} (x : Since Lg Sz s₀ s) {h' : Heap} {tk : Nat} (hk : ∀ b o, b ≠ Lg → b < Sz → s.heap.get? b = some o → h'.get? b = some o) :
    Since Lg Sz s₀ { s with heap := h', toks := tk } := by
  obtain ⟨h₁, tk₁, rfl, hk₁⟩ := x
  exact ⟨h', tk, rfl, fun b o h1 h2 e => hk b o h1 h2 (hk₁ b o h1 h2 e)⟩
def gR (Lg Sz : Nat) (out : Nat → Option Int) : GenEnd := fun n s₀ r s₁ => r = .ok (.ret .none) ∧ out (24 - n) = none ∧ Since Lg Sz s₀ s₁
def gY (Lg Sz : Nat) (cl : List Nat) (out : Nat → Option Int) : Protocol := fun n s₀ v s' kap =>
  (∃ x t, v = .int x t ∧ out (23 - n) = some x) ∧ Since Lg Sz s₀ s' ∧
    (n ≠ 0 → ∀ s'' : Shared, (∀ b o, b ∉ cl → s'.heap.get? b = some o → s''.heap.get? b = some o) → kap (.send .none) s'')
def GS (h₀ : Heap) (Lg G : Nat) (gv : Array Value) (last : Value) (h : Heap) : Prop :=
  ∃ m, Fr h₀ Lg h m ∧ m "grouping" = some (.ref G) ∧ m "last_interval" = some last ∧ h.IsList G gv
structure Apart (h₀ : Heap) (Lg G Sz : Nat) (cl : List Nat) : Prop where
  lg : Lg ∉ cl
  g : G ∉ cl
  old : ∀ b ∈ cl, h₀.get? b = none
  lgS : Lg < Sz
  gS : G < Sz
  gl : G ≠ Lg
  clS : ∀ b ∈ cl, b < Sz
theorem Fr.along {h₀ h h' : Heap} {Lg : Nat} {m : Str → Option Value} {cl : List Nat} (F : Fr h₀ Lg h m) (hl : Lg ∉ cl) (ho : ∀ b ∈ cl, h₀.get? b = none) (hk : ∀ b o, b ∉ cl → h.get? b = some o → h'.get? b = some o) : Fr h₀ Lg h' m :=
  ⟨F.ns.at' fun o e => hk _ o hl e, fun b o e => hk b o (fun hm => by rw [ho b hm] at e; cases e) (F.keep b o e), F.above⟩
theorem IsList.along {h h' : Heap} {G : Nat} {gv : Array Value} {cl : List Nat} (x : h.IsList G gv) (hl : G ∉ cl) (hk : ∀ b o, b ∉ cl → h.get? b = some o → h'.get? b = some o) : h'.IsList G gv := x.at fun o e => hk _ o hl e
theorem IsListIter.along {h h' : Heap} {I G i : Nat} {cl : List Nat} (x : h.IsListIter I G i) (hl : I ∉ cl) (hk : ∀ b o, b ∉ cl → h.get? b = some o → h'.get? b = some o) : h'.IsListIter I G i :=
  let ⟨o, ho, r⟩ := x; ⟨o, hk _ o hl ho, r⟩

section
variable {w : World} {A : Around} {h₀ : Heap} {Lg G Sz : Nat} {cl : List Nat} {gv : Array Value} {out : Nat → Option Int} {fs : List Frame} {c : Code} {K : Flow → Sem Fin} {H : Value → Sem Fin} {I : Nat}
theorem hCM {mg : Str → Option Value} (X : (hd.heap_39 w.params).In h₀) (T : h₀.Ns mainGlobals mg) : mg "CHAR_MAX" = some (.int 127 189) :=
  mg_of X T (by kernel_rfl)
theorem gi_while {test : Expr} {ypos epos p1 p2 : Pos} {fsW : List Frame} (P : Apart h₀ Lg G Sz cl) (hsp : splitAtGen fsW = none) (hgu : fsW.any Frame.guarded = false)
    {x : Int} (m₀ : Nat) (hout : ∀ j, m₀ ≤ j → out j = some x) (htest : test = .Constant (.bool true) 0 p1) :
    ∀ (k : Nat) (s₀ s : Shared) (tx : Tok), k + 1 + m₀ ≤ 24 → GS h₀ Lg G gv (.int x tx) s.heap → Since Lg Sz s₀ s →
      Seg (model prog w) A (gR Lg Sz out) (gY Lg Sz cl out) (k + 1) s₀ (.whileLoop test [.Expr (.Yield (some (.Name "last_interval" p2)) ypos) epos] [] (genv Lg))
        ((model prog w).den (.whileLoop test [.Expr (.Yield (some (.Name "last_interval" p2)) ypos) epos] [] (genv Lg))) fsW s := by
  intro k
  induction k with
  | zero =>
    intro s₀ s tx hk hg hs
    obtain ⟨m, F, h1, h2, h3⟩ := hg
    subst htest
    refine seg_whileLoop (wpAny_isTrue_value (wpAny_Constant_bool (wpAny_truthy_bool ?_)))
    rw [if_pos rfl]
    refine seg_execs_cons (seg_Expr_Yield hsp rfl hgu (ld F h2 fun kap hkap => ?_))
    refine ⟨⟨x, tx, rfl, hout _ (by omega)⟩, hs, fun h => absurd rfl h⟩
  | succ k ih =>
    intro s₀ s tx hk hg hs
    obtain ⟨m, F, h1, h2, h3⟩ := hg
    subst htest
    refine seg_whileLoop (wpAny_isTrue_value (wpAny_Constant_bool (wpAny_truthy_bool ?_)))
    rw [if_pos rfl]
    refine seg_execs_cons (seg_Expr_Yield hsp rfl hgu (ld F h2 fun kap hkap => ?_))
    refine ⟨⟨x, tx, rfl, hout _ (by omega)⟩, hs, fun _ s'' hal => hkap .none s'' ?_⟩
    refine seg_execs_nil ?_
    exact seg_again rfl (ih s'' s'' tx (by omega) ⟨m, Fr.along F P.lg P.old hal, h1, h2, IsList.along h3 P.g hal⟩ (Since.refl _ _ _))

def LastOk (sz : List Int) (i : Nat) (last : Value) : Prop := if i = 0 then last = .none else ∃ x tx, last = .int x tx ∧ sz[i - 1]? = some x
theorem is_item {gv : Array Value} {l : List Int} (h : IntsAre gv.toList l) {i : Nat} {x : Int} (hx : l[i]? = some x) : ∃ t, gv[i]? = some (.int x t) := by
  obtain ⟨t, ht⟩ := h.get i x hx
  exact ⟨t, by simpa using ht⟩
theorem is_none_item {gv : Array Value} {l : List Int} (h : IntsAre gv.toList l) {i : Nat} (hx : l.length ≤ i) : gv[i]? = none := by
  have := h.length
  apply Array.getElem?_eq_none
  have h2 : gv.toList.length = gv.size := Array.length_toList
  omega
theorem gi_for {sz t : List Int} {mg mb : Str → Option Value} {mean : ExcName → Option Value} {loose : List Str} (X : (hd.heap_39 w.params).In h₀) (T : Top topProg loose mean mg mb h₀)
    (P : Apart h₀ Lg G Sz cl) (hsp : splitAtGen fs = none) (hgu : fs.any Frame.guarded = false) (hh : ∀ c, (A.over c fs).handled = none) (hgi : IntsAre gv.toList (sz ++ t)) (hsz : SzOk sz) (htl : t ∈ tails) (hne : ¬ (sz = [] ∧ t = [0]))
    (hEnd : ∀ n s₀ s c f, (f = .next ∨ f = .ret .none) → gR Lg Sz (gOut sz t) n s₀ (.ok (.ret .none)) s → Seg (model prog w) A (gR Lg Sz (gOut sz t)) (gY Lg Sz cl (gOut sz t)) n s₀ c (leafOf (.ok f)) fs s) (hIS : Sz ≤ I) :
    ∀ (d i : Nat) (s₀ s : Shared) (last : Value) (n : Nat), sz.length - i = d → i ≤ sz.length → n + i = 24 → GS h₀ Lg G gv last s.heap → LastOk sz i last → s.heap.IsListIter I G i → Since Lg Sz s₀ s →
      Seg (model prog w) A (gR Lg Sz (gOut sz t)) (gY Lg Sz cl (gOut sz t)) n s₀ (cFor Lg I) ((model prog w).den (cFor Lg I)) fs s := by
  have hCM := hCM X T.g
  have hIl : Lg ≠ I := Nat.ne_of_lt (Nat.lt_of_lt_of_le P.lgS hIS)
  have hIG : G ≠ I := Nat.ne_of_lt (Nat.lt_of_lt_of_le P.gS hIS)
  have hIc : I ∉ cl := fun h => absurd (P.clS _ h) (by omega)
  have hI0 : ∀ h Lg' m, Fr h₀ Lg' h m → True := fun _ _ _ _ => trivial
  intro d
  induction d with
  | succ d ih =>
    intro i s₀ s last n hd' hi hn hg hlast hit hs
    obtain ⟨m, F, h1, h2, h3⟩ := hg
    have hlt : i < sz.length := by omega
    obtain ⟨x, hx⟩ : ∃ x, sz[i]? = some x := ⟨_, List.getElem?_eq_getElem hlt⟩
    have hxr := hsz.2 x (List.mem_of_getElem? hx)
    obtain ⟨tx, htx⟩ := is_item hgi (i := i) (x := x) (by rw [List.getElem?_append_left hlt]; exact hx)
    have hh₀I : ∀ b o, h₀.get? b = some o → b ≠ I := fun b o e =>
      Nat.ne_of_lt (Nat.lt_of_lt_of_le (Nat.lt_of_lt_of_le (Nat.lt_of_lt_of_le (Heap.lt_size e) F.above) (Nat.le_of_lt P.lgS)) hIS)
    refine sg_forLoop (wpAny_pyNext_list_item hit h3 htx fun h' hit' hsb => ?_)
    have F' : Fr h₀ Lg h' m := ⟨F.ns.sameBut hsb hIl, fun b o e => (hsb.2 b (hh₀I b o e)).trans (F.keep b o e), F.above⟩
    have h3' : h'.IsList G gv := h3.at fun o e => (hsb.2 G hIG).trans e
    show wpAny _ _ (assign (forTarget giFor) (genv Lg) _) _ _ _
    conv in (occs := *) forTarget giFor => all_goals whnf
    refine wpAny_assign_Name (stK F' fun h₂ F₂ hs₂ _ => ?_)
    have hit₂ : h₂.IsListIter I G (i + 1) := hit'.extBut hs₂.extBut (Ne.symm hIl)
    have h3₂ : h₂.IsList G gv := h3'.at fun o e => (hs₂.2 G P.gl).trans e
    have hk₂ : ∀ b o, b ≠ Lg → b < Sz → s.heap.get? b = some o → h₂.get? b = some o := fun b o hb hb2 e =>
      (hs₂.2 b hb).trans ((hsb.2 b (Nat.ne_of_lt (Nat.lt_of_lt_of_le hb2 hIS))).trans e)
    have hs2 := hs.step (tk := s.toks + 1) hk₂
    conv in (occs := *) giLB => all_goals whnf
    refine seg_execs_cons (sg_If (wpAny_isTrue_Compare1 (ld F₂ (by rfl) (ld_global_at F₂ T.g hCM (eq_int (wpAny_truthy_bool ?_))))))
    rw [show (x == 127) = false from by simp; omega]
    refine seg_execs_nil ?_
    refine seg_execs_cons (sg_If (wpAny_isTrue_Compare1 (ld F₂ (by rfl) (wpAny_Constant_int (eq_int (wpAny_truthy_bool ?_))))))
    rw [show (x == 0) = false from by simp; omega]
    refine seg_execs_nil ?_
    obtain ⟨n, rfl⟩ : ∃ k, n = k + 1 := ⟨n - 1, by have := hsz.1; omega⟩
    refine seg_execs_cons (seg_Expr_Yield hsp rfl hgu (ld F₂ (by rfl) fun kap hkap => ?_))
    refine ⟨⟨x, tx, rfl, ?_⟩, (hs.step (tk := s.toks + 1 + 1) hk₂), fun _ s'' hal => hkap .none s'' ?_⟩
    · rw [show 23 - n = i by omega]; simp only [gOut, if_pos hlt]; exact hx
    have F₃ := Fr.along F₂ P.lg P.old hal
    refine seg_execs_cons (sg_plain (wpAny_Assign_Name (ld F₃ (by rfl) (stK F₃ fun h₄ F₄ hs₄ _ => ?_))))
    refine seg_execs_nil ?_
    refine seg_again rfl (ih (i + 1) s'' _ (.int x tx) n (by omega) hlt (by omega) ⟨_, F₄, ?_, by simp, ?_⟩ ?_ ?_ ?_)
    · exact (if_neg (by decide)).trans ((if_neg (by decide)).trans h1)
    · exact (IsList.along h3₂ P.g hal).at fun o e => (hs₄.2 G P.gl).trans e
    · simp only [LastOk, Nat.add_one_ne_zero, if_false]; exact ⟨x, tx, rfl, by simpa using hx⟩
    · exact (IsListIter.along hit₂ hIc hal).extBut hs₄.extBut (Ne.symm hIl)
    · exact (Since.refl Lg Sz s'').step fun b o hb _ e => (hs₄.2 b hb).trans e
  | zero =>
    intro i s₀ s last n hd' hi hn hg hlast hit hs
    obtain ⟨m, F, h1, h2, h3⟩ := hg
    have hi' : i = sz.length := by omega
    have hh₀I : ∀ b o, h₀.get? b = some o → b ≠ I := fun b o e =>
      Nat.ne_of_lt (Nat.lt_of_lt_of_le (Nat.lt_of_lt_of_le (Nat.lt_of_lt_of_le (Heap.lt_size e) F.above) (Nat.le_of_lt P.lgS)) hIS)
    cases t with
    | nil =>
      have hout : gOut sz [] (24 - n) = none := by simp only [gOut]; rw [if_neg (by omega)]; rfl
      refine sg_forLoop (wpAny_pyNext_list_end (hh _) hit h3 (is_none_item hgi (by simp; omega)) fun h' hx => ?_)
      refine sg_block_nil (hEnd _ _ _ _ _ (.inl rfl) ⟨rfl, hout, hs.step fun b o hb hb2 e => hx b o (Nat.ne_of_lt (Nat.lt_of_lt_of_le hb2 hIS)) e⟩)
    | cons a t' =>
      have hta : (a = 0 ∧ t' = []) ∨ a = 127 := by
        simp [tails] at htl
        rcases htl with ⟨h1, h2⟩ | ⟨h1, _⟩ | ⟨h1, _⟩
        · exact .inl ⟨h1, h2⟩
        · exact .inr h1
        · exact .inr h1
      obtain ⟨tx, htx⟩ := is_item hgi (i := i) (x := a) (by rw [List.getElem?_append_right (by omega)]; simp [hi'])
      refine sg_forLoop (wpAny_pyNext_list_item hit h3 htx fun h' hit' hsb => ?_)
      have F' : Fr h₀ Lg h' m := ⟨F.ns.sameBut hsb hIl, fun b o e => (hsb.2 b (hh₀I b o e)).trans (F.keep b o e), F.above⟩
      have h3' : h'.IsList G gv := h3.at fun o e => (hsb.2 G hIG).trans e
      show wpAny _ _ (assign (forTarget giFor) (genv Lg) _) _ _ _
      conv in (occs := *) forTarget giFor => all_goals whnf
      refine wpAny_assign_Name (stK F' fun h₂ F₂ hs₂ _ => ?_)
      have hit₂ : h₂.IsListIter I G (i + 1) := hit'.extBut hs₂.extBut (Ne.symm hIl)
      have h3₂ : h₂.IsList G gv := h3'.at fun o e => (hs₂.2 G P.gl).trans e
      have hk₂ : ∀ b o, b ≠ Lg → b < Sz → s.heap.get? b = some o → h₂.get? b = some o := fun b o hb hb2 e =>
        (hs₂.2 b hb).trans ((hsb.2 b (Nat.ne_of_lt (Nat.lt_of_lt_of_le hb2 hIS))).trans e)
      conv in (occs := *) giLB => all_goals whnf
      refine seg_execs_cons (sg_If (wpAny_isTrue_Compare1 (ld F₂ (by rfl) (ld_global_at F₂ T.g hCM (eq_int (wpAny_truthy_bool ?_))))))
      rcases hta with ⟨rfl, rfl⟩ | rfl
      · rw [show ((0 : Int) == 127) = false from rfl]
        refine seg_execs_nil ?_
        refine seg_execs_cons (sg_If (wpAny_isTrue_Compare1 (ld F₂ (by rfl) (wpAny_Constant_int (eq_int (wpAny_truthy_bool ?_))))))
        rw [show ((0 : Int) == 0) = true from rfl]
        have hne' : sz ≠ [] := fun h => hne ⟨h, rfl⟩
        have hpos : sz.length ≠ 0 := fun h => hne' (List.length_eq_zero_iff.mp h)
        obtain ⟨x, tx', rfl, hx⟩ : ∃ x tx', last = .int x tx' ∧ sz[i - 1]? = some x := by
          unfold LastOk at hlast; rw [if_neg (by omega)] at hlast; exact hlast
        have h2' : (fun y => if y = Str.ofString "interval" then some (Value.int 0 tx) else m y) (Str.ofString "last_interval") = some (.int x tx') := (if_neg (by decide)).trans h2
        refine seg_execs_cons (sg_If (wpAny_isTrue_Compare1 (ld F₂ h2' (wpAny_Constant_none (is_none (wpAny_truthy_bool ?_))))))
        rw [show ((Value.int x tx') == Value.none) = false from rfl]
        refine seg_execs_nil ?_
        refine seg_execs_cons (seg_While fun p => ?_)
        obtain ⟨n, rfl⟩ : ∃ k, n = k + 1 := ⟨n - 1, by have := hsz.1; omega⟩
        refine gi_while P (by simp [splitAtGen, hsp]) (by simp [Frame.guarded, hgu]) (x := x) sz.length (fun j hj => ?_) rfl n _ _ tx' (by omega) ⟨_, F₂, ?_, h2', h3₂⟩ (hs.step hk₂)
        · simp only [gOut]
          rw [if_neg (by omega), if_pos trivial, List.getLast?_eq_getElem?, ← hx, hi']
        · exact (if_neg (by decide)).trans h1
      · rw [show ((127 : Int) == 127) = true from rfl]
        refine seg_execs_cons (sg_plain (wpAny_Return_none ?_))
        refine hEnd _ _ _ _ _ (.inr rfl) ⟨rfl, ?_, hs.step hk₂⟩
        simp only [gOut]; rw [if_neg (by omega), if_neg (by simp)]
end
end Mine
end
section
open PySem PySem.W PyProof.Rows PySem.Calls
set_option maxRecDepth 100000
namespace Mine
section
variable {w : World} {A : Around} {h₀ : Heap} {Lg G Sz : Nat} {cl : List Nat} {gv : Array Value}
abbrev cFun (Lg : Nat) : Code := .func (fBody giS) (genv Lg)
theorem gi_start {sz t : List Int} {mg mb : Str → Option Value} {mean : ExcName → Option Value} {loose : List Str} (X : (hd.heap_39 w.params).In h₀) (T : Top topProg loose mean mg mb h₀)
    (P : Apart h₀ Lg G Sz cl) (hA : A.handled = none) (hgi : IntsAre gv.toList (sz ++ t)) (hsz : SzOk sz) (htl : t ∈ tails) (hne : ¬ (sz = [] ∧ t = [0])) {m : Str → Option Value}
    (s : Shared) (F : Fr h₀ Lg s.heap m) (hm : m "grouping" = some (.ref G)) (hG : s.heap.IsList G gv) (hS : Sz ≤ s.heap.objs.size) :
    Seg (model prog w) A (gR Lg Sz (gOut sz t)) (gY Lg Sz cl (gOut sz t)) 24 s (cFun Lg) ((model prog w).den (cFun Lg)) [] s := by
  refine seg_func ?_
  conv in (occs := *) fBody giS => all_goals whnf
  refine seg_execs_cons (sg_plain (wpAny_Assign_Name (wpAny_Constant_none (stK F fun h₁ F₁ hs₁ _ => ?_))))
  have hG₁ : h₁.IsList G gv := hG.at fun o e => (hs₁.2 G P.gl).trans e
  have hm₁ : (fun y => if y = Str.ofString "last_interval" then some Value.none else m y) (Str.ofString "grouping") = some (.ref G) := (if_neg (by decide)).trans hm
  refine seg_execs_cons (sg_For (ld F₁ hm₁ (wpAny_pyIter_list hG₁ fun p => ?_)))
  have hsz₁ : s.heap.objs.size = h₁.objs.size := hs₁.1.symm
  refine gi_for (I := h₁.objs.size) X T P (by rfl) (by rfl) (by intro c; exact hA) hgi hsz htl hne (fun n s₀ s c f hf hr => ?_) (by show Sz ≤ h₁.objs.size; omega) sz.length 0 _ _ .none 24 (by omega) (Nat.zero_le _) rfl
    ⟨_, F₁.push _, hm₁, by rfl, hG₁.push _⟩ (by simp [LastOk]) ⟨_, Heap.get?_push_size _ rfl, rfl, rfl⟩ ?_
  · refine seg_leaf (.ok f) ?_
    rcases hf with rfl | rfl
    · exact seg_end (.ok (.ret .none)) hr
    · exact seg_end (.ok (.ret .none)) hr
  · exact (Since.refl Lg Sz s).step fun b o hb _ e => Heap.get?_push_of_some _ ((hs₁.2 b hb).trans e)
def GenSt (w : World) (A : Around) (Lg Sz : Nat) (cl : List Nat) (out : Nat → Option Int) (a g j : Nat) (s : Shared) : Prop :=
  s.heap.IsGen a g ∧ ∃ gs, s.gens[g]? = some gs ∧ gs.bare = true ∧ ∀ s'' : Shared, (∀ b o, b ∉ cl → s.heap.get? b = some o → s''.heap.get? b = some o) →
    gs.Goes (model prog w) A.in1 (gR Lg Sz out) (gY Lg Sz cl out) (24 - j) (.send .none) s''
variable {E : Value → Shared → Prop} {s : Shared}
theorem gi_next {a g n : Nat} {gs : GenState} {R : GenEnd} {Y : Protocol} {Q : Option Value → Shared → Prop} (hh : A.handled = none)
    (hl : s.heap.NoLimit) (hroom : A.depth < recursionLimit) (hg : s.heap.IsGen a g) (hgs : s.gens[g]? = some gs)
    (hgo : gs.Goes (model prog w) A.in1 R Y n (.send .none) (s.setGen g .running))
    (hY : ∀ v s₁ gs', gs'.bare = true → Y (n - 1) (s.setGen g .running) v s₁ (fun r' s'' => match n with
        | 0 => False
        | m + 1 => gs'.Goes (model prog w) A.in1 R Y m r' s'') → Q (some v) (s₁.setGen g gs'))
    (hP : ∀ r s₁, R n (s.setGen g .running) r s₁ → r = .ok (.ret .none) ∧ ∀ h', (∀ b o, s₁.heap.get? b = some o → h'.get? b = some o) → Q none { s₁.setGen g .finished with heap := h' }) :
    wpAny (model prog w) A (pyNext (.ref a)) Q E s := by
  unfold pyNext
  refine wpAny_bind (wpAny_attempt (wpAny_callSpecial?_slot (name := Str.ofString "__next__") hg.typeIs slot_gen_next
    (wpAny_call_entry slot_gen_next hg.typeIs entry_gen_next ?_ (args_gen_next _))))
  show wpAny _ A.in1 (Builtin.Generator.genWake (.ref a) (.send .none)) _ _ s
  unfold Builtin.Generator.genWake
  refine wpAny_bind (wpAny_holding (wpAny_genNumber hg (wpAny_bind (wpAny_genState hgs ?_))))
  have key : wpAny (model prog w) A.in1 (.resume g (.send .none) [] fun r => (match r with
      | .yielded v => ret v
      | .returned v => do
        if v == .none then raiseNew (← newExc (.type "StopIteration") [])
        rule "generator.return-value"; throw (← newExc (.type "StopIteration") [v])
      | .raised e => Builtin.Generator.genLeft (.ref a) e
      | .running => do rule "generator.already-executing"; raiseError "ValueError" "generator already executing"
      | .justStarted => do rule "generator.send-to-fresh"; raiseError "TypeError" "can't send non-None value to a just-started generator"
      | .finished => do raiseNew (← newExc (.type "StopIteration") []) : Sem Fin)) (fun fin s' => ∃ v, fin = .done (.ret v) ∧
        wpAny (model prog w) A (match (Except.ok (some v) : Except Value (Option Value)) with
          | .ok (some v) => pure (some v)
          | .ok none => unsupported "iter:the-iterator's-class-has-lost-its-__next__-amid-the-walk"
          | .error e => do if ← isInstance e (.type "StopIteration") then pure none else throw e) Q E s')
        (fun e s' => wpAny (model prog w) A (match (Except.error e : Except Value (Option Value)) with
          | .ok (some v) => pure (some v)
          | .ok none => unsupported "iter:the-iterator's-class-has-lost-its-__next__-amid-the-walk"
          | .error e => do if ← isInstance e (.type "StopIteration") then pure none else throw e) Q E s') s := by
    refine wpAny_resumeQ hgs hgo (fun x s₁ hx => ?_) (fun v s₁ gs' hb hv => ?_)
    · obtain ⟨rfl, hp⟩ := hP x s₁ hx
      show wpAny _ A.in1 (newExc (.type "StopIteration") [] >>= _) _ _ _
      refine wpAny_bind ?_
      simp only [newExc, newTuple]
      refine wpAny_bind (wpAny_newObj_type ?_ (by size_fits))
      refine wpAny_bind (m := firstArgMember _ _) (wpAny_of_eq (a := Value.none) (by first | rfl | (simp only [firstArgMember]; rfl)) ?_)
      refine wpAny_newObj_type ?_ (by size_fits)
      simp only [raiseNew]
      refine wpAny_bind (wpAny_bind (wpAny_handled ?_))
      rw [show A.in1.handled = none from hh]
      refine wpAny_throw ?_
      refine wpAny_bind (wpAny_isInstance (T := "StopIteration") (b := true) ⟨_, Heap.get?_push_size _ rfl, rfl⟩ isSubtype_stop ?_)
      exact wpAny_pure (hp _ fun b o hb => Heap.get?_push_of_some _ (Heap.get?_push_of_some _ hb))
    · exact wpAny_pure ⟨v, rfl, wpAny_pure (hY v s₁ gs' hb hv)⟩
  cases gs with
  | running => exact hgo.elim
  | finished => exact hgo.elim
  | _ => exact wpAny_bind (wpAny_roomToWake hl hroom key)
end
end Mine
end
section
open PySem PySem.W PyProof.Rows PySem.Calls
set_option maxRecDepth 100000
namespace Mine
def lsTry : Stmt := (fBody lsS).getD 1 (.Pass default)
def tryBody : Stmt → List Stmt | .Try b .. => b | _ => []
def lsFor : Stmt := (tryBody lsTry).getD 0 (.Pass default)
def lsLB : List Stmt := forBody lsFor
abbrev lsenv (L : Nat) : Env := envOf "_law_sizes" (fScope lsS) L 65 (.ref 64)
theorem append_raw {prog : Program} {w : World} {A : Around} {E : Value → Shared → Prop} {s : Shared} {h₀ : Heap} {L : Addr} {m : Str → Option Value} {D : Addr} {its : Array Value} {n : Nat} {x : Value} {Q : Value → Shared → Prop}
    (F : Fr h₀ L s.heap m) (N : News h₀ L s.heap [(D, W.listOf its n)])
    (h : ∀ h' n', Fr h₀ L h' m → News h₀ L h' [(D, W.listOf (its.push x) n')] → Heap.SameBut D s.heap h' → Q .none { s with heap := h' }) (hsz : its.size ≤ sizeLine) :
    wpAny (model prog w) A (call (.builtin "list.append") [.ref D, x]) Q E s := by
  have z := N _ (.head _)
  refine wpAny_list_append_plain (hsz := hsz) ⟨n, z.1⟩ fun h' hl hs => ?_
  obtain ⟨n', hl⟩ := hl
  refine h h' n' (F.change hs z.2.1 z.2.2) (fun p hp => ?_) hs
  rcases List.mem_cons.mp hp with rfl | hp
  · exact ⟨hl, z.2⟩
  · cases hp
theorem len_raw {prog : Program} {w : World} {A : Around} {E : Value → Shared → Prop} {s : Shared} {h₀ : Heap} {L : Addr} {news : List (Addr × Obj)} {D : Addr} {its : Array Value} {n : Nat} {Q : Value → Shared → Prop}
    (N : News h₀ L s.heap news) (hm : (D, W.listOf its n) ∈ news) (hfit : (its.size : Int) < 2 ^ 63) (h : Q (.int its.size (s.toks + 1)) { s with toks := s.toks + 1 + 1 }) :
    wpAny (model prog w) A (call (.builtin "len") [.ref D]) Q E s :=
  len_list (items := its) ⟨_, (N _ hm).1, rfl, n, rfl⟩ hfit h
set_option maxHeartbeats 8000000 in
theorem ls_body {w : World} {A : Around} {h₀ : Heap} {L D : Nat} {mg mb : Str → Option Value} {mean : ExcName → Option Value} {loose : List Str} {s : Shared} {m : Str → Option Value} {itv : Array Value} {c : Nat} {x : Int} {tx tm : Tok}
  {Q : Flow → Shared → Prop} {E : Value → Shared → Prop}
  (X : (hd.heap_39 w.params).In h₀) (T : Top topProg loose mean mg mb h₀) (F : Fr h₀ L s.heap m) (hm1 : m "found" = some (.ref D)) (hm2 : m "many" = some (.int 24 tm)) (hm3 : m "size" = some (.int x tx))
  (hD : s.heap.get? D = some (W.listOf itv c)) (hD0 : h₀.get? D = none) (hDL : D ≠ L) (hj : itv.size < 24)
  (h1 : itv.size + 1 = 24 → ∀ h' tk n', h'.get? D = some (W.listOf (itv.push (.int x tx)) n') → Heap.SameBut D s.heap h' → Q .brk { s with heap := h', toks := tk })
  (h2 : itv.size + 1 ≠ 24 → ∀ h' tk n', h'.get? D = some (W.listOf (itv.push (.int x tx)) n') → Heap.SameBut D s.heap h' → Q .next { s with heap := h', toks := tk }) :
  wpAny (model prog w) A (execs lsLB (lsenv L)) Q E s := by
  k_with_none
  k_with "call builtin:list.append" => (k_here; k_dflt (refine' append_raw ?k1 ?k2 ?_ ?z; (case k1 => k_asm); (case k2 => k_asm); (case z => (rw [sizeLine_eq]; omega)); k_whole); intro h' n' F' N' hsb')
  k_with "call builtin:len" => (k_here; k_dflt (refine' len_raw ?k1 ?k2 ?z ?_; (case k1 => k_asm); (case k2 => k_mem); (case z => (simp only [Array.size_push]; omega)); k_whole))
  unfold prog
  have N : News h₀ L s.heap [(D, W.listOf itv c)] := fun p hp => by
    rcases List.mem_cons.mp hp with rfl | hp
    · exact ⟨hD, hDL, hD0⟩
    · cases hp
  replace F := Fr_pins [("found", .ref D), ("many", .int 24 tm), ("size", .int x tx)] F (by (repeat' (first | exact List.forall_mem_nil _ | (refine List.forall_mem_cons.mpr ⟨by assumption, ?_⟩))))
  dsimp only [pinM] at F
  clear hD
  revert X
  k_fill
  intro X
  w_on
  w_top on
  unfold lsenv
  conv in (occs := *) lsLB => all_goals whnf
  conv in (occs := *) fScope lsS => all_goals whnf
  w_strict k_steps
  · rename News _ _ _ _ => N9
    rename Heap.SameBut _ _ _ => hs9
    rename (_ : Int) = 24 => q9
    exact h1 (by rw [Array.size_push] at q9; omega) _ _ _ (N9 _ (.head _)).1 hs9
  · rename News _ _ _ _ => N9
    rename Heap.SameBut _ _ _ => hs9
    rename (_ : Int) ≠ 24 => q9
    exact h2 (by rw [Array.size_push] at q9; omega) _ _ _ (N9 _ (.head _)).1 hs9
end Mine
end
section
open PySem PySem.W PyProof.Rows PySem.Calls
set_option maxRecDepth 100000
namespace Mine
def lsOut (sz t : List Int) : List Int := if t = [0] then (sz ++ List.replicate 24 ((sz.getLast?).getD 0)).take 24 else sz
def outL (sz t : List Int) (j : Nat) : List Int := (List.range j).map fun i => (gOut sz t i).getD 0
theorem outL_succ (sz t : List Int) (j : Nat) : outL sz t (j + 1) = outL sz t j ++ [(gOut sz t j).getD 0] := by
  simp [outL, List.range_succ]
theorem outL_end {sz t : List Int} {j : Nat} (hsz : SzOk sz) (hne : ¬ (sz = [] ∧ t = [0])) (hj : j ≤ 24) (hall : ∀ i, i < j → gOut sz t i ≠ none) (hend : gOut sz t j = none ∨ j = 24) : outL sz t j = lsOut sz t := by
  have h3 := hsz.1
  by_cases ht : t = [0]
  · subst ht
    have hj : j = 24 := by
      rcases hend with h | h
      · exfalso
        by_cases h1 : j < sz.length
        · simp only [gOut, if_pos h1] at h
          rw [List.getElem?_eq_getElem h1] at h; cases h
        · simp only [gOut, if_neg h1, if_true] at h
          have hn : sz = [] := List.getLast?_eq_none_iff.mp h
          exact hne ⟨hn, rfl⟩
      · exact h
    subst hj
    simp only [lsOut, if_true, outL]
    apply List.ext_getElem
    · simp
    · intro i h1 h2
      simp only [List.length_map, List.length_range] at h1
      simp only [List.getElem_map, List.getElem_range, List.getElem_take, gOut, if_true]
      by_cases hi : i < sz.length
      · rw [if_pos hi, List.getElem?_eq_getElem hi, List.getElem_append_left hi]; rfl
      · rw [if_neg hi, List.getElem_append_right (by omega), List.getElem_replicate]
  · simp only [lsOut, if_neg ht]
    have hle : j ≤ sz.length := by
      by_cases h : j ≤ sz.length
      · exact h
      · exfalso
        have := hall sz.length (by omega)
        apply this
        simp [gOut, ht]
    have hj : j = sz.length := by
      rcases hend with h | h
      · by_cases h1 : j < sz.length
        · simp only [gOut, if_pos h1] at h
          rw [List.getElem?_eq_getElem h1] at h; cases h
        · omega
      · omega
    subst hj
    apply List.ext_getElem
    · simp [outL]
    · intro i h1 h2
      simp [outL, gOut, h2]
theorem intsAre_push {l : List Value} {ns : List Int} (h : IntsAre l ns) (x : Int) (t : Tok) : IntsAre (l ++ [.int x t]) (ns ++ [x]) := h.append (.cons x t .nil)

structure LsInv (w : World) (A : Around) (h₀ : Heap) (L D Lg Sz a : Nat) (sz t : List Int) (s : Shared) (j : Nat) (s' : Shared) : Prop where
  ex : ∃ h' tk gens' m' itv c tm, s' = { s with heap := h', toks := tk, gens := gens' } ∧ Fr h₀ L h' m' ∧ m' "found" = some (.ref D) ∧ m' "many" = some (.int 24 tm) ∧
    h'.get? D = some (W.listOf itv c) ∧ IntsAre itv.toList (outL sz t j) ∧ AllBare gens' ∧ (∀ b o, b ≠ L → b ≠ D → s.heap.get? b = some o → h'.get? b = some o)
  gen : GenSt w A Lg Sz [L, D] (gOut sz t) a s.gens.size j s'
  past : ∀ i, i < j → gOut sz t i ≠ none

set_option maxHeartbeats 4000000 in
theorem ls_loop {w : World} {A : Around} {h₀ : Heap} {L D Lg Sz a G : Nat} {mg mb : Str → Option Value} {mean : ExcName → Option Value} {loose : List Str} {s : Shared} {sz t : List Int} {R : Result → Shared → Prop}
  (X : (hd.heap_39 w.params).In h₀) (T : Top topProg loose mean mg mb h₀) (hA : A.handled = none) (hroom : A.depth < recursionLimit) (P : Apart h₀ Lg G Sz [L, D]) (hLD : D ≠ L) (hLh : h₀.objs.size ≤ L) (haS : a < Sz) (haL : a ≠ Lg) (hac : a ∉ [L, D])
  (hsz : SzOk sz) (hne : ¬ (sz = [] ∧ t = [0])) (hsS : s.heap.objs.size ≤ Lg) (hLs : L < s.heap.objs.size)
  (hR : ∀ h' tk gens' m' itv c, AllBare gens' → Fr h₀ L h' m' → m' "found" = some (.ref D) → h'.get? D = some (W.listOf itv c) → IntsAre itv.toList (lsOut sz t) →
    (∀ b o, b ≠ L → b ≠ D → s.heap.get? b = some o → h'.get? b = some o) → R (.ok .next) { s with heap := h', toks := tk, gens := gens' }) :
  ∀ (s' : Shared), LsInv w A h₀ L D Lg Sz a sz t s 0 s' → codeAny (model prog w) A (.forLoop (forTarget lsFor) (.ref a) lsLB [] (lsenv L)) R s' := by
  intro s' hs'
  have hL0 : h₀.get? L = none := Heap.get?_none_of_le hLh
  have hLc : L ∈ [L, D] := List.mem_cons_self ..
  have hDc : D ∈ [L, D] := List.mem_cons_of_mem _ (List.mem_cons_self ..)
  have hLLg : L ≠ Lg := fun h => P.lg (h ▸ hLc)
  have hDLg : D ≠ Lg := fun h => P.lg (h ▸ hDc)
  have hLS := P.clS L hLc
  have hDS := P.clS D hDc
  have hLL : L < Lg := Nat.lt_of_lt_of_le hLs hsS
  have hD0 := P.old D hDc
  refine codeAny_forLoop (fun k s' => ∃ j, j < 24 ∧ k = 24 - j ∧ LsInv w A h₀ L D Lg Sz a sz t s j s') ?_ 24 ⟨0, by omega, rfl, hs'⟩
  clear hs' s'
  rintro k s' ⟨j, hj, rfl, ⟨h', tk, gens', m', itv, c, tm, rfl, F, hm1, hm2, hD, hints, hb, hk⟩, ⟨hIG, gs, hgs, hgb, hgo⟩, hpast⟩
  obtain ⟨n, hn⟩ : ∃ n, 24 - j = n + 1 := ⟨23 - j, by omega⟩
  rw [hn] at hgo ⊢
  have hold : ∀ b o, h₀.get? b = some o → b ≠ Lg ∧ b < Sz := fun b o e =>
    have h1 : b < Lg := Nat.lt_trans (Nat.lt_of_lt_of_le (Heap.lt_size e) hLh) hLL
    ⟨Nat.ne_of_lt h1, Nat.lt_trans h1 P.lgS⟩
  have holdS : ∀ b o, s.heap.get? b = some o → b ≠ Lg ∧ b < Sz := fun b o e =>
    have h1 : b < Lg := Nat.lt_of_lt_of_le (Heap.lt_size e) hsS
    ⟨Nat.ne_of_lt h1, Nat.lt_trans h1 P.lgS⟩
  refine gi_next (R := gR Lg Sz (gOut sz t)) (Y := gY Lg Sz [L, D] (gOut sz t)) (n := n + 1) hA (T.nolimit.keeps F.keep) hroom hIG hgs (hgo _ fun _ _ _ e => e) (fun v s₁ gs' hb' hy => ?_) (fun r s₁ hr => ?_)
  · obtain ⟨⟨x, tx, rfl, hox⟩, ⟨h₁, tk₁, rfl, hk₁⟩, hkap⟩ := hy
    have hox : gOut sz t j = some x := by rw [show j = 23 - (n + 1 - 1) by omega]; exact hox
    have F₁ : Fr h₀ L h₁ m' := ⟨F.ns.at' fun o e => hk₁ L o hLLg hLS e, fun b o e => hk₁ b o (hold b o e).1 (hold b o e).2 (F.keep b o e), F.above⟩
    have hD₁ : h₁.get? D = some (W.listOf itv c) := hk₁ D _ hDLg hDS hD
    have hsize : itv.size = j := by
      have := hints.length
      simpa [outL] using this
    show wpAny _ _ (assign (forTarget lsFor) (lsenv L) _) _ _ _
    conv in (occs := *) forTarget lsFor => all_goals whnf
    refine wpAny_assign_Name (stK F₁ fun h₂ F₂ hs₂ _ => ?_)
    have hD₂ : h₂.get? D = some (W.listOf itv c) := (hs₂.2 D hLD).trans hD₁
    have hbare : AllBare ((({ s with heap := h', toks := tk, gens := gens' } : Shared).setGen s.gens.size .running).setGen s.gens.size gs').gens :=
      (GenOnlyQ.of ((GenOnly.setGen _ _ _).trans (GenOnly.setGen _ _ gs')) (setGen_self (gs := .running) (setGen_self hgs)) hb').bare hb
    have hints' : IntsAre (itv.push (.int x tx)).toList (outL sz t (j + 1)) := by
      rw [outL_succ, hox, Array.toList_push]; exact intsAre_push hints x tx
    have hkeep : ∀ (h₃ : Heap), Heap.SameBut D h₂ h₃ → ∀ b o, b ≠ L → b ≠ D → h₁.get? b = some o → h₃.get? b = some o := fun h₃ hs₃ b o hbL hbD e =>
      (hs₃.2 b hbD).trans ((hs₂.2 b hbL).trans e)
    have hpast' : ∀ i, i < j + 1 → gOut sz t i ≠ none := fun i hi => by
      by_cases q : i = j
      · subst q; rw [hox]; nofun
      · exact hpast i (by omega)
    have F₃ : ∀ h₃, Heap.SameBut D h₂ h₃ → Fr h₀ L h₃ (fun y => if y = Str.ofString "size" then some (Value.int x tx) else m' y) := fun h₃ hs₃ =>
      ⟨F₂.ns.sameBut hs₃ (Ne.symm hLD), fun b o e => (hs₃.2 b fun q => by rw [q, hD0] at e; cases e).trans (F₂.keep b o e), F₂.above⟩
    refine ls_body (D := D) (itv := itv) (c := c) (x := x) (tx := tx) (tm := tm) X T F₂ ((if_neg (by decide)).trans hm1) ((if_neg (by decide)).trans hm2) (if_pos rfl) hD₂ hD0 hLD (by omega) ?_ ?_
    · intro h24 h₃ tk₃ n₃ hD₃ hs₃
      have hj24 : j + 1 = 24 := by omega
      have hl := outL_end hsz hne (j := j + 1) (by omega) hpast' (.inr hj24)
      exact hR _ _ _ _ _ _ hbare (F₃ h₃ hs₃) ((if_neg (by decide)).trans hm1) hD₃ (hl ▸ hints') fun b o h1 h2 e => hkeep h₃ hs₃ b o h1 h2 (hk₁ b o (holdS b o e).1 (holdS b o e).2 (hk b o h1 h2 e))
    · intro h24 h₃ tk₃ n₃ hD₃ hs₃
      refine ⟨24 - (j + 1), by omega, j + 1, by omega, rfl, ⟨_, _, _, _, _, _, _, rfl, F₃ h₃ hs₃, (if_neg (by decide)).trans hm1, (if_neg (by decide)).trans hm2, hD₃, hints', hbare,
        fun b o h1 h2 e => hkeep h₃ hs₃ b o h1 h2 (hk₁ b o (holdS b o e).1 (holdS b o e).2 (hk b o h1 h2 e))⟩, ⟨?_, gs', setGen_self (gs := .running) (setGen_self hgs), hb', fun s'' hal => ?_⟩, hpast'⟩
      · have haL' : a ≠ L := fun h => hac (h ▸ hLc)
        have haD' : a ≠ D := fun h => hac (h ▸ hDc)
        obtain ⟨o, nm, qn, ho, r⟩ := hIG
        exact ⟨o, nm, qn, hkeep h₃ hs₃ a o haL' haD' (hk₁ a o haL haS ho), r⟩
      · rw [show 24 - (j + 1) = n by omega]
        refine hkap (by omega) s'' fun b o hbc e => hal b o hbc (hkeep h₃ hs₃ b o (fun q => hbc (q ▸ hLc)) (fun q => hbc (q ▸ hDc)) e)
  · obtain ⟨rfl, hout, ⟨h₁, tk₁, rfl, hk₁⟩⟩ := hr
    have hout : gOut sz t j = none := by rw [show j = 24 - (n + 1) by omega]; exact hout
    refine ⟨rfl, fun h₂ hk₂ => ?_⟩
    have hk₃ : ∀ b o, b ≠ Lg → b < Sz → h'.get? b = some o → h₂.get? b = some o := fun b o h1 h2 e => hk₂ b o (hk₁ b o h1 h2 e)
    have F₁ : Fr h₀ L h₂ m' := ⟨F.ns.at' fun o e => hk₃ L o hLLg hLS e, fun b o e => hk₃ b o (hold b o e).1 (hold b o e).2 (F.keep b o e), F.above⟩
    have hbare : AllBare ((({ s with heap := h', toks := tk, gens := gens' } : Shared).setGen s.gens.size .running).setGen s.gens.size .finished).gens :=
      (GenOnlyQ.of ((GenOnly.setGen _ _ _).trans (GenOnly.setGen _ _ .finished)) (setGen_self (gs := .running) (setGen_self hgs)) rfl).bare hb
    have hl := outL_end hsz hne (j := j) (by omega) hpast (.inl hout)
    exact wpAny_execs_nil (hR _ _ _ _ _ _ hbare F₁ hm1 (hk₃ D _ hDLg hDS hD) (hl ▸ hints) fun b o h1 h2 e => hk₃ b o (holdS b o e).1 (holdS b o e).2 (hk b o h1 h2 e))
end Mine
end
section
open PySem PySem.W PyProof.Rows PySem.Calls
set_option maxRecDepth 100000
namespace Mine
theorem not_mem_two {a L D : Nat} (h1 : L < a) (h2 : D < a) : a ∉ [L, D] := by simp; omega
theorem apart_of {h₀ : Heap} {S G L D : Nat} (hab : h₀.objs.size ≤ L) (hD0 : h₀.get? D = none) (hL : L < S) (hD : D < S) (hG : G < S) (hGL : G ≠ L) (hGD : G ≠ D) : Apart h₀ S G (S + 2) [L, D] where
  lg := not_mem_two hL hD
  g := by simp; exact ⟨hGL, hGD⟩
  old := fun b hb => by
    rcases List.mem_cons.mp hb with rfl | hb
    · exact Heap.get?_none_of_le hab
    · rw [List.mem_singleton.mp hb]; exact hD0
  lgS := by omega
  gS := by omega
  gl := by omega
  clS := fun b hb => by
    rcases List.mem_cons.mp hb with rfl | hb
    · omega
    · rw [List.mem_singleton.mp hb]; omega
set_option maxHeartbeats 8000000 in
theorem ls_for {w : World} {A : Around} {h₀ : Heap} {L D G : Nat} {mg mb : Str → Option Value} {mean : ExcName → Option Value} {loose : List Str} {s : Shared} {m : Str → Option Value} {gv : Array Value} {c gc : Nat} {tm : Tok} {sz t : List Int}
  {Q : Flow → Shared → Prop} {E : Value → Shared → Prop}
  (X : (hd.heap_39 w.params).In h₀) (T : Top topProg loose mean mg mb h₀) (hA : A.handled = none) (hroom : A.depth < recursionLimit) (F : Fr h₀ L s.heap m) (hm1 : m "found" = some (.ref D)) (hm2 : m "many" = some (.int 24 tm)) (hm3 : m "grouping" = some (.ref G))
  (hD : s.heap.get? D = some (W.listOf #[] c)) (hD0 : h₀.get? D = none) (hDL : D ≠ L) (hG : s.heap.get? G = some (W.listOf gv gc)) (hGL : G ≠ L) (hGD : G ≠ D)
  (hgi : IntsAre gv.toList (sz ++ t)) (hsz : SzOk sz) (htl : t ∈ tails) (hne : ¬ (sz = [] ∧ t = [0])) (hb : AllBare s.gens)
  (hR : ∀ h' tk gens' m' itv c, AllBare gens' → Fr h₀ L h' m' → m' "found" = some (.ref D) → h'.get? D = some (W.listOf itv c) → IntsAre itv.toList (lsOut sz t) →
    (∀ b o, b ≠ L → b ≠ D → s.heap.get? b = some o → h'.get? b = some o) → Q .next { s with heap := h', toks := tk, gens := gens' }) :
  wpAny (model prog w) A (exec lsFor (lsenv L)) Q E s := by
  k_with_none
  unfold prog
  have hcode : ∀ (h : Heap), (∀ b o, h₀.get? b = some o → h.get? b = some o) → h.CodeRec (.ref 20) "_grouping_intervals" := fun h hk => codeRec_of (Frag.In.keeps X hk) (by kernel_rfl)
  replace F := Fr_pins [("grouping", .ref G), ("found", .ref D), ("many", .int 24 tm)] F (by (repeat' (first | exact List.forall_mem_nil _ | (refine List.forall_mem_cons.mpr ⟨by assumption, ?_⟩))))
  dsimp only [pinM] at F
  revert X
  k_fill
  intro X
  w_on
  w_top on
  unfold lsenv
  conv in (occs := *) lsFor => all_goals whnf
  conv in (occs := *) fScope lsS => all_goals whnf
  refine wpAny_For ?_
  w_strict k_steps
  have XS := Frag.In.keeps X F.keep
  refine wpAny_call ?_
  refine codeAny_call_generator hroom (XS 21 _ rfl) rfl rfl rfl rfl (codeRec_of XS (by kernel_rfl)) (BindsTo.of_eq (binds := [(Str.ofString "grouping", Value.ref G)]) rfl _ _ _ _ ?_)
  refine wpAny_newFunctionEnv (by decide) (locs rfl) (fun h₁ hns hs₁ => ?_)
  have hsz₁ : h₁.objs.size = s.heap.objs.size + 1 := by rw [hs₁.1, Heap.size_push]
  have hk₁ : ∀ b o, s.heap.get? b = some o → h₁.get? b = some o := fun b o e => hs₁.extBut b o (Nat.ne_of_lt (Heap.lt_size e)) (Heap.get?_push_of_some _ e)
  refine ⟨(T.nolimit.keeps F.keep).keeps hk₁, ?_⟩
  refine wpAny_pyIter_gen (g := s.gens.size) ⟨_, _, _, Heap.get?_push_size _ rfl, rfl, rfl, rfl⟩ ?_
  have hLs : L < s.heap.objs.size := F.ns.lt
  have hDs := Heap.lt_size hD
  have hGs := Heap.lt_size hG
  have hk₂ : ∀ (g : Obj) b o, s.heap.get? b = some o → (h₁.push g).get? b = some o := fun g b o e => Heap.get?_push_of_some g (hk₁ b o e)
  have hP : Apart h₀ s.heap.objs.size G (s.heap.objs.size + 2) [L, D] := apart_of F.above hD0 hLs hDs hGs hGL hGD
  refine ls_loop (a := h₁.objs.size) (G := G) X T hA hroom hP hDL F.above (hsz₁ ▸ Nat.lt_succ_self _) (hsz₁ ▸ Nat.succ_ne_self _) (hsz₁ ▸ not_mem_two (Nat.lt_succ_of_lt hLs) (Nat.lt_succ_of_lt hDs)) hsz hne (Nat.le_refl _) hLs hR _ ?_
  refine ⟨⟨_, _, _, pinM [(Str.ofString "grouping", .ref G), (Str.ofString "found", .ref D), (Str.ofString "many", .int 24 tm)] m, #[], c, tm, rfl, ?_, rfl, rfl, ?_, .nil, ?_, ?_⟩, ⟨?_, ?_⟩, ?_⟩
  · exact ⟨F.ns.keeps fun b o e => hk₂ _ b o e, fun b o e => hk₂ _ b o (F.keep b o e), F.above⟩
  · exact hk₂ _ _ _ hD
  · exact hb.push rfl
  · exact fun b o _ _ e => hk₂ _ b o e
  · exact ⟨_, _, _, Heap.get?_push_size _ rfl, rfl, rfl, rfl⟩
  · refine ⟨_, Array.getElem?_push_size .., rfl, fun s'' hal => ⟨rfl, ?_⟩⟩
    have F₁ : Fr h₀ s.heap.objs.size h₁ (fun y => ([(Str.ofString "grouping", Value.ref G)] : List (Str × Value)).reverse.lookup y) := ⟨hns, fun b o e => hk₁ b o (F.keep b o e), Nat.le_trans F.above (Nat.le_of_lt hLs)⟩
    have F₂ := Fr.along (F₁.push _) hP.lg hP.old hal
    have hG₂ : s''.heap.IsList G gv := ⟨_, hal G _ hP.g (hk₂ _ _ _ hG), rfl, gc, rfl⟩
    refine gi_start (A := A.in1) X T hP hA hgi hsz htl hne s'' F₂ (by rfl) hG₂ ?_
    have h9 : h₁.objs.size < s''.heap.objs.size := Heap.lt_size (hal h₁.objs.size _ (hsz₁ ▸ not_mem_two (Nat.lt_succ_of_lt hLs) (Nat.lt_succ_of_lt hDs)) (Heap.get?_push_size _ rfl))
    omega
  · exact fun i hi => absurd hi (Nat.not_lt_zero i)
end Mine
end
section
open PySem PySem.W PyProof.Rows PySem.Calls
set_option maxRecDepth 100000
namespace Mine

theorem sz_nil {n : Int} {f : Int → Int} (h : (rangeKs 0 (n.fmod 4 - 0).toNat).map f = []) : n.fmod 4 = 0 := by
  have := fmod4 n
  have h1 := congrArg List.length h
  simp [rangeKs] at h1
  omega
set_option maxHeartbeats 8000000 in
theorem s0 {w : World} {h₀ : Heap} {L fa l : Nat} {mg mb : Str → Option Value} {mean : ExcName → Option Value} {loose : List Str} {vs : List Value} {ns : List Int} {s : Shared} {m : Str → Option Value}
  {o1 o2 o3 : Obj} {E : Value → Shared → Prop}
  (X : (hd.heap_39 w.params).In h₀) (T : Top topProg loose mean mg mb h₀) (B : Below callerA h₀ [] h₀) (hL : h₀.IsList l vs.toArray) (hI : IntsAre vs ns)
  (hlen : ns.length ≤ 63)
  (C : CodeHd h₀ 74 72) (F : Fr h₀ L s.heap m) (hm : m "script" = some (.ref l))
  (N : News h₀ L s.heap [(L+1+1+1, o3), (L+1+1, o2), (L+1, o1), (72, tabObj #[])])
  (hne : ¬ ((ns.take 1).sum.fmod 4 = 0 ∧ ((ns.take 1).sum.fdiv 256).fmod 4 = 1)) (d1 : o1.data = .cell none) (d2 : o2.data = .cell none) (d3 : o3.data = .cell none) (hlt : 72 < L) :
  wpAny (model prog w) (callerA.deeper (lenv L fa)) (exec (lawSt 0) (lenv L fa)) (fun f s' => f = .next ∧ MidG h₀ L l s s') E s := by
  k_with_none
  k_with "binaryOp FloorDiv int int" => (k_here; with_reducible refine floordiv_int (fd4_ne (by assumption) (by assumption)) ?_ (Or.inl (PyProof.noPylong_of_log2 (fd4_log (by assumption) (by assumption)))))
  unfold prog
  replace F := Fr_pin F hm
  revert X
  k_fill
  intro X
  w_on
  w_top on
  unfold lenv
  conv in (occs := *) lawSt 0 => all_goals whnf
  conv in (occs := *) fScope lawS => all_goals whnf
  w_strict k_steps
  all_goals first
    | exact True.intro
    | (refine ⟨_, _, _, _, o2, o3, _, _, 0, _, _, rfl, by assumption, rfl, News_sub (by assumption) ?_, by assumption, by assumption, by assumption, by omega, by assumption, szOk_of _, ?_, ?_⟩
       · (repeat' (first | exact List.forall_mem_nil _ | (refine List.forall_mem_cons.mpr ⟨by k_mem, ?_⟩)))
       · simp [tails]
       · (rintro ⟨q1, q2⟩
          first
            | cases q2; done
            | exact hne ⟨sz_nil q1, by assumption⟩))
end Mine
end
section
open PySem PySem.W PyProof.Rows PySem.Calls
set_option maxRecDepth 100000
namespace Mine
theorem ls_forN {w : World} {A : Around} {h₀ : Heap} {L D G : Nat} {mg mb : Str → Option Value} {mean : ExcName → Option Value} {loose : List Str} {s : Shared} {m : Str → Option Value} {gv : Array Value} {c gc : Nat} {tm : Tok} {sz t : List Int} {rest : List (Addr × Obj)}
  {Q : Flow → Shared → Prop} {E : Value → Shared → Prop}
  (X : (hd.heap_39 w.params).In h₀) (T : Top topProg loose mean mg mb h₀) (hA : A.handled = none) (hroom : A.depth < recursionLimit) (F : Fr h₀ L s.heap m) (hm1 : m "found" = some (.ref D)) (hm2 : m "many" = some (.int 24 tm)) (hm3 : m "grouping" = some (.ref G))
  (N : News h₀ L s.heap ((D, W.listOf #[] c) :: rest)) (hG : (G, W.listOf gv gc) ∈ rest) (hDr : ∀ p ∈ rest, p.1 ≠ D)
  (hgi : IntsAre gv.toList (sz ++ t)) (hsz : SzOk sz) (htl : t ∈ tails) (hne : ¬ (sz = [] ∧ t = [0])) (hb : AllBare s.gens)
  (hR : ∀ h' tk gens' (m' : Str → Option Value) itv c, AllBare gens' → Fr h₀ L h' (fun y => if y = "found" then some (.ref D) else m' y) → News h₀ L h' ((D, W.listOf itv c) :: rest) → IntsAre itv.toList (lsOut sz t) →
    Q .next { s with heap := h', toks := tk, gens := gens' }) :
  wpAny (model prog w) A (exec lsFor (lsenv L)) Q E s := by
  have hD := N _ (.head _)
  have hG' := N _ (.tail _ hG)
  refine ls_for X T hA hroom F hm1 hm2 hm3 hD.1 hD.2.2 hD.2.1 hG'.1 hG'.2.1 (hDr _ hG) hgi hsz htl hne hb fun h' tk gens' m' itv c hb F' hm hD' hi hk => ?_
  refine hR h' tk gens' m' itv c hb (Fr_pin F' hm) (fun p hp => ?_) hi
  rcases List.mem_cons.mp hp with rfl | hp
  · exact ⟨hD', hD.2⟩
  · have hp' := N p (.tail _ hp)
    exact ⟨hk _ _ hp'.2.1 (hDr p hp) hp'.1, hp'.2⟩
def MidS (h₀ : Heap) (L l : Nat) (sz t : List Int) (s s' : Shared) : Prop :=
  ∃ h' tk gens' m' o1 o2 o3, ∃ G : Nat, ∃ gv n, ∃ S : Nat, ∃ sv c, s' = { s with heap := h', toks := tk, gens := gens' } ∧ AllBare gens' ∧ Fr h₀ L h' m' ∧ m' "script" = some (.ref l) ∧
    News h₀ L h' [(S, W.listOf sv c), (G, W.listOf gv n), (L+1+1+1, o3), (L+1+1, o2), (L+1, o1), (72, tabObj #[])] ∧ o1.data = .cell (some (.ref G)) ∧ o2.data = .cell (some (.ref S)) ∧ o3.data = .cell none ∧ L + 1 + 1 + 1 < G ∧ G < S ∧
    IntsAre gv.toList (sz ++ t) ∧ IntsAre sv.toList (lsOut sz t)
set_option maxHeartbeats 8000000 in
theorem s1 {w : World} {h₀ : Heap} {L fa l G : Nat} {mg mb : Str → Option Value} {mean : ExcName → Option Value} {loose : List Str} {s : Shared} {m : Str → Option Value}
  {o1 o2 o3 : Obj} {gv : Array Value} {n : Nat} {sz t : List Int} {E : Value → Shared → Prop}
  (X : (hd.heap_39 w.params).In h₀) (T : Top topProg loose mean mg mb h₀) (B : Below callerA h₀ [] h₀)
  (F : Fr h₀ L s.heap m) (hm : m "script" = some (.ref l))
  (N : News h₀ L s.heap [(G, W.listOf gv n), (L+1+1+1, o3), (L+1+1, o2), (L+1, o1), (72, tabObj #[])])
  (d1 : o1.data = .cell (some (.ref G))) (d2 : o2.data = .cell none) (d3 : o3.data = .cell none) (hlt : 72 < L) (hG : L + 1 + 1 + 1 < G)
  (hgi : IntsAre gv.toList (sz ++ t)) (hsz : SzOk sz) (htl : t ∈ tails) (hne : ¬ (sz = [] ∧ t = [0])) (hb : AllBare s.gens) :
  wpAny (model prog w) (callerA.deeper (lenv L fa)) (exec (lawSt 1) (lenv L fa)) (fun f s' => f = .next ∧ MidS h₀ L l sz t s s') E s := by
  k_with_none
  k_with "exec For Name Call cons nil" => (k_here; k_dflt (refine' ls_forN ?x ?tt ?ha ?hr ?f ?m1 ?m2 ?m3 ?n ?g ?d ?gi ?sz ?tl ?ne ?b ?_; (case x => k_asm); (case tt => k_asm); (case ha => exact rfl); (case hr => k_room); (case f => k_asm); (case m1 => exact rfl); (case m2 => exact rfl); (case m3 => exact rfl); (case n => k_asm); (case g => k_mem); (case d => (repeat' (first | exact List.forall_mem_nil _ | (refine List.forall_mem_cons.mpr ⟨by (refine neN ?_; (try dsimp only); omega), ?_⟩)))); (case gi => assumption); (case sz => assumption); (case tl => assumption); (case ne => assumption); (case b => assumption)); intro h' tk' gens' m' itv' c' hb' F' N' hi')
  unfold prog
  replace F := Fr_pins [("script", .ref l)] F (by (repeat' (first | exact List.forall_mem_nil _ | (refine List.forall_mem_cons.mpr ⟨by assumption, ?_⟩))))
  dsimp only [pinM] at F
  revert X
  k_fill
  intro X
  w_on
  w_top on
  unfold lenv
  conv in (occs := *) lawSt 1 => all_goals whnf
  conv in (occs := *) fScope lawS => all_goals whnf
  w_strict k_steps
  all_goals first
    | exact True.intro
    | exact rfl
    | (refine ⟨_, _, _, _, o1, _, o3, G, gv, n, _, _, ?c, rfl, by assumption, by assumption, rfl, News_sub (by assumption) ?_, d1, by assumption, d3, hG, by omega, hgi, by assumption⟩
       rotate_left
       (repeat' (first | exact List.forall_mem_nil _ | (refine List.forall_mem_cons.mpr ⟨by k_mem, ?_⟩))))
end Mine
end
section
open PySem PySem.W PyProof.Rows PySem.Calls
set_option maxRecDepth 100000
namespace Mine
def LSt (h₀ : Heap) (L G S : Nat) (gv sv : List Value) (x3 : Option Value) (tab : List (Addr × Obj)) (pins : List (Str × Value)) (h : Heap) : Prop :=
  ∃ m o1 o2 o3 n c, Fr h₀ L h m ∧ (∀ p ∈ pins, m p.1 = some p.2) ∧ News h₀ L h ((S, W.listOf sv.toArray c) :: (G, W.listOf gv.toArray n) :: (L+1+1+1, o3) :: (L+1+1, o2) :: (L+1, o1) :: tab) ∧
    o1.data = .cell (some (.ref G)) ∧ o2.data = .cell (some (.ref S)) ∧ o3.data = .cell x3
def Kept (P : Heap → Prop) (s s' : Shared) : Prop := ∃ h' tk, s' = { s with heap := h', toks := tk } ∧ P h'
set_option maxHeartbeats 8000000 in
theorem s2 {w : World} {h₀ : Heap} {L fa l G S : Nat} {mg mb : Str → Option Value} {mean : ExcName → Option Value} {loose : List Str} {s : Shared}
  {gv sv : List Value} {gs ss : List Int} {E : Value → Shared → Prop}
  (X : (hd.heap_39 w.params).In h₀) (T : Top topProg loose mean mg mb h₀) (B : Below callerA h₀ [] h₀)
  (H : LSt h₀ L G S gv sv none [(72, tabObj #[])] [("script", .ref l)] s.heap) (hlt : 72 < L) (hG : L + 1 + 1 + 1 < G) (hGS : G < S)
  (hgi : IntsAre gv gs) (hgl : gs.length ≤ 5) (hgl' : gv.length ≤ 5) (hne : gs.take 1 ≠ [0]) :
  wpAny (model prog w) (callerA.deeper (lenv L fa)) (exec (lawSt 2) (lenv L fa)) (fun f s' => f = .next ∧ Kept (LSt h₀ L G S gv sv none [(72, tabObj #[])] [("script", .ref l)]) s s') E s := by
  k_with_none
  unfold prog
  obtain ⟨m, o1, o2, o3, n, c, F, hp, N, d1, d2, d3⟩ := H
  replace F := Fr_pins _ F hp
  dsimp only [pinM] at F
  revert X
  k_fill
  intro X
  w_on
  w_top on
  unfold lenv
  conv in (occs := *) lawSt 2 => all_goals whnf
  conv in (occs := *) fScope lawS => all_goals whnf
  w_strict k_steps
  all_goals first
    | (exfalso; rename (false != _) = true => q9; simp [hne] at q9; done)
    | exact rfl
    | (refine ⟨_, _, rfl, _, _, _, _, ?n9, ?c9, by assumption, ?p9, News_sub (by assumption) ?w9, by assumption, by assumption, by assumption⟩; (case w9 => (repeat' (first | exact List.forall_mem_nil _ | (refine List.forall_mem_cons.mpr ⟨by k_mem, ?_⟩)))); (case p9 => (repeat' (first | exact List.forall_mem_nil _ | (refine List.forall_mem_cons.mpr ⟨rfl, ?_⟩)))))
set_option maxHeartbeats 8000000 in
theorem s3 {w : World} {h₀ : Heap} {L fa l G S : Nat} {mg mb : Str → Option Value} {mean : ExcName → Option Value} {loose : List Str} {s : Shared}
  {gv sv : List Value} {E : Value → Shared → Prop}
  (X : (hd.heap_39 w.params).In h₀) (T : Top topProg loose mean mg mb h₀) (B : Below callerA h₀ [] h₀)
  (H : LSt h₀ L G S gv sv none [(72, tabObj #[])] [("script", .ref l)] s.heap) (hlt : 72 < L) (hG : L + 1 + 1 + 1 < G) (hGS : G < S) :
  wpAny (model prog w) (callerA.deeper (lenv L fa)) (exec (lawSt 3) (lenv L fa)) (fun f s' => f = .next ∧ Kept (LSt h₀ L G S gv sv none [(72, tabObj #[])] [("script", .ref l)]) s s') E s := by
  k_with_none
  unfold prog
  obtain ⟨m, o1, o2, o3, n, c, F, hp, N, d1, d2, d3⟩ := H
  replace F := Fr_pins _ F hp
  dsimp only [pinM] at F
  revert X
  k_fill
  intro X
  w_on
  w_top on
  unfold lenv
  conv in (occs := *) lawSt 3 => all_goals whnf
  conv in (occs := *) fScope lawS => all_goals whnf
  w_strict k_steps
  all_goals first
    | exact rfl
    | (refine ⟨_, _, rfl, _, _, _, _, ?n9, ?c9, by assumption, ?p9, News_sub (by assumption) ?w9, by assumption, by assumption, by assumption⟩; (case w9 => (repeat' (first | exact List.forall_mem_nil _ | (refine List.forall_mem_cons.mpr ⟨by k_mem, ?_⟩)))); (case p9 => (repeat' (first | exact List.forall_mem_nil _ | (refine List.forall_mem_cons.mpr ⟨rfl, ?_⟩)))))
end Mine
end
section
open PySem PySem.W PyProof.Rows PySem.Calls PyProof.Rows.LCg
set_option maxRecDepth 100000
namespace Mine
def asgVal : Stmt → Expr | .Assign _ v _ => v | _ => .Constant .none 0 default
def compGen : Expr → Comprehension | .ListComp _ (g :: _) _ _ => g | _ => ⟨.Constant .none 0 default, .Constant .none 0 default, [], 0⟩
def compScope : Expr → Scope | .ListComp _ _ s _ => s | _ => default
def compElt : Expr → Expr | .ListComp e _ _ _ => e | _ => .Constant .none 0 default
def ownE : Expr := asgVal (lawSt 4)
def ownTest : Expr := (compGen ownE).ifs.getD 0 (.Constant .none 0 default)
theorem enum_K {prog : Program} {w : World} {A : Around} {E : Value → Shared → Prop} {s : Shared} {h₀ : Heap} {L : Addr} {m : Str → Option Value} {news : List (Addr × Obj)} {G : Addr} {its : Array Value} {n : Nat} {Q : Value → Shared → Prop}
    (F : Fr h₀ L s.heap m) (N : News h₀ L s.heap news) (hm : (G, W.listOf its n) ∈ news)
    (h : ∀ h', Fr h₀ L h' m → News h₀ L h' news → s.heap.objs.size < h'.objs.size → IsEnum h' (s.heap.objs.size + 1) s.heap.objs.size 0 .none → h'.IsListIter s.heap.objs.size G 0 → h'.objs.size = s.heap.objs.size + 2 → Q (.ref (s.heap.objs.size + 1)) { s with heap := h' }) :
    wpAny (model prog w) A (call (.type "enumerate") [.ref G]) Q E s :=
  call_enumerate_list (items := its) ⟨_, (N _ hm).1, rfl, n, rfl⟩ fun h' he hi hsz hk => h h' (F.keeps hk) (fun p hp => ⟨hk _ _ (N p hp).1, (N p hp).2⟩) (by omega) he hi hsz
section
set_option maxHeartbeats 8000000 in
theorem own_iter {w : World} {A : Around} {h₀ : Heap} {L fa G : Nat} {mg mb : Str → Option Value} {mean : ExcName → Option Value} {loose : List Str} {s : Shared} {m : Str → Option Value} {gv : List Value} {n : Nat} {o1 : Obj} {rest : List (Addr × Obj)}
  {E : Value → Shared → Prop}
  (X : (hd.heap_39 w.params).In h₀) (T : Top topProg loose mean mg mb h₀) (F : Fr h₀ L s.heap m) (N : News h₀ L s.heap ((G, W.listOf gv.toArray n) :: (L+1, o1) :: rest)) (d1 : o1.data = .cell (some (.ref G))) :
  wpAny (model prog w) A (eval (compGen ownE).iter (lenv L fa)) (fun v s' => v = .ref (s.heap.objs.size + 1) ∧ Kept (fun h' => Fr h₀ L h' m ∧ News h₀ L h' ((G, W.listOf gv.toArray n) :: (L+1, o1) :: rest) ∧
    IsEnum h' (s.heap.objs.size + 1) s.heap.objs.size 0 .none ∧ h'.IsListIter s.heap.objs.size G 0 ∧ h'.objs.size = s.heap.objs.size + 2) s s') E s := by
  k_with_none
  k_with "call type:enumerate" => (k_here; k_dflt (refine' enum_K ?k1 ?k2 ?k3 ?_; (case k1 => k_asm); (case k2 => k_asm); (case k3 => k_mem); k_whole); intro h' F' N' q1 q2 q3 q4)
  unfold prog
  revert X
  k_fill
  intro X
  w_on
  w_top on
  unfold lenv
  conv in (occs := *) (compGen ownE).iter => all_goals whnf
  conv in (occs := *) fScope lawS => all_goals whnf
  w_strict k_steps
  all_goals first
    | exact rfl
    | exact ⟨_, _, rfl, by assumption, by assumption, by assumption, by assumption, by assumption⟩
end
theorem any_t {l : List Int} (h : (l.any fun x => x == 127) = true) : (127 : Int) ∈ l := by
  obtain ⟨x, hx, e⟩ := List.any_eq_true.mp h
  rw [eq_of_beq e] at hx; exact hx
theorem any_f {l : List Int} (h : (l.any fun x => x == 127) = false) : (127 : Int) ∉ l := fun hm => by
  have := List.any_eq_false.mp h 127 hm
  simp at this
set_option maxHeartbeats 8000000 in
theorem own_test {w : World} {A : Around} {h₀ : Heap} {L fa G C : Nat} {mg mb : Str → Option Value} {mean : ExcName → Option Value} {loose : List Str} {s : Shared} {m m₂ : Str → Option Value} {gv : List Value} {gs : List Int} {n : Nat} {o1 oC : Obj} {x : Int} {i : Nat} {tx ti : Tok}
  {a1 a2 a3 a4 a5 a6 a7 : Nat} {b1 b2 b3 b4 b5 b6 b7 : Obj} {E : Value → Shared → Prop}
  (X : (hd.heap_39 w.params).In h₀) (T : Top topProg loose mean mg mb h₀) (hC : NsObj oC m₂) (h1 : m₂ "k" = some (.int (i : Int) ti)) (h2 : m₂ "size" = some (.int x tx)) (F : Fr h₀ L s.heap m)
  (N : News h₀ L s.heap [(C, oC), (G, W.listOf gv.toArray n), (L+1, o1), (a1, b1), (a2, b2), (a3, b3), (a4, b4), (a5, b5), (a6, b6), (a7, b7)])
  (d1 : o1.data = .cell (some (.ref G))) (hgi : IntsAre gv gs) (hgl : gs.length ≤ 5) (hgl' : gv.length ≤ 5) :
  wpAny (model prog w) A (isTrue ownTest (compEnvC (compScope ownE) [("grouping", L+1)] C (lenv L fa)) (eval ownTest (compEnvC (compScope ownE) [("grouping", L+1)] C (lenv L fa)))) (fun b s' => b = decide (0 < x ∧ x < 127 ∧ 127 ∉ gs.take i) ∧ Kept (fun h' => Fr h₀ L h' m ∧
     News h₀ L h' [(C, oC), (G, W.listOf gv.toArray n), (L+1, o1), (a1, b1), (a2, b2), (a3, b3), (a4, b4), (a5, b5), (a6, b6), (a7, b7)]) s s') E s := by
  k_with_none
  k_with "call type:enumerate" => (k_here; k_dflt (refine' enum_K ?k1 ?k2 ?k3 ?_; (case k1 => k_asm); (case k2 => k_asm); (case k3 => k_mem); k_whole); intro h' F' N' q1 q2 q3 q4)
  unfold prog
  revert X
  k_fill
  intro X
  w_on
  w_top on
  unfold lenv
  conv in (occs := *) ownTest => all_goals whnf
  conv in (occs := *) (compScope ownE) => all_goals whnf
  conv in (occs := *) fScope lawS => all_goals whnf
  w_strict k_steps
  all_goals first
    | (refine (decide_eq_false ?_).symm; rintro ⟨q1, q2, q3⟩; first | omega | (rename (List.any _ _) = true => q9; rw [Int.toNat_natCast] at q9; exact q3 (any_t q9)))
    | (refine (decide_eq_true ?_).symm; rename (List.any _ _) = false => q9; rw [Int.toNat_natCast] at q9; exact ⟨by assumption, by assumption, any_f q9⟩)
    | (refine ⟨_, _, rfl, by assumption, News_sub (by assumption) ?_⟩; (repeat' (first | exact List.forall_mem_nil _ | (refine List.forall_mem_cons.mpr ⟨by k_mem, ?_⟩))))
end Mine
end
section
open PySem PySem.W PyProof.Rows PySem.Calls PyProof.Rows.LCg
set_option maxRecDepth 100000
namespace Mine
abbrev enumObj (it : Nat) (i : Int) (old : Value) : Obj := { cls := .type "enumerate", dict := none, data := .fields #[.none, .bool false, .ref it, rawInt i, .none, old], slots := #[] }
def ownL (gs : List Int) : Nat → List Int
  | 0 => []
  | i + 1 => ownL gs i ++ (match gs[i]? with | some x => if 0 < x ∧ x < 127 ∧ 127 ∉ gs.take i then [x] else [] | none => [])
theorem fr_lt {h₀ h h' : Heap} {L Z : Nat} {m : Str → Option Value} (F : Fr h₀ L h m) (hL : L < Z) (hk : ∀ (b : Nat) o, b < Z → h.get? b = some o → h'.get? b = some o) : Fr h₀ L h' m :=
  ⟨F.ns.at' fun o e => hk L o hL e, fun b o e => hk b o (Nat.lt_trans (Nat.lt_of_lt_of_le (Heap.lt_size e) F.above) hL) (F.keep b o e), F.above⟩
theorem news_lt {h₀ h h' : Heap} {L Z : Nat} {news : List (Addr × Obj)} (N : News h₀ L h news) (hz : ∀ p ∈ news, @LT.lt Nat _ p.1 Z) (hk : ∀ (b : Nat) o, b < Z → h.get? b = some o → h'.get? b = some o) : News h₀ L h' news :=
  fun p hp => ⟨hk _ _ (hz p hp) (N p hp).1, (N p hp).2⟩
theorem ownL_len (gs : List Int) : ∀ i, (ownL gs i).length ≤ i
  | 0 => Nat.le_refl _
  | i + 1 => by
    have := ownL_len gs i
    simp only [ownL, List.length_append]
    cases gs[i]? with
    | none => simp; omega
    | some x => dsimp only; split <;> simp <;> omega
set_option maxHeartbeats 4000000 in
theorem own_comp {w : World} {A : Around} {h₀ : Heap} {L fa G a1 a2 a3 a4 : Nat} {mg mb : Str → Option Value} {mean : ExcName → Option Value} {loose : List Str} {s : Shared} {m : Str → Option Value} {gv : List Value} {gs : List Int} {n : Nat} {o1 b1 b2 b3 b4 : Obj}
  {Q : Flow → Shared → Prop} {E : Value → Shared → Prop} (hA : A.handled = none)
  (X : (hd.heap_39 w.params).In h₀) (T : Top topProg loose mean mg mb h₀) (F : Fr h₀ L s.heap m)
  (N : News h₀ L s.heap [(G, W.listOf gv.toArray n), (L+1, o1), (a1, b1), (a2, b2), (a3, b3), (a4, b4)]) (d1 : o1.data = .cell (some (.ref G))) (hgi : IntsAre gv gs) (hgl : gs.length ≤ 5) (hgl' : gv.length ≤ 5)
  (hQ : ∀ (D : Nat) h' tk ys c, Fr h₀ L h' (fun y => if y = "own" then some (.ref D) else m y) → News h₀ L h' [(D, W.listOf (List.toArray ys) c), (G, W.listOf gv.toArray n), (L+1, o1), (a1, b1), (a2, b2), (a3, b3), (a4, b4)] → (∀ p ∈ [(G, W.listOf gv.toArray n), (L+1, o1), (a1, b1), (a2, b2), (a3, b3), (a4, b4)], @LT.lt Nat _ p.1 D) → L < D →
    IntsAre ys (ownL gs gs.length) → Q .next { s with heap := h', toks := tk }) :
  wpAny (model prog w) A (exec (lawSt 4) (lenv L fa)) Q E s := by
  have hLZ : L < s.heap.objs.size := F.ns.lt
  have hNZ : ∀ p ∈ [(G, W.listOf gv.toArray n), (L+1, o1), (a1, b1), (a2, b2), (a3, b3), (a4, b4)], @LT.lt Nat _ p.1 s.heap.objs.size := fun p hp => Heap.lt_size (N p hp).1
  have hG := N _ (.head _)
  generalize hZ : s.heap.objs.size = Z at *
  have hit := own_iter (A := A) (E := E) (fa := fa) X T F N d1
  have hgl0 : gs.length ≤ gv.length := Nat.le_of_eq hgi.length.symm
  have h0Z : ∀ b : Nat, Z ≤ b → h₀.get? b = none := fun b hb => Heap.get?_none_of_le (Nat.le_trans F.above (Nat.le_trans (Nat.le_of_lt hLZ) hb))
  rw [hZ] at hit
  show wpAny _ _ (exec (lawSt 4) (lenv L fa)) _ _ _
  conv in (occs := *) exec (lawSt 4) => all_goals (arg 1; whnf)
  rw [exec_Assign_Name_used _ _ _ _ (by rfl)]
  refine wpAny_bind (wpAny_standAt (wpAny_bind ?_))
  refine wpAny_bind (wpAny_mono (wpAny_comprehension_free (e := .ListComp _ _ _ _) (use := some _) (Q := fun _ s' => Q .next s') rfl (by intro _; rfl) (cl := [("grouping", L+1)]) rfl rfl (by decide) (wpAny_mono hit (fun xv s₁ h₁ => ?_) fun _ _ e => e)) (fun _ s' hq => wpAny_pure (wpAny_pure hq)) fun _ _ e => e)
  obtain ⟨rfl, h₁, tk₁, rfl, F₁, N₁, he₁, hi₁, hz₁⟩ := h₁
  refine wpAny_pyIter_enum he₁ ?_
  refine wpAny_newObj_type (wpAny_newFunctionEnv (by decide) (by intro y hy; simp at hy) (fun h₂ hns₂ hsb₂ => ?_) (by rfl))
  dsimp only at hns₂ hsb₂ ⊢
  have hzp : (h₁.push { cls := .type "list", dict := none, data := .seq ([] : List Value).toArray }).objs.size = Z + 3 := by rw [Heap.size_push, hz₁]
  have hk₂ : ∀ (b : Nat) o, b < Z + 2 → h₁.get? b = some o → h₂.get? b = some o := fun b o hb e =>
    hsb₂.extBut b o (by rw [hzp]; exact Nat.ne_of_lt (Nat.lt_succ_of_lt hb)) (Heap.get?_push_of_some _ (Heap.get?_push_of_some _ e))
  have hD₂ : h₂.get? (Z + 2) = some { cls := .type "list", dict := none, data := .seq ([] : List Value).toArray } :=
    hsb₂.extBut _ _ (by rw [hzp]; exact Nat.ne_of_lt (Nat.lt_succ_self _)) (Heap.get?_push_of_some _ (hz₁ ▸ Heap.get?_push_size _ rfl))
  rw [hzp] at hns₂ hsb₂ ⊢
  rw [hz₁]
  have hpos : ∀ p ∈ [(G, W.listOf gv.toArray n), (L+1, o1), (a1, b1), (a2, b2), (a3, b3), (a4, b4)], @LT.lt Nat _ p.1 Z := hNZ
  have he₂ : IsEnum h₂ (Z + 1) Z 0 .none := hk₂ _ _ (Nat.lt_succ_self _) he₁
  have hi₂ : h₂.IsListIter Z G 0 := let ⟨o, ho, r⟩ := hi₁; ⟨o, hk₂ _ _ (Nat.lt_succ_of_lt (Nat.lt_succ_self _)) ho, r⟩
  refine (fun loop => codeAny_compStart_list loop (wpAny_pyIter_enum he₂ loop)) ?_
  refine kct_loop (fun k s' => ∃ h' tk i ys m' c, s' = { s with heap := h', toks := tk } ∧ i ≤ gs.length ∧ k = gs.length - i ∧ Fr h₀ L h' m ∧
      News h₀ L h' [(G, W.listOf gv.toArray n), (L+1, o1), (a1, b1), (a2, b2), (a3, b3), (a4, b4)] ∧ (∃ old, IsEnum h' (Z + 1) Z i old) ∧ h'.IsListIter Z G i ∧ h'.Ns (Z + 3) m' ∧
      h'.get? (Z + 2) = some (W.listOf (List.toArray ys) c) ∧ IntsAre ys (ownL gs i)) ?_ gs.length
    ⟨h₂, _, 0, [], _, _, rfl, Nat.zero_le _, rfl, fr_lt F₁ hLZ fun b o hb e => hk₂ b o (by omega) e, news_lt N₁ hpos fun b o hb e => hk₂ b o (by omega) e, ⟨_, he₂⟩, hi₂, hns₂, hD₂, .nil⟩
  rintro k s' ⟨h', tk, i, ys, m', c, rfl, hi, rfl, F', N', ⟨old, he⟩, hli, hn', hD', hys⟩
  have hG' : h'.IsList G gv.toArray := ⟨_, (N' _ (.head _)).1, rfl, n, rfl⟩
  have hGZ : G < Z := hpos _ (.head _)
  by_cases hlt : i < gs.length
  · obtain ⟨x, hx⟩ : ∃ x, gs[i]? = some x := ⟨_, List.getElem?_eq_getElem hlt⟩
    obtain ⟨tx, htx⟩ := hgi.get i x hx
    refine wpAny_pyNext_enum_item he hli hG' (x := .int x tx) (by simpa using htx) (Nat.ne_of_gt (Nat.lt_succ_self _)) fun h₃ he₃ hi₃ hT₃ hz₃ hk₃ => ?_
    dsimp only at he₃ hT₃ hz₃ hk₃ ⊢
    refine wpAny_letOwnedTupleGo_enum he₃ fun h₄ he₄ hs₄ => ?_
    have hTn : ∀ b : Nat, b < h'.objs.size → b ≠ Z + 1 → b ≠ Z → ∀ o, h'.get? b = some o → h₄.get? b = some o := fun b _ h1 h2 o e => (hs₄.2 b h1).trans (hk₃ b o h1 h2 e)
    have hT1 : h'.objs.size ≠ Z + 1 := Nat.ne_of_gt (Heap.lt_size he)
    have hT₄ : h₄.IsTuple h'.objs.size #[.int i tk, .int x tx] := ⟨_, (hs₄.2 _ hT1).trans hT₃, rfl, _, rfl⟩
    have hn₄ : h₄.Ns (Z + 3) m' := hn'.at' fun o e => hTn _ hn'.lt (by omega) (by omega) o e
    refine kcp_assign (m := m') hA hT₄ (by rfl) (by rfl) (by rfl) hn₄ fun h₅ tk₅ hn₅ hk₅ => ?_
    have hk : ∀ (b : Nat) o, b ≠ Z + 1 → b ≠ Z → b ≠ Z + 3 → h'.get? b = some o → h₅.get? b = some o := fun b o h1 h2 h3 e => hk₅ b o h3 (hTn b (Heap.lt_size e) h1 h2 o e)
    have hkl : ∀ (b : Nat) o, b < Z → h'.get? b = some o → h₅.get? b = some o := fun b o hb e => hk b o (by omega) (by omega) (by omega) e
    have F₅ := fr_lt F' hLZ hkl
    have N₅ := news_lt N' hpos hkl
    have hD₅ : h₅.get? (Z + 2) = some (W.listOf (List.toArray ys) c) := hk _ _ (by omega) (by omega) (by omega) hD'
    have he₅ := hk₅ (Z + 1) _ (show (Z + 1 : Nat) ≠ Z + 3 by omega) he₄
    obtain ⟨oI, hoI, hI1, hI2⟩ := hi₃
    have hoI₅ : h₅.get? Z = some oI := hk₅ Z _ (show (Z : Nat) ≠ Z + 3 by omega) ((hs₄.2 Z (show (Z : Nat) ≠ Z + 1 by omega)).trans hoI)
    obtain ⟨oC, heC, hoC⟩ := ns_obj hn₅
    have hLt : ∀ b : Nat, Z ≤ b → b ≠ L := fun b hb => by omega
    have N₅' : News h₀ L h₅ [(Z + 3, oC), (G, W.listOf gv.toArray n), (L+1, o1), (a1, b1), (a2, b2), (a3, b3), (a4, b4), (Z + 1, enumObj Z ((i : Int) + 1) (.int x tx)), (Z, oI), (Z + 2, W.listOf (List.toArray ys) c)] := by
      intro p hp
      simp only [List.mem_cons, List.not_mem_nil, or_false] at hp
      rcases hp with rfl | rfl | rfl | rfl | rfl | rfl | rfl | rfl | rfl | rfl
      · exact ⟨heC, hLt _ (by omega), h0Z _ (by omega)⟩
      · exact N₅ _ (by simp)
      · exact N₅ _ (by simp)
      · exact N₅ _ (by simp)
      · exact N₅ _ (by simp)
      · exact N₅ _ (by simp)
      · exact N₅ _ (by simp)
      · exact ⟨he₅, hLt _ (by omega), h0Z _ (by omega)⟩
      · exact ⟨hoI₅, hLt _ (by omega), h0Z _ (by omega)⟩
      · exact ⟨hD₅, hLt _ (by omega), h0Z _ (by omega)⟩
    have hown : ownL gs (i + 1) = ownL gs i ++ (if 0 < x ∧ x < 127 ∧ 127 ∉ gs.take i then [x] else []) := by
      simp only [ownL, hx]
    refine wpAny_mono (own_test (x := x) (i := i) (tx := tx) X T hoC ((if_neg (by decide)).trans (if_pos rfl)) (if_pos rfl) F₅ N₅' d1 hgi hgl hgl') (fun okb s₆ h₆ => ?_) fun _ _ e => e
    obtain ⟨rfl, h₆, tk₆, rfl, F₆, N₆⟩ := h₆
    have hn₆ := hoC.ns (N₆ _ (.head _)).1
    have hD₆ : h₆.get? (Z + 2) = some (W.listOf (List.toArray ys) c) := (N₆ (Z + 2, _) (by simp)).1
    have he₆ : IsEnum h₆ (Z + 1) Z ((i : Int) + 1) (.int x tx) := (N₆ (Z + 1, _) (by simp)).1
    have hi₆ : h₆.IsListIter Z G (i + 1) := ⟨oI, (N₆ (Z, _) (by simp)).1, hI1, hI2⟩
    have N₆' : News h₀ L h₆ [(G, W.listOf gv.toArray n), (L+1, o1), (a1, b1), (a2, b2), (a3, b3), (a4, b4)] := News_sub N₆ (by (repeat' (first | exact List.forall_mem_nil _ | (refine List.forall_mem_cons.mpr ⟨by k_mem, ?_⟩))))
    by_cases hc : 0 < x ∧ x < 127 ∧ 127 ∉ gs.take i
    · rw [if_pos hc] at hown
      rw [if_pos (decide_eq_true hc)]
      refine wpAny_Name (wpAny_loadName_local (by rfl) (by rfl) hn₆ (if_pos rfl) ?_)
      have hyl : ys.length ≤ i := by rw [hys.length]; exact ownL_len gs i
      refine wpAny_list_append_plain (hsz := by rw [sizeLine_eq, List.size_toArray]; omega) ⟨c, hD₆⟩ fun h₇ hl₇ hs₇ => ?_
      obtain ⟨c', hl₇⟩ := hl₇
      rw [List.push_toArray] at hl₇
      have hk₇ : ∀ (b : Nat) o, b ≠ Z + 2 → h₆.get? b = some o → h₇.get? b = some o := fun b o h1 e => (hs₇.2 b h1).trans e
      refine ⟨gs.length - (i + 1), by omega, h₇, _, i + 1, ys ++ [.int x tx], _, c', rfl, hlt, rfl, fr_lt F₆ hLZ fun b o hb e => hk₇ b o (by omega) e, news_lt N₆' hpos fun b o hb e => hk₇ b o (by omega) e, ⟨_, hk₇ (Z + 1) _ (by omega) he₆⟩,
        ⟨oI, hk₇ Z _ (by omega) (N₆ (Z, _) (by simp)).1, hI1, hI2⟩, hn₆.at' fun o e => hk₇ (Z + 3) o (by omega) e, hl₇, ?_⟩
      rw [hown]; exact hys.append (.cons x tx .nil)
    · rw [if_neg hc, List.append_nil] at hown
      rw [if_neg (by simp [hc])]
      exact ⟨gs.length - (i + 1), by omega, h₆, _, i + 1, ys, _, c, rfl, hlt, rfl, F₆, N₆', ⟨_, he₆⟩, hi₆, hn₆, hD₆, hown ▸ hys⟩
  · have hin : i = gs.length := by omega
    subst hin
    have hnone : gv.toArray[gs.length]? = none := by
      rw [List.getElem?_toArray, List.getElem?_eq_none]; rw [hgi.length]; exact Nat.le_refl _
    refine wpAny_pyNext_enum_end hA he hli hG' hnone fun h₃ hx₃ => ?_
    have hk₃ : ∀ (b : Nat) o, b ≠ Z → h'.get? b = some o → h₃.get? b = some o := fun b o hb e => hx₃ b o hb e
    have F₃ := fr_lt F' hLZ fun b o hb e => hk₃ b o (by omega) e
    have N₃ := news_lt N' hpos fun b o hb e => hk₃ b o (by omega) e
    show wpAny _ _ (assign _ (lenv L fa) (.ref (Z + 2))) _ _ _
    refine wpAny_assign_Name (wpAny_storeName_local (by rfl) F₃.ns (fun h₄ hn₄ hs₄ => ?_) (by rfl))
    have hsL : ∀ (b : Nat) o, b ≠ L → h₃.get? b = some o → h₄.get? b = some o := fun b o hb e => (hs₄.2 b hb).trans e
    refine ⟨m', hn'.at' fun o e => hsL (Z + 3) o (by omega) (hk₃ (Z + 3) o (by omega) e), fun h₅ hs₅ => ?_⟩
    have hk₅ : ∀ (b : Nat) o, b < Z → h₄.get? b = some o → h₅.get? b = some o := fun b o hb e => (hs₅.2 b (show (b : Nat) ≠ Z + 3 by omega)).trans e
    have F₅ := fr_lt (F₃.set hn₄ hs₄) hLZ hk₅
    have N₅ := news_lt (N₃.set hs₄) hpos hk₅
    refine hQ (Z + 2) h₅ _ ys c F₅ (fun p hp => ?_) (fun p hp => Nat.lt_trans (hpos p hp) (by omega)) (by omega) hys
    rcases List.mem_cons.mp hp with rfl | hp
    · exact ⟨(hs₅.2 (Z + 2) (show (Z + 2 : Nat) ≠ Z + 3 by omega)).trans (hsL (Z + 2) _ (by omega) (hk₃ (Z + 2) _ (by omega) hD')), show (Z + 2 : Nat) ≠ L by omega, h0Z _ (by omega)⟩
    · exact N₅ p hp
end Mine
end
section
open PySem PySem.W PyProof.Rows PySem.Calls PyProof.Rows.LCg
set_option maxRecDepth 100000
namespace Mine
def OwnPost (h₀ : Heap) (L l G S : Nat) (gv sv : List Value) (R : List Int → Prop) (s s' : Shared) : Prop :=
  ∃ O : Nat, ∃ ys c os, S < O ∧ IntsAre ys os ∧ R os ∧ Kept (LSt h₀ L G S gv sv none [(O, W.listOf (List.toArray ys) c), (72, tabObj #[])] [("script", .ref l), ("own", .ref O)]) s s'
theorem s4 {w : World} {h₀ : Heap} {L fa l G S : Nat} {mg mb : Str → Option Value} {mean : ExcName → Option Value} {loose : List Str} {s : Shared}
  {gv sv : List Value} {gs : List Int} {E : Value → Shared → Prop}
  (X : (hd.heap_39 w.params).In h₀) (T : Top topProg loose mean mg mb h₀)
  (H : LSt h₀ L G S gv sv none [(72, tabObj #[])] [("script", .ref l)] s.heap)
  (hgi : IntsAre gv gs) (hgl : gs.length ≤ 5) (hgl' : gv.length ≤ 5) :
  wpAny (model prog w) (callerA.deeper (lenv L fa)) (exec (lawSt 4) (lenv L fa)) (fun f s' => f = .next ∧ OwnPost h₀ L l G S gv sv (fun os => os = ownL gs gs.length) s s') E s := by
  obtain ⟨m, o1, o2, o3, n, c, F, hp, N, d1, d2, d3⟩ := H
  refine own_comp rfl X T F (News_sub N (by (repeat' (first | exact List.forall_mem_nil _ | (refine List.forall_mem_cons.mpr ⟨by k_mem, ?_⟩)))) : News h₀ L s.heap [(G, W.listOf gv.toArray n), (L+1, o1), (S, W.listOf sv.toArray c), (L+1+1+1, o3), (L+1+1, o2), (72, tabObj #[])]) d1 hgi hgl hgl' fun O h' tk ys c' F' N' hlt hLO hys => ?_
  refine ⟨rfl, O, ys, c', _, hlt (S, W.listOf sv.toArray c) (by simp), hys, rfl, _, _, rfl, _, o1, o2, o3, n, c, F', ?_, News_sub N' (by (repeat' (first | exact List.forall_mem_nil _ | (refine List.forall_mem_cons.mpr ⟨by k_mem, ?_⟩)))), d1, d2, d3⟩
  exact List.forall_mem_cons.mpr ⟨(if_neg (show ¬ Str.ofString "script" = Str.ofString "own" by decide)).trans (hp _ (.head _)), List.forall_mem_cons.mpr ⟨if_pos rfl, List.forall_mem_nil _⟩⟩

@[irreducible] def rep24 (x : Int) : List Int := List.replicate 24 x
theorem rep24_len (x : Int) : (rep24 x).length = 24 := by unfold rep24; simp
theorem rep24_is (x : Int) (t : Tok) : IntsAre (List.replicate 24 (Value.int x t)) (rep24 x) := by
  unfold rep24
  show IntsAre (List.replicate 24 (Value.int x t)) (List.replicate 24 x)
  generalize 24 = k
  induction k with
  | zero => exact .nil
  | succ k ih => exact .cons x t ih
theorem fold24 (v : Value) : ∀ (k : Nat) (a : Array Value), List.foldl (fun x1 x2 => x1 ++ x2) a (List.replicate k #[v]) = a ++ (List.replicate k v).toArray
  | 0, a => by simp
  | k + 1, a => by
    rw [List.replicate_succ, List.foldl_cons, fold24 v k, List.replicate_succ]
    apply Array.ext'
    simp
theorem mul24_K {prog : Program} {w : World} {A : Around} {E : Value → Shared → Prop} {s : Shared} {h₀ : Heap} {L : Addr} {m : Str → Option Value} {news : List (Addr × Obj)} {l : Addr} {x : Int} {t u : Tok} {n : Nat} {Q : Value → Shared → Prop}
    (F : Fr h₀ L s.heap m) (N : News h₀ L s.heap news) (hm : (l, W.listOf #[.int x t] n) ∈ news)
    (h : ∀ D h' ws, Fr h₀ L h' m → News h₀ L h' ((D, W.listOf (List.toArray ws) 0) :: news) → (∀ p ∈ news, p.1 < D) → IntsAre ws (rep24 x) → (rep24 x).length = 24 → ws.length = 24 → Q (.ref D) { s with heap := h' }) :
    wpAny (model prog w) A (binaryOp .Mult (.ref l) (.int 24 u)) Q E s := by
  refine mul_list (items := #[.int x t]) (k := n) F N (N _ hm).1 (by decide) (by decide) (show 1 * 24 ≤ 2 ^ 24 by decide) fun h' F' N' => ?_
  refine h _ h' (List.replicate 24 (.int x t)) F' ?_ (fun p hp => Heap.lt_size (N p hp).1) (rep24_is x t) (rep24_len x) (by simp)
  have e : List.foldl (fun x1 x2 => x1 ++ x2) #[] (List.replicate (if (#[Value.int x t] : Array Value).isEmpty = true then 0 else (24 : Int).toNat) #[Value.int x t]) = (List.replicate 24 (Value.int x t)).toArray := by
    show List.foldl (fun x1 x2 => x1 ++ x2) #[] (List.replicate 24 #[Value.int x t]) = _
    rw [fold24]; simp
  rw [e] at N'
  exact N'
theorem add_K {prog : Program} {w : World} {A : Around} {E : Value → Shared → Prop} {s : Shared} {h₀ : Heap} {L : Addr} {m : Str → Option Value} {news : List (Addr × Obj)} {l b : Addr} {vs us : List Value} {ns ms : List Int} {n k : Nat} {Q : Value → Shared → Prop}
    (F : Fr h₀ L s.heap m) (N : News h₀ L s.heap news) (ha : (l, W.listOf vs.toArray n) ∈ news) (hb : (b, W.listOf us.toArray k) ∈ news) (hi : IntsAre vs ns) (hj : IntsAre us ms) (hz : ns.length + ms.length ≤ 100)
    (h : ∀ D h' ws, Fr h₀ L h' m → News h₀ L h' ((D, W.listOf (List.toArray ws) 0) :: news) → (∀ p ∈ news, p.1 < D) → IntsAre ws (ns ++ ms) → ws.length ≤ 100 → Q (.ref D) { s with heap := h' }) :
    wpAny (model prog w) A (binaryOp .Add (.ref l) (.ref b)) Q E s := by
  refine add_arrays_ints (hsz := by rw [sizeLine_eq]; omega) F N ⟨_, (N _ ha).1, rfl, n, rfl⟩ ⟨_, (N _ hb).1, rfl, k, rfl⟩ hi hj fun h' F' N' hI => ?_
  refine h _ h' (vs ++ us) F' N' (fun p hp => Heap.lt_size (N p hp).1) hI ?_
  rw [hI.length, List.length_append]; exact hz
theorem upto_K {prog : Program} {w : World} {A : Around} {E : Value → Shared → Prop} {h₀ : Heap} {L : Addr} {m : Str → Option Value} {news : List (Addr × Obj)} {value slice : PySem.Expr} {l : Addr} {vs : List Value} {ns : List Int} {y : Int} {t : Tok} {n : Nat} {Q : Value → Shared → Prop} {hp : Heap} {gens : Array GenState} {drawn : Drawn} {tk : Nat} {os : OsState}
    (F : Fr h₀ L hp m) (N : News h₀ L hp news) (hm : (l, W.listOf vs.toArray n) ∈ news) (hi : IntsAre vs ns) (h0 : 0 ≤ y) (hz : ns.length ≤ 100)
    (h : ∀ D h' ws, Fr h₀ L h' m → News h₀ L h' ((D, W.listOf (List.toArray ws) 0) :: news) → (∀ p ∈ news, p.1 < D) → IntsAre ws (ns.take y.toNat) → ws.length ≤ 100 → Q (.ref D) ⟨h', gens, drawn, tk, os⟩)
    (hs : subscripted slice false (.ref l) (.ref hp.objs.size) = operate [.ref hp.objs.size, .ref l] (getItem (.ref l) (.ref hp.objs.size))) (ht : ∀ r, letTemporaryGo value (.ref l) r = pure ()) :
    wpAny (model prog w) A (subscriptTail value slice (.ref l) (.ref hp.objs.size)) Q E ⟨hp.push { cls := .type "slice", data := .fields #[.none, .int y t, .none] }, gens, drawn, tk, os⟩ := by
  have hlen : vs.length ≤ 100 := by rw [hi.length]; exact hz
  refine kmk_slice (s := ⟨hp, gens, drawn, tk, os⟩) (its := vs.toArray) F N ⟨_, (N _ hm).1, rfl, n, rfl⟩ .none (.int y t) (fun D h' F' N' l1 => ?_) hs ht (by rw [sizeLine_eq, List.size_toArray]; omega)
  have hq := kmk_upto hi h0
  refine h D h' (slicePick vs.toArray none (some y) none).toList F' ?_ l1 hq ?_
  · rw [Array.toArray_toList]; exact N'
  · rw [hq.length, List.length_take]; omega
theorem from_K {prog : Program} {w : World} {A : Around} {E : Value → Shared → Prop} {h₀ : Heap} {L : Addr} {m : Str → Option Value} {news : List (Addr × Obj)} {value slice : PySem.Expr} {l : Addr} {vs : List Value} {ns : List Int} {y : Int} {t : Tok} {n : Nat} {Q : Value → Shared → Prop} {hp : Heap} {gens : Array GenState} {drawn : Drawn} {tk : Nat} {os : OsState}
    (F : Fr h₀ L hp m) (N : News h₀ L hp news) (hm : (l, W.listOf vs.toArray n) ∈ news) (hi : IntsAre vs ns) (h0 : 0 ≤ y) (hz : ns.length ≤ 100)
    (h : ∀ D h' ws, Fr h₀ L h' m → News h₀ L h' ((D, W.listOf (List.toArray ws) 0) :: news) → (∀ p ∈ news, p.1 < D) → IntsAre ws (ns.drop y.toNat) → ws.length ≤ 100 → Q (.ref D) ⟨h', gens, drawn, tk, os⟩)
    (hs : subscripted slice false (.ref l) (.ref hp.objs.size) = operate [.ref hp.objs.size, .ref l] (getItem (.ref l) (.ref hp.objs.size))) (ht : ∀ r, letTemporaryGo value (.ref l) r = pure ()) :
    wpAny (model prog w) A (subscriptTail value slice (.ref l) (.ref hp.objs.size)) Q E ⟨hp.push { cls := .type "slice", data := .fields #[.int y t, .none, .none] }, gens, drawn, tk, os⟩ := by
  have hlen : vs.length ≤ 100 := by rw [hi.length]; exact hz
  refine kmk_slice (s := ⟨hp, gens, drawn, tk, os⟩) (its := vs.toArray) F N ⟨_, (N _ hm).1, rfl, n, rfl⟩ (.int y t) .none (fun D h' F' N' l1 => ?_) hs ht (by rw [sizeLine_eq, List.size_toArray]; omega)
  have hq := kmk_from hi h0
  refine h D h' (slicePick vs.toArray (some y) none none).toList F' ?_ l1 hq ?_
  · rw [Array.toArray_toList]; exact N'
  · rw [hq.length, List.length_drop]; omega
set_option maxHeartbeats 8000000 in
theorem s5a {w : World} {h₀ : Heap} {L fa l G S O : Nat} {mg mb : Str → Option Value} {mean : ExcName → Option Value} {loose : List Str} {s : Shared}
  {gv sv ys : List Value} {c : Nat} {gs os : List Int} {E : Value → Shared → Prop}
  (X : (hd.heap_39 w.params).In h₀) (T : Top topProg loose mean mg mb h₀) (B : Below callerA h₀ [] h₀)
  (H : LSt h₀ L G S gv sv none [(O, W.listOf (List.toArray ys) c), (72, tabObj #[])] [("script", .ref l), ("own", .ref O)] s.heap) (hlt : 72 < L) (hG : L + 1 + 1 + 1 < G) (hGS : G < S) (hSO : S < O)
  (hgi : IntsAre gv gs) (hgl : gs.length ≤ 5) (hgl' : gv.length ≤ 5) (hys : IntsAre ys os) (hol : os.length ≤ 3) (hol' : ys.length ≤ 3) (hne : gs.drop (gs.length - 1) = [0]) (hpos : 1 ≤ gs.length) (hos : 1 ≤ os.length) :
  wpAny (model prog w) (callerA.deeper (lenv L fa)) (exec (lawSt 5) (lenv L fa)) (fun f s' => f = .next ∧ OwnPost h₀ L l G S gv sv (fun os' => os' = (os ++ rep24 (os.getD ((os.length : Int) - 1).toNat 0)).take 24) s s') E s := by
  k_with_none
  k_with "binaryOp Mult ref int" => (k_here; k_dflt (refine' mul24_K ?k1 ?k2 ?k3 ?_; (case k1 => k_asm); (case k2 => k_asm); (case k3 => k_mem); k_whole); intro D' h' ws' F' N' l1 hi' hl' hw'; (try k_lt l1))
  k_with "binaryOp Add ref ref" => (k_here; k_dflt (refine' add_K ?k1 ?k2 ?k3 ?k4 ?k5 ?k6 ?k7 ?_; (case k1 => k_asm); (case k2 => k_asm); (case k3 => k_mem); (case k4 => k_mem); (case k5 => with_reducible assumption); (case k6 => with_reducible assumption); (case k7 => omega); k_whole); intro D' h' ws' F' N' l1 hi' hw'; (try k_lt l1); (try k_gentoks))
  k_with "subscriptTail Name Slice ref ref" => (k_here; (with_reducible show wpAny _ _ (subscriptTail _ (PySem.Expr.Slice none (some _) none _) (Value.ref _) (Value.ref _)) _ _ _); k_dflt (refine' upto_K ?k1 ?k2 ?k3 ?k4 ?k5 ?k6 ?_ ?s ?t; (case k1 => k_asm); (case k2 => k_asm); (case k3 => k_mem); (case k4 => with_reducible assumption); (case k5 => decide); (case k6 => (simp only [List.length_append]; omega)); (case s => with_unfolding_all rfl); (case t => (intro _; with_unfolding_all rfl))); intro D' h' ws' F' N' l1 hi' hw'; (try k_lt l1); (try k_gentoks))
  k_with "subscriptTail Name Slice ref ref" => (k_here; (with_reducible show wpAny _ _ (subscriptTail _ (PySem.Expr.Slice (some _) none none _) (Value.ref _) (Value.ref _)) _ _ _); k_dflt (refine' from_K ?k1 ?k2 ?k3 ?k4 ?k5 ?k6 ?_ ?s ?t; (case k1 => k_asm); (case k2 => k_asm); (case k3 => k_mem); (case k4 => with_reducible assumption); (case k5 => omega); (case k6 => omega); (case s => with_unfolding_all rfl); (case t => (intro _; with_unfolding_all rfl))); intro D' h' ws' F' N' l1 hi' hw'; (try k_lt l1); (try k_gentoks))
  k_with "subscriptTail" => (k_here; (with_reducible show wpAny _ _ (subscriptTail (PySem.Expr.BinOp _ _ _ _) (PySem.Expr.Slice _ _ _ _) _ _) _ _ _); k_dflt (refine kba_turn (value' := PySem.Expr.Name (PySem.Str.ofString "_") ⟨0, 0, 0, 0⟩) (fun _ => rfl) ?_))
  k_with "eval BinOp" => (k_here; first | (k_gentoks; (try dsimp only)) | dsimp only)
  k_with "eval Call" => (k_here; first | (k_gentoks; (try dsimp only)) | dsimp only)
  k_with "eval Subscript" => (k_here; first | (k_gentoks; (try dsimp only)) | dsimp only)
  k_with "eval Slice" => (k_here; first | (k_gentoks; (try dsimp only)) | dsimp only)
  k_with "eval List" => (k_here; first | (k_gentoks; (try dsimp only)) | dsimp only)
  k_with "evalPart none" => (k_here; first | (k_gentoks; (try dsimp only)) | dsimp only)
  k_with "eval Constant int" => (k_here; first | (k_gentoks; (try dsimp only)) | dsimp only)
  unfold prog
  obtain ⟨m, o1, o2, o3, n, c, F, hp, N, d1, d2, d3⟩ := H
  replace F := Fr_pins _ F hp
  dsimp only [pinM] at F
  revert X
  k_fill
  intro X
  w_on
  w_top on
  unfold lenv
  conv in (occs := *) lawSt 5 => all_goals whnf
  conv in (occs := *) fScope lawS => all_goals whnf
  w_strict k_steps
  all_goals first
    | exact rfl
    | (refine' ⟨_, _, _, _, ?l8, by assumption, rfl, ?g8⟩; (case g8 => (refine ⟨_, _, rfl, _, _, _, _, ?n9, ?c9, by assumption, ?p9, News_sub (by assumption) ?w9, by assumption, by assumption, by assumption⟩; (case w9 => (repeat' (first | exact List.forall_mem_nil _ | (refine List.forall_mem_cons.mpr ⟨by k_mem, ?_⟩)))); (case p9 => (repeat' (first | exact List.forall_mem_nil _ | (refine List.forall_mem_cons.mpr ⟨rfl, ?_⟩)))))); (case l8 => (refine ltN ?_; omega)))
    | (exfalso; rename ¬ (List.drop _ _ = [0]) => q9; apply q9; rw [← hne]; congr 1; omega)
set_option maxHeartbeats 8000000 in
theorem s5b {w : World} {h₀ : Heap} {L fa l G S O : Nat} {mg mb : Str → Option Value} {mean : ExcName → Option Value} {loose : List Str} {s : Shared}
  {gv sv ys : List Value} {c : Nat} {gs os : List Int} {E : Value → Shared → Prop}
  (X : (hd.heap_39 w.params).In h₀) (T : Top topProg loose mean mg mb h₀) (B : Below callerA h₀ [] h₀)
  (H : LSt h₀ L G S gv sv none [(O, W.listOf (List.toArray ys) c), (72, tabObj #[])] [("script", .ref l), ("own", .ref O)] s.heap) (hlt : 72 < L) (hG : L + 1 + 1 + 1 < G) (hGS : G < S) (hSO : S < O)
  (hgi : IntsAre gv gs) (hgl : gs.length ≤ 5) (hgl' : gv.length ≤ 5) (hys : IntsAre ys os) (hol : os.length ≤ 3) (hol' : ys.length ≤ 3) (hne : gs.drop (gs.length - 1) ≠ [0]) (hpos : 1 ≤ gs.length) :
  wpAny (model prog w) (callerA.deeper (lenv L fa)) (exec (lawSt 5) (lenv L fa)) (fun f s' => f = .next ∧ OwnPost h₀ L l G S gv sv (fun os' => os' = os) s s') E s := by
  k_with_none
  k_with "binaryOp Mult ref int" => (k_here; k_dflt (refine' mul24_K ?k1 ?k2 ?k3 ?_; (case k1 => k_asm); (case k2 => k_asm); (case k3 => k_mem); k_whole); intro D' h' ws' F' N' l1 hi' hl' hw'; (try k_lt l1))
  k_with "binaryOp Add ref ref" => (k_here; k_dflt (refine' add_K ?k1 ?k2 ?k3 ?k4 ?k5 ?k6 ?k7 ?_; (case k1 => k_asm); (case k2 => k_asm); (case k3 => k_mem); (case k4 => k_mem); (case k5 => with_reducible assumption); (case k6 => with_reducible assumption); (case k7 => omega); k_whole); intro D' h' ws' F' N' l1 hi' hw'; (try k_lt l1); (try k_gentoks))
  k_with "subscriptTail Name Slice ref ref" => (k_here; (with_reducible show wpAny _ _ (subscriptTail _ (PySem.Expr.Slice none (some _) none _) (Value.ref _) (Value.ref _)) _ _ _); k_dflt (refine' upto_K ?k1 ?k2 ?k3 ?k4 ?k5 ?k6 ?_ ?s ?t; (case k1 => k_asm); (case k2 => k_asm); (case k3 => k_mem); (case k4 => with_reducible assumption); (case k5 => decide); (case k6 => (simp only [List.length_append]; omega)); (case s => with_unfolding_all rfl); (case t => (intro _; with_unfolding_all rfl))); intro D' h' ws' F' N' l1 hi' hw'; (try k_lt l1); (try k_gentoks))
  k_with "subscriptTail Name Slice ref ref" => (k_here; (with_reducible show wpAny _ _ (subscriptTail _ (PySem.Expr.Slice (some _) none none _) (Value.ref _) (Value.ref _)) _ _ _); k_dflt (refine' from_K ?k1 ?k2 ?k3 ?k4 ?k5 ?k6 ?_ ?s ?t; (case k1 => k_asm); (case k2 => k_asm); (case k3 => k_mem); (case k4 => with_reducible assumption); (case k5 => omega); (case k6 => omega); (case s => with_unfolding_all rfl); (case t => (intro _; with_unfolding_all rfl))); intro D' h' ws' F' N' l1 hi' hw'; (try k_lt l1); (try k_gentoks))
  k_with "subscriptTail" => (k_here; (with_reducible show wpAny _ _ (subscriptTail (PySem.Expr.BinOp _ _ _ _) (PySem.Expr.Slice _ _ _ _) _ _) _ _ _); k_dflt (refine kba_turn (value' := PySem.Expr.Name (PySem.Str.ofString "_") ⟨0, 0, 0, 0⟩) (fun _ => rfl) ?_))
  k_with "eval BinOp" => (k_here; first | (k_gentoks; (try dsimp only)) | dsimp only)
  k_with "eval Call" => (k_here; first | (k_gentoks; (try dsimp only)) | dsimp only)
  k_with "eval Subscript" => (k_here; first | (k_gentoks; (try dsimp only)) | dsimp only)
  k_with "eval Slice" => (k_here; first | (k_gentoks; (try dsimp only)) | dsimp only)
  k_with "eval List" => (k_here; first | (k_gentoks; (try dsimp only)) | dsimp only)
  k_with "evalPart none" => (k_here; first | (k_gentoks; (try dsimp only)) | dsimp only)
  k_with "eval Constant int" => (k_here; first | (k_gentoks; (try dsimp only)) | dsimp only)
  unfold prog
  obtain ⟨m, o1, o2, o3, n, c, F, hp, N, d1, d2, d3⟩ := H
  replace F := Fr_pins _ F hp
  dsimp only [pinM] at F
  revert X
  k_fill
  intro X
  w_on
  w_top on
  unfold lenv
  conv in (occs := *) lawSt 5 => all_goals whnf
  conv in (occs := *) fScope lawS => all_goals whnf
  w_strict k_steps
  all_goals first
    | exact rfl
    | (refine' ⟨O, ys, _, _, hSO, hys, rfl, ?g8⟩; (case g8 => (refine ⟨_, _, rfl, _, _, _, _, ?n9, ?c9, by assumption, ?p9, News_sub (by assumption) ?w9, by assumption, by assumption, by assumption⟩; (case w9 => (repeat' (first | exact List.forall_mem_nil _ | (refine List.forall_mem_cons.mpr ⟨by k_mem, ?_⟩)))); (case p9 => (repeat' (first | exact List.forall_mem_nil _ | (refine List.forall_mem_cons.mpr ⟨rfl, ?_⟩)))))))
    | (exfalso; rename List.drop _ _ = [0] => q9; apply hne; rw [← q9]; congr 1; omega)
end Mine
end
section
open PySem PySem.W PyProof.Rows PySem.Calls PyProof.Rows.LCg
set_option maxRecDepth 100000
namespace Mine
set_option maxHeartbeats 8000000 in
theorem s5c {w : World} {h₀ : Heap} {L fa l G S O : Nat} {mg mb : Str → Option Value} {mean : ExcName → Option Value} {loose : List Str} {s : Shared}
  {sv ys : List Value} {c : Nat} {os : List Int} {E : Value → Shared → Prop}
  (X : (hd.heap_39 w.params).In h₀) (T : Top topProg loose mean mg mb h₀) (B : Below callerA h₀ [] h₀)
  (H : LSt h₀ L G S [] sv none [(O, W.listOf (List.toArray ys) c), (72, tabObj #[])] [("script", .ref l), ("own", .ref O)] s.heap) (hlt : 72 < L) (hG : L + 1 + 1 + 1 < G) (hGS : G < S) (hSO : S < O)
  (hys : IntsAre ys os) :
  wpAny (model prog w) (callerA.deeper (lenv L fa)) (exec (lawSt 5) (lenv L fa)) (fun f s' => f = .next ∧ OwnPost h₀ L l G S [] sv (fun os' => os' = os) s s') E s := by
  k_with_none
  k_with "eval BinOp" => (k_here; first | (k_gentoks; (try dsimp only)) | dsimp only)
  k_with "eval Slice" => (k_here; first | (k_gentoks; (try dsimp only)) | dsimp only)
  unfold prog
  obtain ⟨m, o1, o2, o3, n, c, F, hp, N, d1, d2, d3⟩ := H
  replace F := Fr_pins _ F hp
  dsimp only [pinM] at F
  revert X
  k_fill
  intro X
  w_on
  w_top on
  unfold lenv
  conv in (occs := *) lawSt 5 => all_goals whnf
  conv in (occs := *) fScope lawS => all_goals whnf
  w_strict k_steps
  all_goals first
    | exact rfl
    | (refine' ⟨O, ys, _, _, hSO, hys, rfl, ?g8⟩; (case g8 => (refine ⟨_, _, rfl, _, _, _, _, ?n9, ?c9, by assumption, ?p9, News_sub (by assumption) ?w9, by assumption, by assumption, by assumption⟩; (case w9 => (repeat' (first | exact List.forall_mem_nil _ | (refine List.forall_mem_cons.mpr ⟨by k_mem, ?_⟩)))); (case p9 => (repeat' (first | exact List.forall_mem_nil _ | (refine List.forall_mem_cons.mpr ⟨rfl, ?_⟩)))))))
set_option maxHeartbeats 8000000 in
theorem s6 {w : World} {h₀ : Heap} {L fa l G S O : Nat} {mg mb : Str → Option Value} {mean : ExcName → Option Value} {loose : List Str} {s : Shared}
  {gv sv ys : List Value} {c : Nat} {ss : List Int} {E : Value → Shared → Prop}
  (X : (hd.heap_39 w.params).In h₀) (T : Top topProg loose mean mg mb h₀) (B : Below callerA h₀ [] h₀)
  (H : LSt h₀ L G S gv sv none [(O, W.listOf (List.toArray ys) c), (72, tabObj #[])] [("script", .ref l), ("own", .ref O)] s.heap) (hlt : 72 < L) (hG : L + 1 + 1 + 1 < G) (hGS : G < S) (hSO : S < O)
  (hys : IntsAre ys ss) (hsi : IntsAre sv ss) (hsl : ss.length ≤ 24) :
  wpAny (model prog w) (callerA.deeper (lenv L fa)) (exec (lawSt 6) (lenv L fa)) (fun f s' => f = .next ∧ Kept (LSt h₀ L G S gv sv none [(72, tabObj #[])] [("script", .ref l)]) s s') E s := by
  k_with_none
  k_with "eval BinOp" => (k_here; first | (k_gentoks; (try dsimp only)) | dsimp only)
  k_with "eval Slice" => (k_here; first | (k_gentoks; (try dsimp only)) | dsimp only)
  unfold prog
  obtain ⟨m, o1, o2, o3, n, c, F, hp, N, d1, d2, d3⟩ := H
  replace F := Fr_pins _ F hp
  dsimp only [pinM] at F
  revert X
  k_fill
  intro X
  w_on
  w_top on
  unfold lenv
  conv in (occs := *) lawSt 6 => all_goals whnf
  conv in (occs := *) fScope lawS => all_goals whnf
  w_strict k_steps
  all_goals first
    | exact rfl
    | (refine ⟨_, _, rfl, _, _, _, _, ?n9, ?c9, by assumption, ?p9, News_sub (by assumption) ?w9, by assumption, by assumption, by assumption⟩; (case w9 => (repeat' (first | exact List.forall_mem_nil _ | (refine List.forall_mem_cons.mpr ⟨by k_mem, ?_⟩)))); (case p9 => (repeat' (first | exact List.forall_mem_nil _ | (refine List.forall_mem_cons.mpr ⟨rfl, ?_⟩)))))
end Mine
end
section
open PySem PySem.W PyProof.Rows PySem.Calls
set_option maxRecDepth 100000
namespace Mine
def tx (l : List Nat) : Str := ⟨l.toArray⟩
theorem tx_len (l : List Nat) : (tx l).length = l.length := by simp [tx, Str.length]
theorem tx_cps (l : List Nat) : (tx l).cps.toList = l := by simp [tx]
theorem tx_inj {a b : List Nat} (h : tx a = tx b) : a = b := by
  have := congrArg (fun x => x.cps.toList) h
  simpa [tx] using this
theorem tx_nil : tx [] = Str.ofString "" := by decide
theorem tx_of (x : Str) : x = tx x.cps.toList := by cases x; simp [tx]
theorem slice_from (l : List Nat) {i : Int} (h0 : 0 ≤ i) (h1 : i ≤ l.length) : Txt.slice (tx l) (some i) none = tx (l.drop i.toNat) := by
  have h := StrLaws.sliceText_from (x := tx l) (i := i) ⟨h0, by rw [tx_cps]; exact h1⟩
  rw [tx_cps] at h
  refine h.trans ?_
  unfold tx
  congr 2
  try (rw [List.take_of_length_le]; simp; omega)
theorem slice_to (l : List Nat) {j : Int} (h0 : 0 ≤ j) (h1 : j ≤ l.length) : Txt.slice (tx l) none (some j) = tx (l.take j.toNat) := by
  have h := StrLaws.sliceText_to (x := tx l) (j := j) ⟨h0, by rw [tx_cps]; exact h1⟩
  rw [tx_cps] at h
  refine h.trans ?_
  unfold tx
  congr 2
  simp
def cutStep (st : List Nat × List (List Nat)) (z : Int) : List Nat × List (List Nat) :=
  if st.1 = [] then st else (st.1.take (st.1.length - z.toNat), st.1.drop (st.1.length - z.toNat) :: st.2)
theorem strsAre_app {vs us : List Value} {xs ys : List Str} (h : StrsAre vs xs) (k : StrsAre us ys) : StrsAre (vs ++ us) (xs ++ ys) := by
  induction h with
  | nil => exact k
  | cons y t _ ih => exact .cons y t ih
theorem strsAre_len {vs : List Value} {xs : List Str} (h : StrsAre vs xs) : vs.length = xs.length := by
  induction h with
  | nil => rfl
  | cons y t _ ih => simp [ih]
theorem addT_K {prog : Program} {w : World} {A : Around} {E : Value → Shared → Prop} {s : Shared} {h₀ : Heap} {L : Addr} {m : Str → Option Value} {news : List (Addr × Obj)} {l b : Addr} {vs us : Array Value} {n k : Nat} {Q : Value → Shared → Prop}
    (F : Fr h₀ L s.heap m) (N : News h₀ L s.heap news) (ha : (l, W.listOf vs n) ∈ news) (hb : (b, W.listOf us k) ∈ news) (hz : vs.size + us.size ≤ 100)
    (h : ∀ D h', Fr h₀ L h' m → News h₀ L h' ((D, W.listOf (List.toArray (vs.toList ++ us.toList)) 0) :: news) → (∀ p ∈ news, p.1 < D) → Q (.ref D) { s with heap := h' }) :
    wpAny (model prog w) A (binaryOp .Add (.ref l) (.ref b)) Q E s := by
  refine add_arrays (hsz := by rw [sizeLine_eq]; omega) F N ⟨_, (N _ ha).1, rfl, n, rfl⟩ ⟨_, (N _ hb).1, rfl, k, rfl⟩ fun h' F' N' => ?_
  exact h _ h' F' N' fun p hp => Heap.lt_size (N p hp).1
end Mine
end
section
open PySem PySem.W PyProof.Rows PySem.Calls PyProof.Rows.LCg
set_option maxRecDepth 100000
namespace Mine
def cutLB : List Stmt := forBody (loopSt 4)
def CutP (h₀ : Heap) (L l G S I kc J Y : Nat) (gv sv : List Value) (x3 : Option Value) (oT oK oJ oY oI : Obj) (n : Int) (tn : Tok) (fg : Str) (tf : Tok) (st : List Nat × List (List Nat)) (s s' : Shared) : Prop :=
  ∃ P : Nat, ∃ pv c tl, S < P ∧ P ≠ I ∧ StrsAre pv (st.2.map tx) ∧ Kept (LSt h₀ L G S gv sv x3 [(P, W.listOf (List.toArray pv) c), (I, oI), (72, oT), (kc, oK), (J, oJ), (Y, oY)]
    [("script", .ref l), ("number", .int n tn), ("figures", .str fg tf), ("left", .str (tx st.1) tl), ("pieces", .ref P)]) s s'
theorem Fr_tok {h₀ h : Heap} {L : Addr} {x X : Str} {M : Str → Option Value} {t : Tok} (F : Fr h₀ L h (fun y => if y = x then some (Value.str X t) else M y)) : ∃ t, Fr h₀ L h (fun y => if y = x then some (Value.str X t) else M y) := ⟨t, F⟩
theorem tx_ne {q : List Nat} (h : (tx q != Str.ofString "") = true) : q ≠ [] := fun e => by
  subst e; rw [tx_nil] at h; simp at h
theorem tx_eq {q : List Nat} (h : (tx q != Str.ofString "") = false) : q = [] := by
  simp at h; rw [← tx_nil] at h; exact tx_inj h
theorem lo_is {q : List Nat} {z : Int} (hz : 0 ≤ z) : (if ((tx q).length : Int) - z > 0 then ((tx q).length : Int) - z else 0).toNat = q.length - z.toNat := by
  rw [tx_len]; split <;> omega
theorem lo_ge {q : List Nat} {z : Int} : 0 ≤ (if ((tx q).length : Int) - z > 0 then ((tx q).length : Int) - z else 0) := by split <;> omega
theorem lo_le {q : List Nat} {z : Int} (hz : 0 ≤ z) : (if ((tx q).length : Int) - z > 0 then ((tx q).length : Int) - z else 0) ≤ q.length := by rw [tx_len]; split <;> omega
theorem cut_from (q : List Nat) {z : Int} (hz : 0 ≤ z) : Txt.slice (tx q) (some (if ((tx q).length : Int) - z > 0 then ((tx q).length : Int) - z else 0)) none = tx (q.drop (q.length - z.toNat)) := by
  rw [slice_from q lo_ge (lo_le hz), lo_is hz]
theorem cut_to (q : List Nat) {z : Int} (hz : 0 ≤ z) : Txt.slice (tx q) none (some (if ((tx q).length : Int) - z > 0 then ((tx q).length : Int) - z else 0)) = tx (q.take (q.length - z.toNat)) := by
  rw [slice_to q lo_ge (lo_le hz), lo_is hz]
set_option maxHeartbeats 8000000 in
theorem b4t {w : World} {h₀ : Heap} {L fa l G S P I kc J Y : Nat} {mg mb : Str → Option Value} {mean : ExcName → Option Value} {loose : List Str} {s : Shared}
  {gv sv pv : List Value} {q : List Nat} {qs : List (List Nat)} {c : Nat} {x3 : Option Value} {oT oK oI oJ oY : Obj} {n z : Int} {tn tf tl tz : Tok} {fg : Str} {E : Value → Shared → Prop}
  (X : (hd.heap_39 w.params).In h₀) (T : Top topProg loose mean mg mb h₀) (B : Below callerA h₀ [] h₀)
  (H : LSt h₀ L G S gv sv x3 [(P, W.listOf pv.toArray c), (I, oI), (72, oT), (kc, oK), (J, oJ), (Y, oY)] [("script", .ref l), ("number", .int n tn), ("figures", .str fg tf), ("left", .str (tx q) tl), ("pieces", .ref P), ("size", .int z tz)] s.heap) (hlt : 72 < L) (hG : L + 1 + 1 + 1 < G) (hGS : G < S) (hkc : kc < L ∨ S < kc) (hJ : S < J) (hY : S < Y) (hSP : S < P) (hSI : S < I) (hPI : P ≠ I)
  (hps : StrsAre pv (qs.map tx)) (hpl' : pv.length ≤ 50) (hz : 0 ≤ z) (hlf : (tx q).length ≤ 20) :
  wpAny (model prog w) (callerA.deeper (lenv L fa)) (execs cutLB (lenv L fa)) (fun f s' => f = .next ∧ CutP h₀ L l G S I kc J Y gv sv x3 oT oK oJ oY oI n tn fg tf (cutStep (q, qs) z) s s') E s := by
  k_with_none
  k_with "binaryOp Add ref ref" => (k_here; k_dflt (refine' addT_K ?k1 ?k2 ?k3 ?k4 ?k5 ?_; (case k1 => k_asm); (case k2 => k_asm); (case k3 => k_mem); (case k4 => k_mem); (case k5 => (simp only [List.size_toArray, List.length_cons, List.length_nil]; omega)); k_whole); intro D' h' F' N' l1; (try k_lt l1); (try k_gentoks))
  k_with "eval BinOp" => (k_here; first | (k_gentoks; (try dsimp only)) | dsimp only)
  k_with "eval Subscript" => (k_here; first | (k_gentoks; (try dsimp only)) | dsimp only)
  unfold prog
  obtain ⟨m, o1, o2, o3, gn, sn, F, hp, N, d1, d2, d3⟩ := H
  replace F := Fr_pins _ F hp
  dsimp only [pinM] at F
  revert X
  k_fill
  intro X
  w_on
  w_top on
  unfold lenv
  conv in (occs := *) cutLB => all_goals whnf
  conv in (occs := *) fScope lawS => all_goals whnf
  w_strict k_steps
  all_goals first
    | exact rfl
    | (rename (tx q != _) = true => q9
       rename Fr _ _ _ _ => F9
       rename News _ _ _ _ => N9
       rw [cut_to q hz] at F9
       rw [cut_from q hz] at N9
       rw [show cutStep (q, qs) z = (q.take (q.length - z.toNat), q.drop (q.length - z.toNat) :: qs) from if_neg (tx_ne q9)]
       obtain ⟨t9, F9⟩ := Fr_tok F9
       refine' ⟨_, Value.str (tx (q.drop (q.length - z.toNat))) _ :: pv, _, t9, ?l9, ?i9, .cons _ _ hps, ?g9⟩
       (case g9 => (refine ⟨_, _, rfl, _, o1, o2, o3, ?n8, ?c8, F9, ?p8, News_sub N9 ?w8, d1, d2, d3⟩; (case w8 => (repeat' (first | exact List.forall_mem_nil _ | (refine List.forall_mem_cons.mpr ⟨by k_mem, ?_⟩)))); (case p8 => (repeat' (first | exact List.forall_mem_nil _ | (refine List.forall_mem_cons.mpr ⟨rfl, ?_⟩))))))
       (case l9 => (refine ltN ?_; omega))
       (case i9 => (refine neN ?_; omega)))
    | (rename (tx q != _) = false => q9
       rw [show cutStep (q, qs) z = (q, qs) from if_pos (tx_eq q9)]
       refine' ⟨P, pv, _, tl, hSP, hPI, hps, ?g9⟩
       (case g9 => (refine ⟨_, _, rfl, _, _, _, _, ?n9, ?c9, by assumption, ?p9, News_sub (by assumption) ?w9, by assumption, by assumption, by assumption⟩; (case w9 => (repeat' (first | exact List.forall_mem_nil _ | (refine List.forall_mem_cons.mpr ⟨by k_mem, ?_⟩)))); (case p9 => (repeat' (first | exact List.forall_mem_nil _ | (refine List.forall_mem_cons.mpr ⟨rfl, ?_⟩)))))))
end Mine
end
section
open PySem PySem.W PyProof.Rows PySem.Calls PyProof.Rows.LCg
set_option maxRecDepth 100000
namespace Mine
theorem LSt.store {M : Model} {A : Around} {E : Value → Shared → Prop} {s : Shared} {h₀ : Heap} {L fa G S : Nat} {gv sv : List Value} {x3 : Option Value} {tab : List (Addr × Obj)} {pins : List (Str × Value)} {x : Str} {v : Value} {Q : Unit → Shared → Prop}
    (H : LSt h₀ L G S gv sv x3 tab pins s.heap) (hl : (lenv L fa).kindOf x = some .local) (hp : ∀ p ∈ pins, ¬ p.1 = x)
    (h : ∀ h', LSt h₀ L G S gv sv x3 tab (pins ++ [(x, v)]) h' → Q () { s with heap := h', toks := s.toks + 1 }) :
    wpAny M A (storeName (lenv L fa) x v) Q E s := by
  obtain ⟨m, o1, o2, o3, gn, sn, F, hpn, N, d1, d2, d3⟩ := H
  refine stLocN F N (fun h' F' N' => h h' ⟨_, o1, o2, o3, gn, sn, F', fun p hp' => ?_, N', d1, d2, d3⟩) (by rfl) hl
  rcases List.mem_append.mp hp' with hp' | hp'
  · exact (if_neg (hp p hp')).trans (hpn p hp')
  · rw [List.mem_singleton.mp hp']; exact if_pos rfl
theorem LSt.iter {h₀ h h' : Heap} {L G S I : Nat} {gv sv : List Value} {x3 : Option Value} {t1 t2 : List (Addr × Obj)} {pins : List (Str × Value)} {oI oI' : Obj}
    (H : LSt h₀ L G S gv sv x3 (t1 ++ (I, oI) :: t2) pins h) (hs : Heap.SameBut I h h') (ho : h'.get? I = some oI')
    (hne : I ≠ S ∧ I ≠ G ∧ I ≠ L+1+1+1 ∧ I ≠ L+1+1 ∧ I ≠ L+1) (h1 : ∀ p ∈ t1, p.1 ≠ I) (h2 : ∀ p ∈ t2, p.1 ≠ I) : LSt h₀ L G S gv sv x3 (t1 ++ (I, oI') :: t2) pins h' := by
  obtain ⟨m, o1, o2, o3, gn, sn, F, hpn, N, d1, d2, d3⟩ := H
  have hI := N (I, oI) (by simp)
  refine ⟨m, o1, o2, o3, gn, sn, F.change hs hI.2.1 hI.2.2, hpn, ?_, d1, d2, d3⟩
  have keep : ∀ p, p ∈ (S, W.listOf sv.toArray sn) :: (G, W.listOf gv.toArray gn) :: (L+1+1+1, o3) :: (L+1+1, o2) :: (L+1, o1) :: (t1 ++ (I, oI) :: t2) → p.1 ≠ I → h'.get? p.1 = some p.2 ∧ p.1 ≠ L ∧ h₀.get? p.1 = none :=
    fun p hp hn => ⟨(hs.2 _ hn).trans (N p hp).1, (N p hp).2⟩
  intro p hp
  simp only [List.mem_cons, List.mem_append] at hp
  rcases hp with rfl | rfl | rfl | rfl | rfl | hp | rfl | hp
  · exact keep _ (by simp) (Ne.symm hne.1)
  · exact keep _ (by simp) (Ne.symm hne.2.1)
  · exact keep _ (by simp) (Ne.symm hne.2.2.1)
  · exact keep _ (by simp) (Ne.symm hne.2.2.2.1)
  · exact keep _ (by simp) (Ne.symm hne.2.2.2.2)
  · exact keep p (by simp [hp]) (h1 p hp)
  · exact ⟨ho, hI.2⟩
  · exact keep p (by simp [hp]) (h2 p hp)
theorem Kept.trans {P : Heap → Prop} {s s' s'' : Shared} {h' : Heap} {tk : Nat} (e : s' = { s with heap := h', toks := tk }) (k : Kept P s' s'') : Kept P s s'' := by
  obtain ⟨h, t, rfl, p⟩ := k; subst e; exact ⟨h, t, rfl, p⟩
def cutAll (ds : List Nat) (ss : List Int) : List Nat × List (List Nat) := ss.foldl cutStep (ds, [])
theorem cut_len (ss : List Int) : ∀ st : List Nat × List (List Nat), (ss.foldl cutStep st).2.length ≤ st.2.length + ss.length ∧ (ss.foldl cutStep st).1.length ≤ st.1.length := by
  induction ss with
  | nil => intro st; exact ⟨Nat.le_refl _, Nat.le_refl _⟩
  | cons z r ih =>
    intro st
    have := ih (cutStep st z)
    have h1 : (cutStep st z).2.length ≤ st.2.length + 1 ∧ (cutStep st z).1.length ≤ st.1.length := by
      unfold cutStep; split
      · exact ⟨by omega, Nat.le_refl _⟩
      · exact ⟨by simp, by simp⟩
    simp only [List.foldl_cons, List.length_cons]
    omega
theorem LSt.ext {h₀ h h' : Heap} {L G S I : Nat} {gv sv : List Value} {x3 : Option Value} {t1 t2 : List (Addr × Obj)} {pins : List (Str × Value)}
    (H : LSt h₀ L G S gv sv x3 t1 pins h) (hs : Heap.ExtBut I h h') (hI0 : h₀.get? I = none) (hIL : I ≠ L)
    (hne : I ≠ S ∧ I ≠ G ∧ I ≠ L+1+1+1 ∧ I ≠ L+1+1 ∧ I ≠ L+1) (h1 : ∀ p ∈ t2, p ∈ t1) (h2 : ∀ p ∈ t2, p.1 ≠ I) : LSt h₀ L G S gv sv x3 t2 pins h' := by
  obtain ⟨m, o1, o2, o3, gn, sn, F, hpn, N, d1, d2, d3⟩ := H
  refine ⟨m, o1, o2, o3, gn, sn, ⟨F.ns.at' fun o e => hs L o (Ne.symm hIL) e, fun b o e => hs b o (fun q => by rw [q, hI0] at e; cases e) (F.keep b o e), F.above⟩, hpn, ?_, d1, d2, d3⟩
  have keep : ∀ p, p ∈ (S, W.listOf sv.toArray sn) :: (G, W.listOf gv.toArray gn) :: (L+1+1+1, o3) :: (L+1+1, o2) :: (L+1, o1) :: t1 → p.1 ≠ I → h'.get? p.1 = some p.2 ∧ p.1 ≠ L ∧ h₀.get? p.1 = none :=
    fun p hp hn => ⟨hs _ _ hn (N p hp).1, (N p hp).2⟩
  intro p hp
  simp only [List.mem_cons] at hp
  rcases hp with rfl | rfl | rfl | rfl | rfl | hp
  · exact keep _ (by simp) (Ne.symm hne.1)
  · exact keep _ (by simp) (Ne.symm hne.2.1)
  · exact keep _ (by simp) (Ne.symm hne.2.2.1)
  · exact keep _ (by simp) (Ne.symm hne.2.2.2.1)
  · exact keep _ (by simp) (Ne.symm hne.2.2.2.2)
  · exact keep p (by simp [h1 p hp]) (h2 p hp)
def CutF (h₀ : Heap) (L l G S kc J Y : Nat) (gv sv : List Value) (x3 : Option Value) (oT oK oJ oY : Obj) (n : Int) (tn : Tok) (fg : Str) (tf : Tok) (st : List Nat × List (List Nat)) (s s' : Shared) : Prop :=
  ∃ P : Nat, ∃ pv c tl, S < P ∧ StrsAre pv (st.2.map tx) ∧ Kept (LSt h₀ L G S gv sv x3 [(P, W.listOf (List.toArray pv) c), (72, oT), (kc, oK), (J, oJ), (Y, oY)]
    [("script", .ref l), ("number", .int n tn), ("figures", .str fg tf), ("left", .str (tx st.1) tl), ("pieces", .ref P)]) s s'
set_option maxHeartbeats 4000000 in
theorem b4 {w : World} {h₀ : Heap} {L fa l G S P kc J Y : Nat} {mg mb : Str → Option Value} {mean : ExcName → Option Value} {loose : List Str} {s : Shared}
  {gv sv : List Value} {ds : List Nat} {ss : List Int} {c : Nat} {x3 : Option Value} {oT oK oJ oY : Obj} {n : Int} {tn tf tl : Tok} {fg : Str} {E : Value → Shared → Prop}
  (X : (hd.heap_39 w.params).In h₀) (T : Top topProg loose mean mg mb h₀) (B : Below callerA h₀ [] h₀)
  (H : LSt h₀ L G S gv sv x3 [(P, W.listOf (List.toArray []) c), (72, oT), (kc, oK), (J, oJ), (Y, oY)] [("script", .ref l), ("number", .int n tn), ("figures", .str fg tf), ("left", .str (tx ds) tl), ("pieces", .ref P)] s.heap) (hlt : 72 < L) (hG : L + 1 + 1 + 1 < G) (hGS : G < S) (hkc : kc < L ∨ S < kc) (hJ : S < J) (hY : S < Y) (hSP : S < P)
  (hsi : IntsAre sv ss) (hsl : ss.length ≤ 24) (hs1 : ∀ z ∈ ss, 0 ≤ z) (hdl : ds.length ≤ 20) :
  wpAny (model prog w) (callerA.deeper (lenv L fa)) (exec (loopSt 4) (lenv L fa)) (fun f s' => f = .next ∧ CutF h₀ L l G S kc J Y gv sv x3 oT oK oJ oY n tn fg tf (cutAll ds ss) s s') E s := by
  obtain ⟨m, o1, o2, o3, gn, sn, F, hp, N, d1, d2, d3⟩ := id H
  have hSl : s.heap.IsList S sv.toArray := ⟨_, (N (S, _) (.head _)).1, rfl, sn, rfl⟩
  have hlen := hsi.length
  generalize hI : s.heap.objs.size = I
  have hlt' : ∀ p ∈ (S, W.listOf sv.toArray sn) :: (G, W.listOf gv.toArray gn) :: (L+1+1+1, o3) :: (L+1+1, o2) :: (L+1, o1) :: [(P, W.listOf (List.toArray []) c), (72, oT), (kc, oK), (J, oJ), (Y, oY)], @LT.lt Nat _ p.1 I := fun p hp => hI ▸ Heap.lt_size (N p hp).1
  have iS := hlt' (S, _) (.head _)
  have iP : P < I := hlt' (P, W.listOf (List.toArray []) c) (by simp)
  have iK : kc < I := hlt' (kc, oK) (by simp)
  have iJ : J < I := hlt' (J, oJ) (by simp)
  have iY : Y < I := hlt' (Y, oY) (by simp)
  have hLI : L < I := hI ▸ F.ns.lt
  have hI0 : h₀.get? I = none := Heap.get?_none_of_le (Nat.le_trans F.above (Nat.le_of_lt hLI))
  have hne : I ≠ S ∧ I ≠ G ∧ I ≠ L+1+1+1 ∧ I ≠ L+1+1 ∧ I ≠ L+1 := ⟨by omega, by omega, by omega, by omega, by omega⟩
  show wpAny _ _ (exec (loopSt 4) (lenv L fa)) _ _ _
  conv in (occs := *) exec (loopSt 4) => all_goals (arg 1; whnf)
  refine wpAny_For (ldCN N (c := L+1+1) (by rfl) (o := o2) (by simp) d2 (wpAny_pyIter_list hSl ?_) (by rfl) (by rfl))
  rw [hI]
  refine codeAny_forLoop (fun k s' => ∃ i oI, i ≤ ss.length ∧ k = ss.length - i ∧ (oI.cls = .type "list_iterator" ∧ oI.data = .fields #[.ref S, .int (i : Nat) 0]) ∧
    CutP h₀ L l G S I kc J Y gv sv x3 oT oK oJ oY oI n tn fg tf ((ss.take i).foldl cutStep (ds, [])) s s') ?_ ss.length ?_
  · rintro k s' ⟨i, oI, hi, rfl, ⟨hc1, hc2⟩, P', pv, c', tl', hSP', hPI, hps, h', tk, rfl, H'⟩
    obtain ⟨m', p1, p2, p3, gn', sn', F', hp', N', e1, e2, e3⟩ := id H'
    have hit : h'.IsListIter I S i := ⟨oI, (N' (I, oI) (by simp)).1, hc1, hc2⟩
    have hSl' : h'.IsList S sv.toArray := ⟨_, (N' (S, _) (.head _)).1, rfl, sn', rfl⟩
    have hIK : ∀ p ∈ [((72 : Addr), oT), (kc, oK), (J, oJ), (Y, oY)], p.1 ≠ I := by
      intro p hp
      simp only [List.mem_cons, List.not_mem_nil, or_false] at hp
      rcases hp with rfl | rfl | rfl | rfl
      · show (72 : Nat) ≠ I; omega
      · show (kc : Nat) ≠ I; omega
      · show (J : Nat) ≠ I; omega
      · show (Y : Nat) ≠ I; omega
    by_cases hlt : i < ss.length
    · obtain ⟨z, hz⟩ : ∃ z, ss[i]? = some z := ⟨_, List.getElem?_eq_getElem hlt⟩
      obtain ⟨tz, htz⟩ := hsi.get i z hz
      refine wpAny_pyNext_list_item hit hSl' (x := .int z tz) (by simpa using htz) fun h₁ hit₁ hs₁ => ?_
      obtain ⟨oI₁, ho₁, hc1', hc2'⟩ := hit₁
      have H₁ := LSt.iter (t1 := [(P', W.listOf (List.toArray pv) c')]) H' hs₁ ho₁ hne (by intro p hp; rw [List.mem_singleton.mp hp]; exact hPI) hIK
      show wpAny _ _ (assign (.Name (Str.ofString "size") _) (lenv L fa) _) _ _ _
      refine wpAny_assign_Name (LSt.store H₁ (by rfl) (by (repeat' (first | exact List.forall_mem_nil _ | (refine List.forall_mem_cons.mpr ⟨by (dsimp only; decide), ?_⟩)))) fun h₂ H₂ => ?_)
      have hlens := cut_len (ss.take i) (ds, [])
      have hq : ((ss.take i).foldl cutStep (ds, [])).1.length ≤ 20 := Nat.le_trans hlens.2 hdl
      have hpl : pv.length ≤ 50 := by
        rw [strsAre_len hps, List.length_map]
        have := hlens.1
        simp only [List.length_nil, List.length_take] at this
        omega
      refine wpAny_mono (b4t (z := z) (tz := tz) X T B H₂ (by omega) hG hGS hkc hJ hY hSP' (by omega) hPI hps hpl (hs1 z (List.mem_of_getElem? hz)) (by rw [tx_len]; exact hq)) (fun f s₃ h₃ => ?_) fun _ _ e => e
      obtain ⟨rfl, P₃, pv₃, c₃, tl₃, q1, q2, q3, q4⟩ := h₃
      refine ⟨ss.length - (i + 1), by omega, i + 1, oI₁, hlt, rfl, ⟨hc1', hc2'⟩, P₃, pv₃, c₃, tl₃, q1, q2, ?_, ?_⟩
      · rw [List.take_add_one, hz]; simpa using q3
      · rw [List.take_add_one, hz]
        simp only [Option.toList_some, List.foldl_append, List.foldl_cons, List.foldl_nil]
        exact Kept.trans rfl q4
    · have hin : i = ss.length := by omega
      subst hin
      refine wpAny_pyNext_list_end rfl hit hSl' (by simp [hlen]) fun h₁ hx₁ => ?_
      refine wpAny_execs_nil ⟨rfl, P', pv, c', tl', hSP', ?_, h₁, _, rfl, ?_⟩
      · rw [List.take_length] at hps; exact hps
      · rw [List.take_length] at H'
        refine LSt.ext (t2 := [(P', W.listOf (List.toArray pv) c'), (72, oT), (kc, oK), (J, oJ), (Y, oY)]) H' hx₁ hI0 (by omega) hne (by (repeat' (first | exact List.forall_mem_nil _ | (refine List.forall_mem_cons.mpr ⟨by k_mem, ?_⟩)))) ?_
        intro p hp
        rcases List.mem_cons.mp hp with rfl | hp
        · exact hPI
        · exact hIK p hp
  · refine ⟨0, { cls := .type "list_iterator", data := .fields #[.ref S, .int 0 0] }, Nat.zero_le _, rfl, ⟨rfl, rfl⟩, P, [], c, tl, hSP, by omega, .nil, _, _, rfl, m, o1, o2, o3, gn, sn, F.push _, hp, fun p hp' => ?_, d1, d2, d3⟩
    simp only [List.mem_cons, List.not_mem_nil, or_false] at hp'
    have old : ∀ p, p ∈ (S, W.listOf sv.toArray sn) :: (G, W.listOf gv.toArray gn) :: (L+1+1+1, o3) :: (L+1+1, o2) :: (L+1, o1) :: [(P, W.listOf (List.toArray []) c), (72, oT), (kc, oK), (J, oJ), (Y, oY)] → _ := fun p hp => And.intro (Heap.get?_push_of_some ({ cls := .type "list_iterator", data := .fields #[.ref S, .int 0 0] } : Obj) (N p hp).1) (N p hp).2
    rcases hp' with rfl | rfl | rfl | rfl | rfl | rfl | rfl | rfl | rfl | rfl | rfl
    · exact old _ (by simp)
    · exact old _ (by simp)
    · exact old _ (by simp)
    · exact old _ (by simp)
    · exact old _ (by simp)
    · exact old _ (by simp)
    · subst hI; exact ⟨Heap.get?_push_size _ rfl, by show (s.heap.objs.size : Nat) ≠ L; omega, hI0⟩
    · exact old _ (by simp)
    · exact old _ (by simp)
    · exact old _ (by simp)
    · exact old _ (by simp)
end Mine
end
section
open PySem PySem.W PyProof.Rows PySem.Calls PyProof.Rows.LCg
set_option maxRecDepth 100000
namespace Mine
def numb (n : Int) : Int := (if n < 0 then -n else n).fmod (10 ^ Int.toNat 20)
theorem Fr_tokI {h₀ h : Heap} {L : Addr} {x : Str} {X : Int} {M : Str → Option Value} {t : Tok} (F : Fr h₀ L h (fun y => if y = x then some (Value.int X t) else M y)) : ∃ t, Fr h₀ L h (fun y => if y = x then some (Value.int X t) else M y) := ⟨t, F⟩
def PinI (h₀ : Heap) (L G S : Nat) (gv sv : List Value) (x3 : Option Value) (tab : List (Addr × Obj)) (pins : List (Str × Value)) (x : Str) (v : Int) (s s' : Shared) : Prop := ∃ t, Kept (LSt h₀ L G S gv sv x3 tab (pins ++ [(x, .int v t)])) s s'
def PinS (h₀ : Heap) (L G S : Nat) (gv sv : List Value) (x3 : Option Value) (tab : List (Addr × Obj)) (pins : List (Str × Value)) (x : Str) (v : Str) (s s' : Shared) : Prop := ∃ t, Kept (LSt h₀ L G S gv sv x3 tab (pins ++ [(x, .str v t)])) s s'
def PinL (h₀ : Heap) (L G S kc J Y : Nat) (gv sv : List Value) (x3 : Option Value) (oT oK oJ oY : Obj) (pins : List (Str × Value)) (ps : List (List Nat)) (s s' : Shared) : Prop :=
  ∃ P : Nat, ∃ pv c, S < P ∧ StrsAre pv (ps.map tx) ∧ Kept (LSt h₀ L G S gv sv x3 [(P, W.listOf (List.toArray pv) c), (72, oT), (kc, oK), (J, oJ), (Y, oY)] (pins ++ [(Str.ofString "pieces", Value.ref P)])) s s'
set_option maxHeartbeats 8000000 in
theorem b0 {w : World} {h₀ : Heap} {L fa l G S kc J Y : Nat} {mg mb : Str → Option Value} {mean : ExcName → Option Value} {loose : List Str} {s : Shared}
  {gv sv : List Value} {x3 : Option Value} {oT oK oJ oY : Obj} {n : Int} {tn : Tok} {E : Value → Shared → Prop}
  (X : (hd.heap_39 w.params).In h₀) (T : Top topProg loose mean mg mb h₀) (B : Below callerA h₀ [] h₀)
  (H : LSt h₀ L G S gv sv x3 [(72, oT), (kc, oK), (J, oJ), (Y, oY)] [("script", .ref l), ("cell", .int n tn)] s.heap) (hlt : 72 < L) (hG : L + 1 + 1 + 1 < G) (hGS : G < S) (hkc : kc < L ∨ S < kc) (hJ : S < J) (hY : S < Y) :
  wpAny (model prog w) (callerA.deeper (lenv L fa)) (exec (loopSt 0) (lenv L fa)) (fun f s' => f = .next ∧ PinI h₀ L G S gv sv x3 [(72, oT), (kc, oK), (J, oJ), (Y, oY)] [("script", .ref l)] "number" (numb n) s s') E s := by
  k_with_none
  unfold prog
  obtain ⟨m, o1, o2, o3, gn, sn, F, hp, N, d1, d2, d3⟩ := H
  replace F := Fr_pins _ F hp
  dsimp only [pinM] at F
  revert X
  k_fill
  intro X
  w_on
  w_top on
  unfold lenv
  conv in (occs := *) loopSt 0 => all_goals whnf
  conv in (occs := *) fScope lawS => all_goals whnf
  w_strict k_steps
  all_goals first
    | exact rfl
    | (rename Fr _ _ _ _ => F9
       obtain ⟨t9, F9⟩ := Fr_tokI F9
       refine ⟨t9, ?_⟩
       (refine ⟨_, _, rfl, _, _, _, _, ?n9, ?c9, by assumption, ?p9, News_sub (by assumption) ?w9, by assumption, by assumption, by assumption⟩; (case w9 => (repeat' (first | exact List.forall_mem_nil _ | (refine List.forall_mem_cons.mpr ⟨by k_mem, ?_⟩)))); (case p9 => (repeat' (first | exact List.forall_mem_nil _ | (refine List.forall_mem_cons.mpr ⟨rfl, ?_⟩))))))
set_option maxHeartbeats 8000000 in
theorem b1 {w : World} {h₀ : Heap} {L fa l G S kc J Y : Nat} {mg mb : Str → Option Value} {mean : ExcName → Option Value} {loose : List Str} {s : Shared}
  {gv sv : List Value} {x3 : Option Value} {oT oK oJ oY : Obj} {n : Int} {tn : Tok} {E : Value → Shared → Prop}
  (X : (hd.heap_39 w.params).In h₀) (T : Top topProg loose mean mg mb h₀) (B : Below callerA h₀ [] h₀)
  (H : LSt h₀ L G S gv sv x3 [(72, oT), (kc, oK), (J, oJ), (Y, oY)] [("script", .ref l), ("number", .int n tn)] s.heap) (hlt : 72 < L) (hG : L + 1 + 1 + 1 < G) (hGS : G < S) (hkc : kc < L ∨ S < kc) (hJ : S < J) (hY : S < Y) (h0 : 0 ≤ n) (h1 : n < 10 ^ 20) :
  wpAny (model prog w) (callerA.deeper (lenv L fa)) (exec (loopSt 1) (lenv L fa)) (fun f s' => f = .next ∧ PinS h₀ L G S gv sv x3 [(72, oT), (kc, oK), (J, oJ), (Y, oY)] [("script", .ref l), ("number", .int n tn)] "figures" (Str.ofString (toString n)) s s') E s := by
  k_with_none
  unfold prog
  obtain ⟨m, o1, o2, o3, gn, sn, F, hp, N, d1, d2, d3⟩ := H
  replace F := Fr_pins _ F hp
  dsimp only [pinM] at F
  revert X
  k_fill
  intro X
  w_on
  w_top on
  unfold lenv
  conv in (occs := *) loopSt 1 => all_goals whnf
  conv in (occs := *) fScope lawS => all_goals whnf
  w_strict k_steps
  all_goals first
    | exact rfl
    | (rename Fr _ _ _ _ => F9
       obtain ⟨t9, F9⟩ := Fr_tok F9
       refine ⟨t9, ?_⟩
       (refine ⟨_, _, rfl, _, _, _, _, ?n9, ?c9, by assumption, ?p9, News_sub (by assumption) ?w9, by assumption, by assumption, by assumption⟩; (case w9 => (repeat' (first | exact List.forall_mem_nil _ | (refine List.forall_mem_cons.mpr ⟨by k_mem, ?_⟩)))); (case p9 => (repeat' (first | exact List.forall_mem_nil _ | (refine List.forall_mem_cons.mpr ⟨rfl, ?_⟩))))))
set_option maxHeartbeats 8000000 in
theorem b2 {w : World} {h₀ : Heap} {L fa l G S kc J Y : Nat} {mg mb : Str → Option Value} {mean : ExcName → Option Value} {loose : List Str} {s : Shared}
  {gv sv : List Value} {x3 : Option Value} {oT oK oJ oY : Obj} {n : Int} {tn tf : Tok} {fg : Str} {E : Value → Shared → Prop}
  (X : (hd.heap_39 w.params).In h₀) (T : Top topProg loose mean mg mb h₀) (B : Below callerA h₀ [] h₀)
  (H : LSt h₀ L G S gv sv x3 [(72, oT), (kc, oK), (J, oJ), (Y, oY)] [("script", .ref l), ("number", .int n tn), ("figures", .str fg tf)] s.heap) (hlt : 72 < L) (hG : L + 1 + 1 + 1 < G) (hGS : G < S) (hkc : kc < L ∨ S < kc) (hJ : S < J) (hY : S < Y) :
  wpAny (model prog w) (callerA.deeper (lenv L fa)) (exec (loopSt 2) (lenv L fa)) (fun f s' => f = .next ∧ PinL h₀ L G S kc J Y gv sv x3 oT oK oJ oY [("script", .ref l), ("number", .int n tn), ("figures", .str fg tf)] [] s s') E s := by
  k_with_none
  unfold prog
  obtain ⟨m, o1, o2, o3, gn, sn, F, hp, N, d1, d2, d3⟩ := H
  replace F := Fr_pins _ F hp
  dsimp only [pinM] at F
  revert X
  k_fill
  intro X
  w_on
  w_top on
  unfold lenv
  conv in (occs := *) loopSt 2 => all_goals whnf
  conv in (occs := *) fScope lawS => all_goals whnf
  w_strict k_steps
  all_goals first
    | exact rfl
    | (refine' ⟨_, [], _, ?l9, .nil, ?g9⟩
       (case g9 => (refine ⟨_, _, rfl, _, _, _, _, ?n9, ?c9, by assumption, ?p9, News_sub (by assumption) ?w9, by assumption, by assumption, by assumption⟩; (case w9 => (repeat' (first | exact List.forall_mem_nil _ | (refine List.forall_mem_cons.mpr ⟨by k_mem, ?_⟩)))); (case p9 => (repeat' (first | exact List.forall_mem_nil _ | (refine List.forall_mem_cons.mpr ⟨rfl, ?_⟩))))))
       (case l9 => (refine ltN ?_; omega)))
set_option maxHeartbeats 8000000 in
theorem b3 {w : World} {h₀ : Heap} {L fa l G S P kc J Y : Nat} {mg mb : Str → Option Value} {mean : ExcName → Option Value} {loose : List Str} {s : Shared}
  {gv sv pv : List Value} {c : Nat} {x3 : Option Value} {oT oK oJ oY : Obj} {n : Int} {tn tf : Tok} {fg : Str} {E : Value → Shared → Prop}
  (X : (hd.heap_39 w.params).In h₀) (T : Top topProg loose mean mg mb h₀) (B : Below callerA h₀ [] h₀)
  (H : LSt h₀ L G S gv sv x3 [(P, W.listOf (List.toArray pv) c), (72, oT), (kc, oK), (J, oJ), (Y, oY)] [("script", .ref l), ("number", .int n tn), ("figures", .str fg tf), ("pieces", .ref P)] s.heap) (hlt : 72 < L) (hG : L + 1 + 1 + 1 < G) (hGS : G < S) (hkc : kc < L ∨ S < kc) (hJ : S < J) (hY : S < Y) (hSP : S < P) :
  wpAny (model prog w) (callerA.deeper (lenv L fa)) (exec (loopSt 3) (lenv L fa)) (fun f s' => f = .next ∧ Kept (LSt h₀ L G S gv sv x3 [(P, W.listOf (List.toArray pv) c), (72, oT), (kc, oK), (J, oJ), (Y, oY)] [("script", .ref l), ("number", .int n tn), ("figures", .str fg tf), ("left", .str fg tf), ("pieces", .ref P)]) s s') E s := by
  k_with_none
  unfold prog
  obtain ⟨m, o1, o2, o3, gn, sn, F, hp, N, d1, d2, d3⟩ := H
  replace F := Fr_pins _ F hp
  dsimp only [pinM] at F
  revert X
  k_fill
  intro X
  w_on
  w_top on
  unfold lenv
  conv in (occs := *) loopSt 3 => all_goals whnf
  conv in (occs := *) fScope lawS => all_goals whnf
  w_strict k_steps
  all_goals first
    | exact rfl
    | (refine ⟨_, _, rfl, _, _, _, _, ?n9, ?c9, by assumption, ?p9, News_sub (by assumption) ?w9, by assumption, by assumption, by assumption⟩; (case w9 => (repeat' (first | exact List.forall_mem_nil _ | (refine List.forall_mem_cons.mpr ⟨by k_mem, ?_⟩)))); (case p9 => (repeat' (first | exact List.forall_mem_nil _ | (refine List.forall_mem_cons.mpr ⟨rfl, ?_⟩)))))
set_option maxHeartbeats 8000000 in
theorem b5 {w : World} {h₀ : Heap} {L fa l G S P kc J Y : Nat} {mg mb : Str → Option Value} {mean : ExcName → Option Value} {loose : List Str} {s : Shared}
  {gv sv pv : List Value} {q : List Nat} {qs : List (List Nat)} {c : Nat} {x3 : Option Value} {oT oK oJ oY : Obj} {n : Int} {tn tf tl : Tok} {fg : Str} {E : Value → Shared → Prop}
  (X : (hd.heap_39 w.params).In h₀) (T : Top topProg loose mean mg mb h₀) (B : Below callerA h₀ [] h₀)
  (H : LSt h₀ L G S gv sv x3 [(P, W.listOf (List.toArray pv) c), (72, oT), (kc, oK), (J, oJ), (Y, oY)] [("script", .ref l), ("number", .int n tn), ("figures", .str fg tf), ("left", .str (tx q) tl), ("pieces", .ref P)] s.heap) (hlt : 72 < L) (hG : L + 1 + 1 + 1 < G) (hGS : G < S) (hkc : kc < L ∨ S < kc) (hJ : S < J) (hY : S < Y) (hSP : S < P)
  (hps : StrsAre pv (qs.map tx)) (hpl : pv.length ≤ 50) :
  wpAny (model prog w) (callerA.deeper (lenv L fa)) (exec (loopSt 5) (lenv L fa)) (fun f s' => f = .next ∧ PinL h₀ L G S kc J Y gv sv x3 oT oK oJ oY [("script", .ref l), ("number", .int n tn), ("figures", .str fg tf)] (if q = [] then qs else q :: qs) s s') E s := by
  k_with_none
  k_with "binaryOp Add ref ref" => (k_here; k_dflt (refine' addT_K ?k1 ?k2 ?k3 ?k4 ?k5 ?_; (case k1 => k_asm); (case k2 => k_asm); (case k3 => k_mem); (case k4 => k_mem); (case k5 => (simp only [List.size_toArray, List.length_cons, List.length_nil, Array.size_empty]; omega)); k_whole); intro D' h' F' N' l1; (try k_lt l1); (try k_gentoks))
  unfold prog
  obtain ⟨m, o1, o2, o3, gn, sn, F, hp, N, d1, d2, d3⟩ := H
  replace F := Fr_pins _ F hp
  dsimp only [pinM] at F
  revert X
  k_fill
  intro X
  w_on
  w_top on
  unfold lenv
  conv in (occs := *) loopSt 5 => all_goals whnf
  conv in (occs := *) fScope lawS => all_goals whnf
  w_strict k_steps
  all_goals first
    | exact rfl
    | (rename (tx q != _) = true => q9
       rw [if_neg (tx_ne q9)]
       rename Fr _ _ _ _ => F9
       rename News _ _ _ _ => N9
       refine' ⟨_, Value.str (tx q) tl :: pv, _, ?l9, .cons _ _ hps, ?g9⟩
       (case g9 => (refine ⟨_, _, rfl, _, o1, o2, o3, ?n8, ?c8, F9, ?p8, News_sub N9 ?w8, d1, d2, d3⟩; (case w8 => (repeat' (first | exact List.forall_mem_nil _ | (refine List.forall_mem_cons.mpr ⟨by k_mem, ?_⟩)))); (case p8 => (repeat' (first | exact List.forall_mem_nil _ | (refine List.forall_mem_cons.mpr ⟨rfl, ?_⟩))))))
       (case l9 => (refine ltN ?_; omega)))
    | (rename (tx q != _) = false => q9
       rw [if_pos (tx_eq q9)]
       rename Fr _ _ _ _ => F9
       rename News _ _ _ _ => N9
       refine' ⟨_, pv, _, ?l9, hps, ?g9⟩
       (case g9 => (refine ⟨_, _, rfl, _, o1, o2, o3, ?n8, ?c8, F9, ?p8, News_sub N9 ?w8, d1, d2, d3⟩; (case w8 => (repeat' (first | exact List.forall_mem_nil _ | (refine List.forall_mem_cons.mpr ⟨by k_mem, ?_⟩)))); (case p8 => (repeat' (first | exact List.forall_mem_nil _ | (refine List.forall_mem_cons.mpr ⟨rfl, ?_⟩))))))
       (case l9 => (refine ltN ?_; omega)))
end Mine
end
section
open PySem PySem.W PyProof.Rows PySem.Calls PyProof.Rows.LCg
set_option maxRecDepth 100000
namespace Mine
theorem tx_app (a b : List Nat) : tx a ++ tx b = tx (a ++ b) := by
  show (⟨a.toArray ++ b.toArray⟩ : Str) = ⟨(a ++ b).toArray⟩
  simp
theorem join_tx : ∀ ps : List (List Nat), Txt.join (Str.ofString "") (ps.map tx) = tx ps.flatten := by
  intro ps
  have h := join_plain_closes (Str.ofString "") (ps.map tx)
  rw [eq_of_beq h]
  induction ps with
  | nil => exact tx_nil.symm
  | cons a r ih =>
    cases r with
    | nil => show tx a = tx ([a].flatten); simp
    | cons b r =>
      show tx a ++ Str.ofString "" ++ Str.join (Str.ofString "") ((b :: r).map tx) = _
      rw [ih (join_plain_closes _ _), ← tx_nil, tx_app, tx_app]
      simp
theorem sum_len (ps : List (List Nat)) : ((ps.map tx).map (·.length)).sum = ps.flatten.length := by
  induction ps with
  | nil => rfl
  | cons a r ih => simp only [List.map_cons, List.sum_cons, ih, tx_len, List.flatten_cons, List.length_append]
theorem joinT_K {prog : Program} {w : World} {A : Around} {E : Value → Shared → Prop} {s : Shared} {h₀ : Heap} {L : Addr} {news : List (Addr × Obj)} {P : Addr} {pv : List Value} {ps : List (List Nat)} {n : Nat} {t : Tok} {Q : Value → Shared → Prop}
    (N : News h₀ L s.heap news) (hm : (P, W.listOf (List.toArray pv) n) ∈ news) (hps : StrsAre pv (ps.map tx)) (hz : ps.flatten.length ≤ 100)
    (h : ∀ t' k, Q (.str (tx ps.flatten) t') { s with toks := k }) :
    wpAny (model prog w) A (call (.builtin "str.join") [.str (Str.ofString "") t, .ref P]) Q E s := by
  refine join_list (items := List.toArray pv) ⟨_, (N _ hm).1, rfl, n, rfl⟩ hps (by rw [sum_len, show (Str.ofString "").length = 0 from rfl]; omega) fun t' k => ?_
  rw [join_tx]; exact h t' k
set_option maxHeartbeats 8000000 in
theorem b6 {w : World} {h₀ : Heap} {L fa l G S P kc J Y : Nat} {mg mb : Str → Option Value} {mean : ExcName → Option Value} {loose : List Str} {s : Shared}
  {gv sv pv : List Value} {ps : List (List Nat)} {ds : List Nat} {c : Nat} {x3 : Option Value} {oT oK oJ oY : Obj} {n : Int} {tn tf : Tok} {E : Value → Shared → Prop}
  (X : (hd.heap_39 w.params).In h₀) (T : Top topProg loose mean mg mb h₀) (B : Below callerA h₀ [] h₀)
  (H : LSt h₀ L G S gv sv x3 [(P, W.listOf (List.toArray pv) c), (72, oT), (kc, oK), (J, oJ), (Y, oY)] [("script", .ref l), ("number", .int n tn), ("figures", .str (tx ds) tf), ("pieces", .ref P)] s.heap) (hlt : 72 < L) (hG : L + 1 + 1 + 1 < G) (hGS : G < S) (hkc : kc < L ∨ S < kc) (hJ : S < J) (hY : S < Y) (hSP : S < P)
  (hps : StrsAre pv (ps.map tx)) (hpl : pv.length ≤ 50) (hdl : (tx ds).length ≤ 20) (hj : ps.flatten = ds) (hfl : ps.flatten.length ≤ 100) (hle : ps.length ≤ ds.length) :
  wpAny (model prog w) (callerA.deeper (lenv L fa)) (exec (loopSt 6) (lenv L fa)) (fun f s' => f = .next ∧ Kept (LSt h₀ L G S gv sv x3 [(P, W.listOf (List.toArray pv) c), (72, oT), (kc, oK), (J, oJ), (Y, oY)] [("script", .ref l), ("number", .int n tn), ("figures", .str (tx ds) tf), ("pieces", .ref P)]) s s') E s := by
  k_with_none
  k_with "call builtin:str.join" => (k_here; k_dflt (refine' joinT_K ?k1 ?k2 ?k3 ?k4 ?_; (case k1 => k_asm); (case k2 => k_mem); (case k3 => assumption); (case k4 => assumption); k_whole); intro t' k')
  k_with "call builtin:len" => (k_here; k_dflt (refine' len_raw ?k1 ?k2 ?z ?_; (case k1 => k_asm); (case k2 => k_mem); (case z => (rw [List.size_toArray]; omega)); k_whole))
  unfold prog
  obtain ⟨m, o1, o2, o3, gn, sn, F, hp, N, d1, d2, d3⟩ := H
  replace F := Fr_pins _ F hp
  dsimp only [pinM] at F
  revert X
  k_fill
  intro X
  w_on
  w_top on
  unfold lenv
  conv in (occs := *) loopSt 6 => all_goals whnf
  conv in (occs := *) fScope lawS => all_goals whnf
  w_strict k_steps
  all_goals first
    | exact rfl
    | (refine ⟨_, _, rfl, _, _, _, _, ?n9, ?c9, by assumption, ?p9, News_sub (by assumption) ?w9, by assumption, by assumption, by assumption⟩; (case w9 => (repeat' (first | exact List.forall_mem_nil _ | (refine List.forall_mem_cons.mpr ⟨by k_mem, ?_⟩)))); (case p9 => (repeat' (first | exact List.forall_mem_nil _ | (refine List.forall_mem_cons.mpr ⟨rfl, ?_⟩)))))
    | (exfalso; rename (tx _ != tx _) = true => q9; rw [hj] at q9; simp at q9; done)
    | (exfalso; (try simp only [List.size_toArray] at *); (have e1 : pv.length = ps.length := by rw [strsAre_len hps, List.length_map]); (have e2 := tx_len ds); omega)
end Mine
end
section
open PySem PySem.W PyProof.Rows PySem.Calls PyProof.Rows.LCg
set_option maxRecDepth 100000
namespace Mine
set_option maxHeartbeats 4000000 in
theorem comp_walk {w : World} {A : Around} {h₀ : Heap} {L : Nat} {env : Env} {scope : Scope} {cl : List (Str × Addr)} {elt iter : Expr} {x : Str} {px pos : Pos} {I : Nat} {fp : List Addr} {n : Nat} {P : Nat → Value → Prop} {St : Nat → Heap → Prop} {base : List (Addr × Obj)} {m : Str → Option Value}
  {s : Shared} {Q : Value → Shared → Prop} {E : Value → Shared → Prop} (Wk : Walks prog w A I fp [I] n P St) (R : Nat → Value → Prop) (hst : St 0 s.heap) (F : Fr h₀ L s.heap m) (N : News h₀ L s.heap base)
  (hI : I < s.heap.objs.size) (hI0 : h₀.get? I = none) (hIL : I ≠ L) (hIb : ∀ p ∈ base, p.1 ≠ I) (hfp : ∀ b ∈ fp, b = I ∨ ∃ o, (b, o) ∈ base) (hSt : ∀ i h, St i h → ∃ o, h.get? I = some o) (hn : n ≤ 100)
  (hcell : ∀ y ∈ scope.names, y.2 ≠ .cell) (hkind : scope.kind = .function) (hx : scope.names.lookup x = some .local)
  (elem : ∀ (i : Nat) v (h : Heap) tk (C D : Nat) oC oD oI m₂ (E' : Value → Shared → Prop), i < n → P i v → NsObj oC m₂ → m₂ x = some v → Fr h₀ L h m → News h₀ L h ((C, oC) :: (D, oD) :: (I, oI) :: base) →
    wpAny (model prog w) A (eval elt (compEnvC scope cl C env)) (fun y s' => R i y ∧ Kept (fun h' => Fr h₀ L h' m ∧ News h₀ L h' ((C, oC) :: (D, oD) :: (I, oI) :: base)) { s with heap := h, toks := tk } s') E' { s with heap := h, toks := tk })
  (hQ : ∀ (D : Nat) h' tk ys c, Fr h₀ L h' m → News h₀ L h' ((D, W.listOf (List.toArray ys) c) :: base) → (∀ p ∈ base, @LT.lt Nat _ p.1 D) → ys.length = n → (∀ (i : Nat) y, ys[i]? = some y → R i y) → Q (.ref D) { s with heap := h', toks := tk }) :
  wpAny (model prog w) A (newList []) (fun acc s₃ => wpAny (model prog w) A (newFunctionEnv scope env.globals cl [] env.qual none .none (some env)) (fun cenv s₄ =>
    codeAny (model prog w) A (.compStart (.ListComp elt [⟨.Name x px, iter, [], 0⟩] scope pos) 0 (.ref I) acc { cenv with scope := relabel scope env }) (compPost (model prog w) A E none Q acc cenv.locals) s₄) E s₃) E s := by
  have hLZ : L < s.heap.objs.size := F.ns.lt
  have hNZ : ∀ p ∈ base, @LT.lt Nat _ p.1 s.heap.objs.size := fun p hp => Heap.lt_size (N p hp).1
  have h0Z : ∀ b : Nat, s.heap.objs.size ≤ b → h₀.get? b = none := fun b hb => Heap.get?_none_of_le (Nat.le_trans F.above (Nat.le_trans (Nat.le_of_lt hLZ) hb))
  have hfpZ : ∀ b ∈ fp, @LT.lt Nat _ b s.heap.objs.size := fun b hb => by
    rcases hfp b hb with rfl | ⟨o, ho⟩
    · exact hI
    · exact hNZ _ ho
  generalize hZ : s.heap.objs.size = Z at *
  refine wpAny_newObj_type (wpAny_newFunctionEnv hcell (by intro y hy; simp at hy) (fun h₂ hns₂ hsb₂ => ?_) hkind)
  dsimp only at hns₂ hsb₂ ⊢
  have hzp : (s.heap.push { cls := .type "list", dict := none, data := .seq ([] : List Value).toArray }).objs.size = Z + 1 := by rw [Heap.size_push, hZ]
  have hk₂ : ∀ (b : Nat) o, b < Z → s.heap.get? b = some o → h₂.get? b = some o := fun b o hb e =>
    hsb₂.extBut b o (by rw [hzp]; exact Nat.ne_of_lt (Nat.lt_succ_of_lt hb)) (Heap.get?_push_of_some _ (Heap.get?_push_of_some _ e))
  have hD₂ : h₂.get? Z = some { cls := .type "list", dict := none, data := .seq ([] : List Value).toArray } :=
    hsb₂.extBut _ _ (by rw [hzp]; exact Nat.ne_of_lt (Nat.lt_succ_self _)) (Heap.get?_push_of_some _ (hZ ▸ Heap.get?_push_size _ rfl))
  rw [hzp] at hns₂ hsb₂ ⊢
  rw [hZ]
  have hst₂ : St 0 h₂ := Wk.frame _ _ _ hst fun b hb o e => hk₂ b o (hfpZ b hb) e
  refine (fun loop => codeAny_compStart_list loop (Wk.self 0 _ _ _ hst₂ loop)) ?_
  refine codeAny_compLoop_list (fun k s' => ∃ h' tk i ys m' c, s' = { s with heap := h', toks := tk } ∧ i ≤ n ∧ k = n - i ∧ Fr h₀ L h' m ∧ News h₀ L h' base ∧ St i h' ∧ h'.Ns (Z + 1) m' ∧
      h'.get? Z = some (W.listOf (List.toArray ys) c) ∧ ys.length = i ∧ (∀ (j : Nat) y, ys[j]? = some y → R j y)) ?_ n
    ⟨h₂, _, 0, [], _, _, rfl, Nat.zero_le _, rfl, fr_lt F hLZ hk₂, news_lt N hNZ hk₂, hst₂, hns₂, hD₂, rfl, fun j y e => by simp at e⟩
  rintro k s' ⟨h', tk, i, ys, m', c, rfl, hi, rfl, F', N', hst', hn', hD', hyl, hyR⟩
  by_cases hlt : i < n
  · refine Wk.item i _ _ _ hlt hst' fun v h₃ tk₃ hP hst₃ hk₃ => ?_
    have up₃ : ∀ (b : Nat) o, b ≠ I → h'.get? b = some o → h₃.get? b = some o := fun b o hb e => hk₃ b o (by simpa using hb) e
    refine wpAny_assign_Name (wpAny_storeName_local (m := m') (lookup_relabel_local hx) (hn'.at' fun o e => up₃ (Z + 1) o (by omega) e) (fun h₄ hn₄ hs₄ => ?_) (by simp [relabel, hkind]))
    have hk : ∀ (b : Nat) o, b ≠ I → b ≠ Z + 1 → h'.get? b = some o → h₄.get? b = some o := fun b o h1 h2 e => (hs₄.2 b h2).trans (up₃ b o h1 e)
    have F₄ : Fr h₀ L h₄ m := ⟨F'.ns.at' fun o e => hk L o (Ne.symm hIL) (by omega) e, fun b o e => hk b o (fun q => by rw [q, hI0] at e; cases e) (fun q => by rw [q, h0Z (Z + 1) (by omega)] at e; cases e) (F'.keep b o e), F'.above⟩
    have N₄ : News h₀ L h₄ base := fun p hp => ⟨hk _ _ (hIb p hp) (Nat.ne_of_lt (Nat.lt_succ_of_lt (hNZ p hp))) (N' p hp).1, (N' p hp).2⟩
    have hst₄ : St (i + 1) h₄ := Wk.frame _ _ _ hst₃ fun b hb o e => (hs₄.2 b (Nat.ne_of_lt (Nat.lt_succ_of_lt (hfpZ b hb)))).trans e
    obtain ⟨oI, hoI⟩ := hSt _ _ hst₄
    obtain ⟨oC, heC, hoC⟩ := ns_obj hn₄
    have hD₄ := hk Z _ (by omega) (by omega) hD'
    have N₄' : News h₀ L h₄ ((Z + 1, oC) :: (Z, W.listOf (List.toArray ys) c) :: (I, oI) :: base) := by
      intro p hp
      rcases List.mem_cons.mp hp with rfl | hp
      · exact ⟨heC, show (Z + 1 : Nat) ≠ L by omega, h0Z _ (by omega)⟩
      rcases List.mem_cons.mp hp with rfl | hp
      · exact ⟨hD₄, show (Z : Nat) ≠ L by omega, h0Z _ (Nat.le_refl _)⟩
      rcases List.mem_cons.mp hp with rfl | hp
      · exact ⟨hoI, hIL, hI0⟩
      · exact N₄ p hp
    refine wpAny_mono (elem i v h₄ _ (Z + 1) Z oC _ oI _ _ hlt hP hoC (if_pos rfl) F₄ N₄') (fun y s₅ h₅ => ?_) fun _ _ e => e
    obtain ⟨hRy, h₅, tk₅, rfl, F₅, N₅⟩ := h₅
    have hst₅ : St (i + 1) h₅ := Wk.frame _ _ _ hst₄ fun b hb o e => by
      rcases hfp b hb with rfl | ⟨o', ho'⟩
      · have h1 := (N₅ (b, oI) (by simp)).1
        rw [hoI] at e; cases e; exact h1
      · have h1 := (N₅ (b, o') (by simp [ho'])).1
        have h2 := (N₄ (b, o') ho').1
        rw [h2] at e; cases e; exact h1
    have hn₅ := hoC.ns (N₅ (Z + 1, oC) (by simp)).1
    have hD₅ := (N₅ (Z, W.listOf (List.toArray ys) c) (by simp)).1
    refine wpAny_list_append_plain (hsz := by rw [sizeLine_eq, List.size_toArray]; omega) ⟨c, hD₅⟩ fun h₇ hl₇ hs₇ => ?_
    obtain ⟨c', hl₇⟩ := hl₇
    rw [List.push_toArray] at hl₇
    have hk₇ : ∀ (b : Nat) o, b ≠ Z → h₅.get? b = some o → h₇.get? b = some o := fun b o h1 e => (hs₇.2 b h1).trans e
    refine ⟨n - (i + 1), by omega, h₇, _, i + 1, ys ++ [y], _, c', rfl, hlt, rfl, fr_lt F₅ hLZ fun b o hb e => hk₇ b o (by omega) e, news_lt (News_sub N₅ (by intro p hp; simp [hp])) hNZ fun b o hb e => hk₇ b o (by omega) e,
      Wk.frame _ _ _ hst₅ fun b hb o e => hk₇ b o (Nat.ne_of_lt (hfpZ b hb)) e, hn₅.at' fun o e => hk₇ (Z + 1) o (by omega) e, hl₇, by simp [hyl], fun j z e => ?_⟩
    by_cases hj : j < i
    · rw [List.getElem?_append_left (by omega)] at e; exact hyR j z e
    · by_cases hj2 : j = i
      · subst hj2; rw [List.getElem?_append_right (by omega)] at e; simp [hyl] at e; rw [← e]; exact hRy
      · rw [List.getElem?_eq_none (by simp; omega)] at e; cases e
  · have hin : i = n := by omega
    subst hin
    refine Wk.done _ _ _ hst' fun h₃ tk₃ hk₃ => ?_
    have up₃ : ∀ (b : Nat) o, b ≠ I → h'.get? b = some o → h₃.get? b = some o := fun b o hb e => hk₃ b o (by simpa using hb) e
    refine ⟨m', hn'.at' fun o e => up₃ (Z + 1) o (by omega) e, fun h₄ hs₄ => ?_⟩
    have hk : ∀ (b : Nat) o, b ≠ I → b ≠ Z + 1 → h'.get? b = some o → h₄.get? b = some o := fun b o h1 h2 e => (hs₄.2 b h2).trans (up₃ b o h1 e)
    refine hQ Z h₄ _ ys c ⟨F'.ns.at' fun o e => hk L o (Ne.symm hIL) (by omega) e, fun b o e => hk b o (fun q => by rw [q, hI0] at e; cases e) (fun q => by rw [q, h0Z (Z + 1) (by omega)] at e; cases e) (F'.keep b o e), F'.above⟩ (fun p hp => ?_) hNZ hyl hyR
    rcases List.mem_cons.mp hp with rfl | hp
    · exact ⟨hk Z _ (by omega) (by omega) hD', show (Z : Nat) ≠ L by omega, h0Z _ (Nat.le_refl _)⟩
    · exact ⟨hk _ _ (hIb p hp) (Nat.ne_of_lt (Nat.lt_succ_of_lt (hNZ p hp))) (N' p hp).1, (N' p hp).2⟩
end Mine
end
section
open PySem PySem.W PyProof.Rows PySem.Calls PyProof.Rows.LCg
set_option maxRecDepth 100000
namespace Mine
theorem pick_from (vs : List Value) {x : Int} (h : 0 ≤ x) : (slicePick vs.toArray (some x) none none).toList = vs.drop x.toNat := by
  have e : sliceBounds (some x) none none vs.toArray.size = (((min x.toNat vs.toArray.size : Nat) : Int), ((vs.toArray.size : Nat) : Int), 1) := by
    simp only [sliceBounds, Option.getD_none, show (1 : Int) > 0 by decide, if_true, if_neg (show ¬ (x < 0) by omega)]
    congr 1
    omega
  rw [kmk_pick_nat _ e]
  simp only [List.size_toArray]
  rw [kmk_drop_min]
  apply List.take_of_length_le
  simp only [List.length_drop]; omega
theorem pick_upto (vs : List Value) {y : Int} (h : 0 ≤ y) : (slicePick vs.toArray none (some y) none).toList = vs.take y.toNat := by
  have e : sliceBounds none (some y) none vs.toArray.size = (((0 : Nat) : Int), ((min y.toNat vs.toArray.size : Nat) : Int), 1) := by
    simp only [sliceBounds, Option.getD_none, show (1 : Int) > 0 by decide, if_true, if_neg (show ¬ (y < 0) by omega)]
    congr 1
    congr 1
    omega
  rw [kmk_pick_nat _ e]
  show (vs.drop 0).take (min y.toNat vs.toArray.size - 0) = _
  rw [List.drop_zero, Nat.sub_zero, List.size_toArray, kmk_take_min]
theorem fromT_K {prog : Program} {w : World} {A : Around} {E : Value → Shared → Prop} {h₀ : Heap} {L : Addr} {m : Str → Option Value} {news : List (Addr × Obj)} {value slice : PySem.Expr} {l : Addr} {vs : List Value} {y : Int} {t : Tok} {n : Nat} {Q : Value → Shared → Prop} {hp : Heap} {gens : Array GenState} {drawn : Drawn} {tk : Nat} {os : OsState}
    (F : Fr h₀ L hp m) (N : News h₀ L hp news) (hm : (l, W.listOf vs.toArray n) ∈ news) (h0 : 0 ≤ y) (hz : vs.length ≤ 100)
    (h : ∀ D h', Fr h₀ L h' m → News h₀ L h' ((D, W.listOf (List.toArray (vs.drop y.toNat)) 0) :: news) → (∀ p ∈ news, p.1 < D) → Q (.ref D) ⟨h', gens, drawn, tk, os⟩)
    (hs : subscripted slice false (.ref l) (.ref hp.objs.size) = operate [.ref hp.objs.size, .ref l] (getItem (.ref l) (.ref hp.objs.size))) (ht : ∀ r, letTemporaryGo value (.ref l) r = pure ()) :
    wpAny (model prog w) A (subscriptTail value slice (.ref l) (.ref hp.objs.size)) Q E ⟨hp.push { cls := .type "slice", data := .fields #[.int y t, .none, .none] }, gens, drawn, tk, os⟩ := by
  refine kmk_slice (s := ⟨hp, gens, drawn, tk, os⟩) (its := vs.toArray) F N ⟨_, (N _ hm).1, rfl, n, rfl⟩ (.int y t) .none (fun D h' F' N' l1 => ?_) hs ht (by rw [sizeLine_eq, List.size_toArray]; omega)
  refine h D h' F' ?_ l1
  rw [← pick_from vs h0, Array.toArray_toList]; exact N'
def NewL (h₀ : Heap) (L : Nat) (m : Str → Option Value) (vs : List Value) (base : List (Addr × Obj)) (v : Value) (s s' : Shared) : Prop :=
  ∃ D h' tk, v = .ref D ∧ s' = { s with heap := h', toks := tk } ∧ Fr h₀ L h' m ∧ News h₀ L h' ((D, W.listOf (List.toArray vs) 0) :: base)
def IsI (x : Int) (v : Value) : Prop := ∃ t, v = .int x t
def lenE : Expr := asgVal (loopSt 7)
theorem pinM_eq' {x : Str} {v : Value} {m : Str → Option Value} (hx : m x = some v) : (fun y => if y = x then some v else m y) = m := pinM_eq (l := [(x, v)]) (List.forall_mem_cons.mpr ⟨hx, List.forall_mem_nil _⟩)
set_option maxHeartbeats 8000000 in
theorem len_iter {w : World} {h₀ : Heap} {L fa P : Nat} {mg mb : Str → Option Value} {mean : ExcName → Option Value} {loose : List Str} {s : Shared} {m : Str → Option Value} {pv : List Value} {c : Nat} {rest : List (Addr × Obj)}
  {E : Value → Shared → Prop}
  (X : (hd.heap_39 w.params).In h₀) (T : Top topProg loose mean mg mb h₀) (B : Below callerA h₀ [] h₀) (F : Fr h₀ L s.heap m) (hP : m "pieces" = some (.ref P)) (N : News h₀ L s.heap ((P, W.listOf (List.toArray pv) c) :: rest)) (hpl : pv.length ≤ 50) :
  wpAny (model prog w) (callerA.deeper (lenv L fa)) (eval (compGen lenE).iter (lenv L fa)) (fun v s' => NewL h₀ L m (pv.drop 1) ((P, W.listOf (List.toArray pv) c) :: rest) v s s') E s := by
  k_with_none
  k_with "subscriptTail Name Slice ref ref" => (k_here; (with_reducible show wpAny _ _ (subscriptTail _ (PySem.Expr.Slice (some _) none none _) (Value.ref _) (Value.ref _)) _ _ _); k_dflt (refine' fromT_K ?k1 ?k2 ?k3 ?k5 ?k6 ?_ ?s ?t; (case k1 => k_asm); (case k2 => k_asm); (case k3 => k_mem); (case k5 => decide); (case k6 => omega); (case s => with_unfolding_all rfl); (case t => (intro _; with_unfolding_all rfl))); intro D' h' F' N' l1; (try k_lt l1); (try k_gentoks))
  unfold prog
  replace F := Fr_pins [("pieces", .ref P)] F (List.forall_mem_cons.mpr ⟨hP, List.forall_mem_nil _⟩)
  dsimp only [pinM] at F
  revert X
  k_fill
  intro X
  w_on
  w_top on
  unfold lenv
  conv in (occs := *) (compGen lenE).iter => all_goals whnf
  conv in (occs := *) fScope lawS => all_goals whnf
  w_strict k_steps
  all_goals first
    | exact rfl
    | refine ⟨_, _, _, rfl, rfl, ?_, News_sub (by assumption) (fun p hp => hp)⟩ <;> (rename Fr _ _ _ _ => F9; rw [pinM_eq' hP] at F9; exact F9)
set_option maxHeartbeats 8000000 in
theorem len_elem {w : World} {h₀ : Heap} {L fa C : Nat} {mg mb : Str → Option Value} {mean : ExcName → Option Value} {loose : List Str} {s : Shared} {m m₂ : Str → Option Value} {rest : List (Addr × Obj)} {oC : Obj} {q : List Nat} {tq : Tok}
  {E : Value → Shared → Prop}
  (X : (hd.heap_39 w.params).In h₀) (T : Top topProg loose mean mg mb h₀) (B : Below callerA h₀ [] h₀) (hq : (tx q).length ≤ 20) (hC : NsObj oC m₂) (h1 : m₂ "piece" = some (.str (tx q) tq)) (F : Fr h₀ L s.heap m) (N : News h₀ L s.heap ((C, oC) :: rest)) :
  wpAny (model prog w) (callerA.deeper (lenv L fa)) (eval (compElt lenE) (compEnvC (compScope lenE) [] C (lenv L fa))) (fun v s' => IsI (q.length : Int) v ∧ Kept (fun h' => Fr h₀ L h' m ∧ News h₀ L h' ((C, oC) :: rest)) s s') E s := by
  k_with_none
  k_with "subscriptTail Name Slice ref ref" => (k_here; (with_reducible show wpAny _ _ (subscriptTail _ (PySem.Expr.Slice (some _) none none _) (Value.ref _) (Value.ref _)) _ _ _); k_dflt (refine' fromT_K ?k1 ?k2 ?k3 ?k5 ?k6 ?_ ?s ?t; (case k1 => k_asm); (case k2 => k_asm); (case k3 => k_mem); (case k5 => decide); (case k6 => omega); (case s => with_unfolding_all rfl); (case t => (intro _; with_unfolding_all rfl))); intro D' h' F' N' l1; (try k_lt l1); (try k_gentoks))
  unfold prog
  revert X
  k_fill
  intro X
  w_on
  w_top on
  unfold lenv
  conv in (occs := *) compElt lenE => all_goals whnf
  conv in (occs := *) compScope lenE => all_goals whnf
  conv in (occs := *) fScope lawS => all_goals whnf
  w_strict k_steps
  all_goals first
    | exact rfl
    | exact ⟨_, _, rfl, by assumption, by assumption⟩
    | (rw [tx_len]; exact ⟨_, rfl⟩)
end Mine
end
section
open PySem PySem.W PyProof.Rows PySem.Calls PyProof.Rows.LCg
set_option maxRecDepth 100000
namespace Mine
theorem ints_of : ∀ {ys : List Value} {ns : List Int}, ys.length = ns.length → (∀ (i : Nat) y, ys[i]? = some y → ∃ x, ns[i]? = some x ∧ IsI x y) → IntsAre ys ns
  | [], [], _, _ => .nil
  | [], _ :: _, e, _ => by simp at e
  | _ :: _, [], e, _ => by simp at e
  | y :: ys, n :: ns, e, h => by
    obtain ⟨x, hx, t, rfl⟩ := h 0 y rfl
    simp only [List.getElem?_cons_zero, Option.some.injEq] at hx
    subst hx
    exact .cons _ t (ints_of (by simpa using e) fun i z hz => h (i + 1) z (by simpa using hz))
theorem comp_list {w : World} {A : Around} {h₀ : Heap} {L : Nat} {env : Env} {scope : Scope} {cl : List (Str × Addr)} {elt iter : Expr} {x : Str} {px pos : Pos} {l k : Nat} {vs : List Value} {base : List (Addr × Obj)} {m : Str → Option Value}
  {s : Shared} {Q : Value → Shared → Prop} {E : Value → Shared → Prop} (R : Nat → Value → Prop) (hA : A.handled = none) (F : Fr h₀ L s.heap m) (N : News h₀ L s.heap base)
  (hm : (l, W.listOf (List.toArray vs) k) ∈ base) (hn : vs.length ≤ 100)
  (hcell : ∀ y ∈ scope.names, y.2 ≠ .cell) (hkind : scope.kind = .function) (hx : scope.names.lookup x = some .local)
  (elem : ∀ (i : Nat) v (h : Heap) tk (C D I : Nat) oC oD oI m₂ (E' : Value → Shared → Prop), vs[i]? = some v → NsObj oC m₂ → m₂ x = some v → Fr h₀ L h m → News h₀ L h ((C, oC) :: (D, oD) :: (I, oI) :: base) →
    wpAny (model prog w) A (eval elt (compEnvC scope cl C env)) (fun y s' => R i y ∧ Kept (fun h' => Fr h₀ L h' m ∧ News h₀ L h' ((C, oC) :: (D, oD) :: (I, oI) :: base)) { s with heap := h, toks := tk } s') E' { s with heap := h, toks := tk })
  (hQ : ∀ (D : Nat) h' tk ys c, Fr h₀ L h' m → News h₀ L h' ((D, W.listOf (List.toArray ys) c) :: base) → (∀ p ∈ base, @LT.lt Nat _ p.1 D) → ys.length = vs.length → (∀ (i : Nat) y, ys[i]? = some y → R i y) → Q (.ref D) { s with heap := h', toks := tk }) :
  wpAny (model prog w) A (pyIter (.ref l)) (fun it s₂ => wpAny (model prog w) A (newList []) (fun acc s₃ => wpAny (model prog w) A (newFunctionEnv scope env.globals cl [] env.qual none .none (some env)) (fun cenv s₄ =>
    codeAny (model prog w) A (.compStart (.ListComp elt [⟨.Name x px, iter, [], 0⟩] scope pos) 0 it acc { cenv with scope := relabel scope env }) (compPost (model prog w) A E none Q acc cenv.locals) s₄) E s₃) E s₂) E s := by
  have hl : s.heap.IsList l vs.toArray := ⟨_, (N _ hm).1, rfl, k, rfl⟩
  have hNI : ∀ p ∈ base, @LT.lt Nat _ p.1 s.heap.objs.size := fun p hp => Heap.lt_size (N p hp).1
  have hlI := hNI _ hm
  have hLI : L < s.heap.objs.size := F.ns.lt
  refine wpAny_pyIter_list hl ?_
  have e1 := Heap.get?_push_size s.heap (o := { cls := .type "list_iterator", data := .fields #[.ref l, .int 0 0] }) rfl
  refine comp_walk (I := s.heap.objs.size) (s := { s with heap := _ }) (Walks.list hA s.heap.objs.size l (Nat.ne_of_lt hlI) vs.toArray) R ⟨⟨_, e1, rfl, rfl⟩, hl.push _⟩ (F.push _)
    (fun p hp => ⟨Heap.get?_push_of_some _ (N p hp).1, (N p hp).2⟩) (by show _ < (Heap.push _ _).objs.size; rw [Heap.size_push]; exact Nat.lt_succ_self _) (Heap.get?_none_of_le (Nat.le_trans F.above (Nat.le_of_lt hLI))) (Nat.ne_of_gt hLI)
    (fun p hp => Nat.ne_of_lt (hNI p hp)) ?_ (fun i h st => ?_) (by rw [List.size_toArray]; exact hn) hcell hkind hx ?_ ?_
  · intro b hb
    rcases List.mem_cons.mp hb with rfl | hb
    · exact .inl rfl
    · rw [List.mem_singleton.mp hb]; exact .inr ⟨_, hm⟩
  · obtain ⟨⟨o, e, _⟩, _⟩ := st; exact ⟨o, e⟩
  · intro i v h tk C D oC oD oI m₂ E' hi hv h1 h2 h3 h4
    exact elem i v h tk C D _ oC oD oI m₂ E' (by simpa using hv) h1 h2 h3 h4
  · intro D h' tk ys c h1 h2 h3 h4 h5
    exact hQ D h' tk ys c h1 h2 h3 (by rw [h4, List.size_toArray]) h5
def PinLen (h₀ : Heap) (L G S P kc J Y : Nat) (gv sv : List Value) (pv : List Value) (c : Nat) (oT oK oJ oY : Obj) (pins : List (Str × Value)) (ns : List Int) (s s' : Shared) : Prop :=
  ∃ D : Nat, ∃ lv c', P < D ∧ kc < D ∧ IntsAre lv ns ∧ Kept (LSt h₀ L G S gv sv (some (.ref D)) [(D, W.listOf (List.toArray lv) c'), (P, W.listOf (List.toArray pv) c), (72, oT), (kc, oK), (J, oJ), (Y, oY)] pins) s s'
set_option maxHeartbeats 8000000 in
theorem b7 {w : World} {h₀ : Heap} {L fa l G S P kc J Y : Nat} {mg mb : Str → Option Value} {mean : ExcName → Option Value} {loose : List Str} {s : Shared}
  {gv sv pv : List Value} {ps : List (List Nat)} {ds : List Nat} {c : Nat} {x3 : Option Value} {oT oK oJ oY : Obj} {n : Int} {tn tf : Tok} {E : Value → Shared → Prop}
  (X : (hd.heap_39 w.params).In h₀) (T : Top topProg loose mean mg mb h₀) (B : Below callerA h₀ [] h₀)
  (H : LSt h₀ L G S gv sv x3 [(P, W.listOf (List.toArray pv) c), (72, oT), (kc, oK), (J, oJ), (Y, oY)] [("script", .ref l), ("number", .int n tn), ("figures", .str (tx ds) tf), ("pieces", .ref P)] s.heap) (hlt : 72 < L) (hG : L + 1 + 1 + 1 < G) (hGS : G < S) (hkc : kc < L ∨ S < kc) (hJ : S < J) (hY : S < Y) (hSP : S < P)
  (hps : StrsAre pv (ps.map tx)) (hpl : pv.length ≤ 50) (hql : ∀ q ∈ ps, q.length ≤ 20) :
  wpAny (model prog w) (callerA.deeper (lenv L fa)) (exec (loopSt 7) (lenv L fa)) (fun f s' => f = .next ∧ PinLen h₀ L G S P kc J Y gv sv pv c oT oK oJ oY [("script", .ref l), ("number", .int n tn), ("figures", .str (tx ds) tf), ("pieces", .ref P)] (ps.tail.map fun q => (q.length : Int)) s s') E s := by
  obtain ⟨m, o1, o2, o3, gn, sn, F, hp, N, d1, d2, d3⟩ := H
  have hPm : m "pieces" = some (.ref P) := hp ("pieces", .ref P) (by simp)
  have N0 : News h₀ L s.heap ((P, W.listOf (List.toArray pv) c) :: [(S, W.listOf sv.toArray sn), (G, W.listOf gv.toArray gn), (L+1+1+1, o3), (L+1+1, o2), (L+1, o1), (72, oT), (kc, oK), (J, oJ), (Y, oY)]) := News_sub N (by (repeat' (first | exact List.forall_mem_nil _ | (refine List.forall_mem_cons.mpr ⟨by k_mem, ?_⟩))))
  conv in (occs := *) exec (loopSt 7) => all_goals (arg 1; whnf)
  refine wpAny_Assign_Name ?_ (by rfl)
  rw [eval_ListComp]
  refine wpAny_comprehension_free (use := none) (cl := []) rfl (by intro _; rfl) (by with_unfolding_all rfl) (by rfl) (by decide) ?_
  refine wpAny_mono (len_iter X T B F hPm N0 hpl) (fun v s₁ h₁ => ?_) fun _ _ e => e
  obtain ⟨Dl, h₁, tk₁, rfl, rfl, F₁, N₁⟩ := h₁
  refine comp_list (l := Dl) (fun i y => ∃ q, (ps.drop 1)[i]? = some q ∧ IsI (q.length : Int) y) rfl F₁ N₁ (.head _) (by rw [List.length_drop]; omega) (by decide) (by rfl) (by rfl) ?_ ?_
  · intro i v h tk C D I oC oD oI m₂ E' hi hC hm₂ F₂ N₂
    have hps1 := StrsAre.drop' hps 1
    obtain ⟨y, t, rfl, hy⟩ := hps1.item i v hi
    rw [← List.map_drop] at hy
    obtain ⟨q, hq, rfl⟩ : ∃ q, (ps.drop 1)[i]? = some q ∧ tx q = y := by
      rw [List.getElem?_map] at hy
      cases e : (ps.drop 1)[i]? with
      | none => rw [e] at hy; cases hy
      | some q => rw [e] at hy; exact ⟨q, rfl, by simpa using hy⟩
    refine wpAny_mono (len_elem (q := q) (tq := t) X T B (by rw [tx_len]; exact hql q (List.mem_of_mem_drop (List.mem_of_getElem? hq))) hC hm₂ F₂ N₂) (fun y' s' h' => ?_) fun _ _ e => e
    exact ⟨⟨q, hq, h'.1⟩, h'.2⟩
  · intro D h' tk ys cc F' N' hlt' hyl hyR
    have hDS := hlt' (S, W.listOf sv.toArray sn) (by simp)
    have hDP := hlt' (P, W.listOf (List.toArray pv) c) (by simp)
    have hDK := hlt' (kc, oK) (by simp)
    have hD3 := hlt' (L+1+1+1, o3) (by simp)
    dsimp only at hDS hDP hDK hD3
    refine stCN (own := [(S, W.listOf sv.toArray sn), (G, W.listOf gv.toArray gn)]) (c := L+1+1+1) (o := o3) (v₀ := x3) (rest := [(L+1+1, o2), (L+1, o1), (D, W.listOf (List.toArray ys) cc), (P, W.listOf (List.toArray pv) c), (72, oT), (kc, oK), (J, oJ), (Y, oY)])
      F' (News_sub N' (by (repeat' (first | exact List.forall_mem_nil _ | (refine List.forall_mem_cons.mpr ⟨by k_mem, ?_⟩))))) (by rfl) d3 ?_ ?_ (fun h₃ o3' F₃ N₃ d3' => ?_) (by rfl) (by rfl)
    · intro p hp
      simp only [List.mem_cons, List.not_mem_nil, or_false] at hp
      rcases hp with rfl | rfl
      · show (S : Nat) ≠ L+1+1+1; omega
      · show (G : Nat) ≠ L+1+1+1; omega
    · intro p hp
      simp only [List.mem_cons, List.not_mem_nil, or_false] at hp
      rcases hp with rfl | rfl | rfl | rfl | rfl | rfl | rfl | rfl
      · show (L+1+1 : Nat) ≠ L+1+1+1; omega
      · show (L+1 : Nat) ≠ L+1+1+1; omega
      · show (D : Nat) ≠ L+1+1+1; omega
      · show (P : Nat) ≠ L+1+1+1; omega
      · show (72 : Nat) ≠ L+1+1+1; omega
      · show (kc : Nat) ≠ L+1+1+1; omega
      · show (J : Nat) ≠ L+1+1+1; omega
      · show (Y : Nat) ≠ L+1+1+1; omega
    · refine ⟨rfl, D, ys, cc, hDP, hDK, ?_, h₃, _, rfl, m, o1, o2, o3', gn, sn, F₃, hp, News_sub N₃ (by (repeat' (first | exact List.forall_mem_nil _ | (refine List.forall_mem_cons.mpr ⟨by k_mem, ?_⟩)))), d1, d2, d3'⟩
      refine ints_of ?_ fun i y hy => ?_
      · rw [hyl, List.length_drop, List.length_map, List.length_tail, strsAre_len hps, List.length_map]
      · obtain ⟨q, hq, hI⟩ := hyR i y hy
        refine ⟨_, ?_, hI⟩
        rw [List.getElem?_map, ← List.drop_one, hq]; rfl
end Mine
end
section
open PySem PySem.W PyProof.Rows PySem.Calls PyProof.Rows.LCg
set_option maxRecDepth 100000
namespace Mine
def cmpRight : Expr → Expr | .Compare _ _ (e :: _) _ => e | _ => .Constant .none 0 default
def ifTest : Stmt → Expr | .If t _ _ _ => t | _ => .Constant .none 0 default
def szE : Expr := cmpRight (ifTest (loopSt 8))
set_option maxHeartbeats 8000000 in
theorem sz_elem {w : World} {h₀ : Heap} {L fa C D I S : Nat} {mg mb : Str → Option Value} {mean : ExcName → Option Value} {loose : List Str} {s : Shared} {m m₂ : Str → Option Value} {rest : List (Addr × Obj)} {oC oD oI o2 o3 : Obj} {i : Nat} {ti : Tok}
  {lv sv : List Value} {ns ss : List Int} {c1 c2 : Nat} {E : Value → Shared → Prop} {Dl : Nat}
  (X : (hd.heap_39 w.params).In h₀) (T : Top topProg loose mean mg mb h₀) (B : Below callerA h₀ [] h₀) (hi : i < ns.length) (hij : ns.length - 1 - i < ss.length) (hns : ns.length ≤ 30) (hss : ss.length ≤ 30) (hlv : IntsAre lv ns) (hsv : IntsAre sv ss)
  (hC : NsObj oC m₂) (h1 : m₂ "k" = some (.int (i : Int) ti)) (F : Fr h₀ L s.heap m) (d2 : o2.data = .cell (some (.ref S))) (d3 : o3.data = .cell (some (.ref Dl)))
  (N : News h₀ L s.heap ((C, oC) :: (D, oD) :: (I, oI) :: (S, W.listOf sv.toArray c1) :: (Dl, W.listOf lv.toArray c2) :: (L+1+1+1, o3) :: (L+1+1, o2) :: rest)) :
  wpAny (model prog w) (callerA.deeper (lenv L fa)) (eval (compElt szE) (compEnvC (compScope szE) [("sizes", L+1+1), ("lengths", L+1+1+1)] C (lenv L fa))) (fun v s' => IsI (ss.getD (ns.length - 1 - i) 0) v ∧ Kept (fun h' => Fr h₀ L h' m ∧ News h₀ L h' ((C, oC) :: (D, oD) :: (I, oI) :: (S, W.listOf sv.toArray c1) :: (Dl, W.listOf lv.toArray c2) :: (L+1+1+1, o3) :: (L+1+1, o2) :: rest)) s s') E s := by
  have hl1 := hlv.length
  have hl2 := hsv.length
  k_with_none
  unfold prog
  revert X
  k_fill
  intro X
  w_on
  w_top on
  unfold lenv
  conv in (occs := *) compElt szE => all_goals whnf
  conv in (occs := *) compScope szE => all_goals whnf
  conv in (occs := *) fScope lawS => all_goals whnf
  w_strict k_steps
  all_goals first
    | exact rfl
    | (refine ⟨_, _, rfl, ?_, ?_⟩ <;> assumption)
    | (rename_i t9; exact ⟨t9, by congr 2; omega⟩)
def RangeI (h₀ : Heap) (L : Nat) (m : Str → Option Value) (n : Nat) (base : List (Addr × Obj)) (x : Value) (s s' : Shared) : Prop :=
  ∃ r h' tk t u v, x = .ref r ∧ s' = { s with heap := h', toks := tk } ∧ Fr h₀ L h' m ∧ News h₀ L h' base ∧ IsRange h' r 0 (n : Int) 1 t u v
set_option maxHeartbeats 8000000 in
theorem sz_iter {w : World} {h₀ : Heap} {L fa : Nat} {mg mb : Str → Option Value} {mean : ExcName → Option Value} {loose : List Str} {s : Shared} {m : Str → Option Value} {rest : List (Addr × Obj)} {o3 : Obj}
  {lv : List Value} {ns : List Int} {c2 : Nat} {E : Value → Shared → Prop} {Dl : Nat}
  (X : (hd.heap_39 w.params).In h₀) (T : Top topProg loose mean mg mb h₀) (B : Below callerA h₀ [] h₀) (hns : ns.length ≤ 30) (hlv : IntsAre lv ns)
  (F : Fr h₀ L s.heap m) (d3 : o3.data = .cell (some (.ref Dl)))
  (N : News h₀ L s.heap ((Dl, W.listOf lv.toArray c2) :: (L+1+1+1, o3) :: rest)) :
  wpAny (model prog w) (callerA.deeper (lenv L fa)) (eval (compGen szE).iter (lenv L fa)) (fun v s' => RangeI h₀ L m ns.length ((Dl, W.listOf lv.toArray c2) :: (L+1+1+1, o3) :: rest) v s s') E s := by
  have hl1 := hlv.length
  k_with_none
  unfold prog
  revert X
  k_fill
  intro X
  w_on
  w_top on
  unfold lenv
  conv in (occs := *) (compGen szE).iter => all_goals whnf
  conv in (occs := *) fScope lawS => all_goals whnf
  w_strict k_steps
  all_goals first
    | exact rfl
    | (rename IsRange _ _ _ _ _ _ _ _ => R9; exact ⟨_, _, _, _, _, _, rfl, rfl, by assumption, by assumption, R9⟩)
theorem comp_range {w : World} {A : Around} {h₀ : Heap} {L : Nat} {env : Env} {scope : Scope} {cl : List (Str × Addr)} {elt iter : Expr} {x : Str} {px pos : Pos} {r : Addr} {n : Nat} {t u v : Tok} {base : List (Addr × Obj)} {m : Str → Option Value}
  {s : Shared} {Q : Value → Shared → Prop} {E : Value → Shared → Prop} (R : Nat → Value → Prop) (hA : A.handled = none) (F : Fr h₀ L s.heap m) (N : News h₀ L s.heap base)
  (hr : IsRange s.heap r 0 (n : Int) 1 t u v) (hn : n ≤ 100)
  (hcell : ∀ y ∈ scope.names, y.2 ≠ .cell) (hkind : scope.kind = .function) (hx : scope.names.lookup x = some .local)
  (elem : ∀ (i : Nat) ti (h : Heap) tk (C D I : Nat) oC oD oI m₂ (E' : Value → Shared → Prop), i < n → NsObj oC m₂ → m₂ x = some (.int (i : Int) ti) → Fr h₀ L h m → News h₀ L h ((C, oC) :: (D, oD) :: (I, oI) :: base) →
    wpAny (model prog w) A (eval elt (compEnvC scope cl C env)) (fun y s' => R i y ∧ Kept (fun h' => Fr h₀ L h' m ∧ News h₀ L h' ((C, oC) :: (D, oD) :: (I, oI) :: base)) { s with heap := h, toks := tk } s') E' { s with heap := h, toks := tk })
  (hQ : ∀ (D : Nat) h' tk ys c, Fr h₀ L h' m → News h₀ L h' ((D, W.listOf (List.toArray ys) c) :: base) → (∀ p ∈ base, @LT.lt Nat _ p.1 D) → ys.length = n → (∀ (i : Nat) y, ys[i]? = some y → R i y) → Q (.ref D) { s with heap := h', toks := tk }) :
  wpAny (model prog w) A (pyIter (.ref r)) (fun it s₂ => wpAny (model prog w) A (newList []) (fun acc s₃ => wpAny (model prog w) A (newFunctionEnv scope env.globals cl [] env.qual none .none (some env)) (fun cenv s₄ =>
    codeAny (model prog w) A (.compStart (.ListComp elt [⟨.Name x px, iter, [], 0⟩] scope pos) 0 it acc { cenv with scope := relabel scope env }) (compPost (model prog w) A E none Q acc cenv.locals) s₄) E s₃) E s₂) E s := by
  have hNI : ∀ p ∈ base, @LT.lt Nat _ p.1 s.heap.objs.size := fun p hp => Heap.lt_size (N p hp).1
  have hLI : L < s.heap.objs.size := F.ns.lt
  have hrn : Builtin.Range.rangeSize 0 (n : Int) 1 = (n : Int) := by rw [rangeSize_nat]; omega
  refine wpAny_pyIter_range hr (small_one (by decide) (by decide) (by omega) (by omega)) ?_
  rw [hrn]
  refine comp_walk (I := s.heap.objs.size) (s := { s with heap := _ }) (range_walks (I := s.heap.objs.size) hA 0 n) R (by simpa using Heap.get?_push_size s.heap (o := { cls := .type "range_iterator", data := .fields #[rawInt 0, rawInt (n : Int), rawInt 1] }) rfl) (F.push _)
    (fun p hp => ⟨Heap.get?_push_of_some _ (N p hp).1, (N p hp).2⟩) (by show _ < (Heap.push _ _).objs.size; rw [Heap.size_push]; exact Nat.lt_succ_self _) (Heap.get?_none_of_le (Nat.le_trans F.above (Nat.le_of_lt hLI))) (Nat.ne_of_gt hLI)
    (fun p hp => Nat.ne_of_lt (hNI p hp)) ?_ (fun i h st => ⟨_, st⟩) hn hcell hkind hx ?_ hQ
  · intro b hb
    rw [List.mem_singleton.mp hb]; exact .inl rfl
  · intro i v h tk C D oC oD oI m₂ E' hi hv h1 h2 h3 h4
    obtain ⟨ti, rfl⟩ := hv
    exact elem i ti h tk C D _ oC oD oI m₂ E' hi h1 (by rw [h2]; congr 2; omega) h3 h4
def backL (ns ss : List Int) : List Int := (List.range ns.length).map fun i => ss.getD (ns.length - 1 - i) 0
theorem sz_comp {w : World} {h₀ : Heap} {L fa S : Nat} {mg mb : Str → Option Value} {mean : ExcName → Option Value} {loose : List Str} {s : Shared} {m : Str → Option Value} {o2 o3 : Obj}
  {lv sv : List Value} {ns ss : List Int} {c1 c2 : Nat} {Q : Value → Shared → Prop} {E : Value → Shared → Prop} {Dl : Nat} {news : List (Addr × Obj)}
  (X : (hd.heap_39 w.params).In h₀) (T : Top topProg loose mean mg mb h₀) (B : Below callerA h₀ [] h₀) (hle : ns.length ≤ ss.length) (hns : ns.length ≤ 30) (hss : ss.length ≤ 30) (hlv : IntsAre lv ns) (hsv : IntsAre sv ss)
  (F : Fr h₀ L s.heap m) (N : News h₀ L s.heap news)
  (m1 : (Dl, W.listOf lv.toArray c2) ∈ news) (m2 : (L+1+1+1, o3) ∈ news) (m3 : (S, W.listOf sv.toArray c1) ∈ news) (m4 : (L+1+1, o2) ∈ news) (d2 : o2.data = .cell (some (.ref S))) (d3 : o3.data = .cell (some (.ref Dl)))
  (h : ∀ (D : Nat) h' ys c, Fr h₀ L h' m → News h₀ L h' ((D, W.listOf (List.toArray ys) c) :: news) → (∀ p ∈ news, @LT.lt Nat _ p.1 D) → IntsAre ys (backL ns ss) → ys.length ≤ 30 → ∀ tk, Q (.ref D) { s with heap := h', toks := tk }) :
  wpAny (model prog w) (callerA.deeper (lenv L fa)) (eval szE (lenv L fa)) Q E s := by
  conv in (occs := *) eval szE => all_goals (arg 1; whnf)
  rw [eval_ListComp]
  refine wpAny_comprehension_free (use := none) (cl := [("sizes", L+1+1), ("lengths", L+1+1+1)]) rfl (by intro _; rfl) (by with_unfolding_all rfl) (by rfl) (by decide) ?_
  have N0 : News h₀ L s.heap ((Dl, W.listOf lv.toArray c2) :: (L+1+1+1, o3) :: (S, W.listOf sv.toArray c1) :: (L+1+1, o2) :: news) := fun p hp => by
    simp only [List.mem_cons] at hp
    rcases hp with rfl | rfl | rfl | rfl | hp
    · exact N _ m1
    · exact N _ m2
    · exact N _ m3
    · exact N _ m4
    · exact N _ hp
  refine wpAny_mono (sz_iter X T B hns hlv F d3 N0) (fun v s₁ h₁ => ?_) fun _ _ e => e
  obtain ⟨r, h₁, tk₁, t, u, v, rfl, rfl, F₁, N₁, hR⟩ := h₁
  refine comp_range (r := r) (fun i y => IsI (ss.getD (ns.length - 1 - i) 0) y) rfl F₁ N₁ hR (by omega) (by decide) (by rfl) (by rfl) ?_ ?_
  · intro i ti h tk C D I oC oD oI m₂ E' hi hC hm₂ F₂ N₂
    have N₃ : News h₀ L h ((C, oC) :: (D, oD) :: (I, oI) :: (S, W.listOf sv.toArray c1) :: (Dl, W.listOf lv.toArray c2) :: (L+1+1+1, o3) :: (L+1+1, o2) :: news) := fun p hp => N₂ p (by
      simp only [List.mem_cons] at hp ⊢
      rcases hp with h | h | h | h | h | h | h | h <;> simp [h])
    refine wpAny_mono (sz_elem (S := S) (Dl := Dl) X T B hi (by omega) hns hss hlv hsv hC hm₂ F₂ d2 d3 N₃) (fun y' s' h' => ?_) fun _ _ e => e
    obtain ⟨hy, h', tk', rfl, F', N'⟩ := h'
    refine ⟨hy, h', tk', rfl, F', fun p hp => N' p ?_⟩
    simp only [List.mem_cons] at hp ⊢
    rcases hp with h | h | h | h | h | h | h | h <;> simp [h]
  · intro D h' tk ys cc F' N' hlt' hyl hyR
    refine h D h' ys cc F' (fun p hp => N' p ?_) (fun p hp => hlt' p (by simp [hp])) ?_ (by omega) tk
    · rcases List.mem_cons.mp hp with rfl | hp
      · exact .head _
      · simp [hp]
    · refine ints_of (by rw [hyl, backL, List.length_map, List.length_range]) fun i y hy => ⟨_, ?_, hyR i y hy⟩
      have : i < ns.length := by have := (List.getElem?_eq_some_iff.mp hy).1; omega
      rw [backL, List.getElem?_map, List.getElem?_range this]; rfl
set_option maxHeartbeats 8000000 in
theorem b8 {w : World} {h₀ : Heap} {L fa l G S P D kc J Y : Nat} {mg mb : Str → Option Value} {mean : ExcName → Option Value} {loose : List Str} {s : Shared}
  {gv sv pv lv : List Value} {ss ns : List Int} {ds : List Nat} {c cl : Nat} {oT oK oJ oY : Obj} {n : Int} {tn tf : Tok} {E : Value → Shared → Prop}
  (X : (hd.heap_39 w.params).In h₀) (T : Top topProg loose mean mg mb h₀) (B : Below callerA h₀ [] h₀)
  (H : LSt h₀ L G S gv sv (some (.ref D)) [(D, W.listOf (List.toArray lv) cl), (P, W.listOf (List.toArray pv) c), (72, oT), (kc, oK), (J, oJ), (Y, oY)] [("script", .ref l), ("number", .int n tn), ("figures", .str (tx ds) tf), ("pieces", .ref P)] s.heap) (hlt : 72 < L) (hG : L + 1 + 1 + 1 < G) (hGS : G < S) (hkc : kc < L ∨ S < kc) (hJ : S < J) (hY : S < Y) (hSP : S < P) (hPD : P < D) (hKD : kc < D)
  (hle : ns.length ≤ ss.length) (hns : ns.length ≤ 30) (hss : ss.length ≤ 30) (hlv : IntsAre lv ns) (hsv : IntsAre sv ss) (hb : ns = backL ns ss) :
  wpAny (model prog w) (callerA.deeper (lenv L fa)) (exec (loopSt 8) (lenv L fa)) (fun f s' => f = .next ∧ Kept (LSt h₀ L G S gv sv (some (.ref D)) [(D, W.listOf (List.toArray lv) cl), (P, W.listOf (List.toArray pv) c), (72, oT), (kc, oK), (J, oJ), (Y, oY)] [("script", .ref l), ("number", .int n tn), ("figures", .str (tx ds) tf), ("pieces", .ref P)]) s s') E s := by
  k_with_none
  k_with "eval ListComp" => (k_here; k_dflt (refine' sz_comp ?k0 ?k1 ?k2 ?k3 ?k4 ?k5 ?k6 ?k7 ?k8 ?k9 ?k10 ?k13 ?k14 ?k15 ?k11 ?k12 ?_; (case k0 => k_asm); (case k1 => k_asm); (case k2 => k_asm); (case k8 => k_asm); (case k9 => k_asm); (case k13 => k_mem); (case k15 => k_mem); (case k11 => assumption); (case k12 => assumption); (case k10 => k_mem); (case k14 => k_mem); (case k6 => with_reducible assumption); (case k7 => with_reducible assumption); (case k3 => omega); (case k4 => omega); (case k5 => omega)); intro D' h' ys' c' F' N' l1 hi' hw' tk'; (try k_lt l1); (try k_gentoks))
  unfold prog
  obtain ⟨m, o1, o2, o3, gn, sn, F, hp, N, d1, d2, d3⟩ := H
  replace F := Fr_pins _ F hp
  dsimp only [pinM] at F
  revert X
  k_fill
  intro X
  w_on
  w_top on
  unfold lenv
  conv in (occs := *) loopSt 8 => all_goals whnf
  conv in (occs := *) fScope lawS => all_goals whnf
  w_strict k_steps
  all_goals first
    | exact rfl
    | (refine ⟨_, _, rfl, _, _, _, _, ?n9, ?c9, by assumption, ?p9, News_sub (by assumption) ?w9, by assumption, by assumption, by assumption⟩; (case w9 => (repeat' (first | exact List.forall_mem_nil _ | (refine List.forall_mem_cons.mpr ⟨by k_mem, ?_⟩)))); (case p9 => (repeat' (first | exact List.forall_mem_nil _ | (refine List.forall_mem_cons.mpr ⟨rfl, ?_⟩)))))
    | skip
end Mine
end
section
open PySem PySem.W PyProof.Rows PySem.Calls PyProof.Rows.LCg
set_option maxRecDepth 100000
namespace Mine
def cmpLeft : Expr → Expr | .Compare e _ _ _ => e | _ => .Constant .none 0 default
def callArg : Expr → Nat → Expr | .Call _ as _ _, i => as.getD i (.Constant .none 0 default) | _, _ => .Constant .none 0 default
def lamBody : Expr → Expr | .Lambda _ b _ _ => b | _ => .Constant .none 0 default
def lamParams : Expr → Arguments | .Lambda a _ _ _ => a | _ => default
def lamScope : Expr → Scope | .Lambda _ _ s _ => s | _ => default
def lamPos : Expr → Pos | .Lambda _ _ _ p => p | _ => default
def lamE : Expr := callArg (cmpLeft (ifTest (loopSt 9))) 0
def lamObj (c' : Addr) (mg : Str → Option Value) (ctv : Value) : Obj := kla_obj "<lambda>" "law.<locals>.<lambda>" (lamParams lamE) (lamBody lamE) (lamScope lamE) [] ((mg "__name__").getD .none) c' ctv
def TabOk (oT : Obj) (kc : Nat) (oK : Obj) : Prop :=
  (oT = tabObj #[] ∧ kc = 72 ∧ oK = oT) ∨ (∃ vs t, oT = tabObj #[rawInt (lamPos lamE).line, rawInt (lamPos lamE).col, .ref kc] ∧ oK.data = .fields vs ∧ vs[1]? = some (.str "law.<locals>.<lambda>" t))
theorem lam_eval {w : World} {A : Around} {h₀ : Heap} {L fa kc : Nat} {mg mb : Str → Option Value} {mean : ExcName → Option Value} {loose : List Str} {s : Shared} {m : Str → Option Value} {oT oK : Obj} {news rest : List (Addr × Obj)}
  {Q : Value → Shared → Prop} {E : Value → Shared → Prop} (T : Top topProg loose mean mg mb h₀) (C : CodeHd h₀ 74 72) (K : TabOk oT kc oK) (F : Fr h₀ L s.heap m) (N : News h₀ L s.heap news)
  (hs : ∀ p ∈ (72, oT) :: (kc, oK) :: rest, p ∈ news) (h72 : ∀ p ∈ rest, p.1 ≠ 72)
  (h : ∀ (f kc' : Nat) oK' oT' ctv vs t h' tk, Fr h₀ L h' m → News h₀ L h' ((f, lamObj kc' mg ctv) :: (72, oT') :: (kc', oK') :: rest) → oK'.data = .fields vs → vs[1]? = some (.str "law.<locals>.<lambda>" t) → TabOk oT' kc' oK' →
    (∀ p ∈ rest, @LT.lt Nat _ p.1 f) → (kc' = kc ∨ ∀ p ∈ rest, @LT.lt Nat _ p.1 kc') → Q (.ref f) { s with heap := h', toks := tk }) :
  wpAny (model prog w) A (eval lamE (lenv L fa)) Q E s := by
  conv in (occs := *) eval lamE => all_goals (arg 1; whnf)
  refine kla_eval rfl ?_
  have N0 : News h₀ L s.heap ((72, oT) :: (kc, oK) :: rest) := fun p hp => N p (hs p hp)
  rcases K with ⟨rfl, rfl, rfl⟩ | ⟨vs, t, rfl, hd, hv⟩
  · have N1 : News h₀ L s.heap ((72, tabObj #[]) :: rest) := News_sub N0 (by intro p hp; rcases List.mem_cons.mp hp with rfl | hp <;> simp [*])
    refine kla_nest (clos := []) F N1 T C rfl (.head h72) True.intro rfl (by with_unfolding_all rfl) fun f c' oc vs t ctv h' tk F' N' hd' hv' l1 l2 => ?_
    refine h f c' oc _ ctv vs t h' tk F' (News_sub N' ?_) hd' hv' (.inr ⟨vs, t, rfl, hd', hv'⟩) (fun p hp => Nat.lt_trans (l1 p (.tail _ hp)) l2) (.inr fun p hp => l1 p (.tail _ hp))
    intro p hp
    simp only [List.mem_cons] at hp ⊢
    rcases hp with h | h | h | h
    · exact .inl h
    · exact .inr (.inr (.inl h))
    · exact .inr (.inl h)
    · exact .inr (.inr (.inr h))
  · refine kla_hit (clos := []) (c' := kc) F N0 T C rfl (.head _) True.intro ?_ (by with_unfolding_all rfl) fun f ctv h' tk F' N' l1 => ?_
    · show codeAmong (lamPos lamE) [rawInt (lamPos lamE).line, rawInt (lamPos lamE).col, .ref kc] = _
      simp [codeAmong, rawInt]
    · exact h f kc oK _ ctv vs t h' tk F' N' hd hv (.inr ⟨vs, t, rfl, hd, hv⟩) (fun p hp => l1 p (by simp [hp])) (.inl rfl)
end Mine
end
section
open PySem PySem.W PyProof.Rows PySem.Calls PyProof.Rows.LCg PySem.NumText
set_option maxRecDepth 100000
namespace Mine
def redS : Stmt := top 5
def redFor : Stmt := (fBody redS).getD 2 (.Pass default)
def redAsg : Stmt := (forBody redFor).getD 0 (.Pass default)
abbrev redEnv (L : Addr) : Env := envOf "reduce" (fScope redS) L 30 (.ref 29)
def RedT (g : Heap) (L' f I P : Nat) (v : Int) (news : List (Addr × Obj)) (s s' : Shared) : Prop :=
  ∃ m t, Kept (fun h' => Fr g L' h' m ∧ News g L' h' news ∧ m "function" = some (.ref f) ∧ m "it" = some (.ref I) ∧ m "value" = some (.int v t)) s s'
theorem mul_ok20 {v : Int} {k : Nat} (h0 : 0 ≤ v) (h1 : v < 10 ^ 20) (hk : k ≤ 20) : IntMulOk v (10 ^ (k : Int).toNat) := by
  have e1 : Builtin.Int.intBits v ≤ 80 := intBits_le_iff.mpr (by have : (10:Int)^20 < 2 ^ 80 := by decide
                                                                 omega)
  have e2 : Builtin.Int.intBits ((10 : Int) ^ (k : Int).toNat) ≤ 4 * (k : Int).toNat + 1 := intBits_pow_le (intBits_le_iff.mpr (by decide)) _
  exact IntMulOk.of_le e1 e2 (by omega)
set_option maxHeartbeats 8000000 in
theorem red_turn {w : World} {h₀ g : Heap} {L fa L' f I P kc : Nat} {mg mb : Str → Option Value} {mean : ExcName → Option Value} {loose : List Str} {s : Shared} {m : Str → Option Value}
  {ctv : Value} {oK oI oP : Obj} {vs : Array Value} {tl tv tq : Tok} {v u : Int} {q : List Nat} {rest : List (Addr × Obj)} {E : Value → Shared → Prop}
  (X : (hd.heap_39 w.params).In g) (T : Top topProg loose mean mg mb g) (B : Below (callerA.deeper (lenv L fa)) h₀ [lenv L fa] g) (C : CodeHd h₀ 74 72)
  (F : Fr g L' s.heap m) (p1 : m "function" = some (.ref f)) (p2 : m "it" = some (.ref I)) (p3 : m "value" = some (.int v tv)) (p4 : m "element" = some (.str (tx q) tq))
  (N : News g L' s.heap ((f, lamObj kc mg ctv) :: (kc, oK) :: (I, oI) :: (P, oP) :: rest)) (hd : oK.data = .fields vs) (hv : vs[1]? = some (.str "law.<locals>.<lambda>" tl))
  (hn : PySem.intText? (tx q) = some u) (hql : (tx q).length ≤ 20) (hv0 : 0 ≤ v) (hv1 : v < 10 ^ 20) :
  wpAny (model prog w) ((callerA.deeper (lenv L fa)).deeper (redEnv L')) (exec redAsg (redEnv L')) (fun fl s' => fl = .next ∧ RedT g L' f I P (v * 10 ^ q.length + u) ((f, lamObj kc mg ctv) :: (kc, oK) :: (I, oI) :: (P, oP) :: rest) s s') E s := by
  have hmo := mul_ok20 hv0 hv1 hql
  k_with_none
  k_with "binaryOp Mult int int" => (refine mul_int ?_ (by assumption))
  unfold prog
  replace F := Fr_pins [("function", .ref f), ("it", .ref I), ("value", .int v tv), ("element", .str (tx q) tq)] F (by (repeat' (first | exact List.forall_mem_nil _ | (refine List.forall_mem_cons.mpr ⟨by assumption, ?_⟩))))
  dsimp only [pinM] at F
  unfold lamObj at N ⊢
  revert X
  k_fill
  intro X
  w_on
  w_top on
  unfold lenv at B ⊢
  unfold redEnv
  conv in (occs := *) redAsg => all_goals whnf
  conv in (occs := *) fScope lawS => all_goals whnf
  conv in (occs := *) fScope redS => all_goals whnf
  conv at N in (occs := *) lamBody lamE => all_goals whnf
  conv at N in (occs := *) lamParams lamE => all_goals whnf
  conv at N in (occs := *) lamScope lamE => all_goals whnf
  conv at B in (occs := *) fScope lawS => all_goals whnf
  w_strict k_steps
  all_goals first
    | exact rfl
    | (rename Fr _ _ _ _ => F9
       rename News _ _ _ _ => N9
       rw [show v * 10 ^ q.length + u = v * 10 ^ (((tx q).length : Nat) : Int).toNat + u by rw [tx_len, Int.toNat_natCast]]
       exact ⟨_, _, _, _, rfl, F9, N9, rfl, rfl, rfl⟩)
end Mine
end
section
open PySem PySem.W PyProof.Rows PySem.Calls PyProof.Rows.LCg PySem.NumText
set_option maxRecDepth 100000
namespace Mine
theorem dv_foldl (b : List Nat) : ∀ a : Nat, b.foldl (fun acc c => acc * 10 + (c - 48)) a = a * 10 ^ b.length + digitsVal b := by
  induction b with
  | nil => intro a; simp [digitsVal]
  | cons c b ih =>
    intro a
    have e : digitsVal (c :: b) = (0 * 10 + (c - 48)) * 10 ^ b.length + digitsVal b := ih (0 * 10 + (c - 48))
    rw [List.foldl_cons, ih, e, List.length_cons, Nat.pow_succ, Nat.add_mul, Nat.zero_mul, Nat.zero_add, Nat.add_assoc, Nat.mul_assoc, Nat.mul_comm 10]
theorem dv_app (a b : List Nat) : digitsVal (a ++ b) = digitsVal a * 10 ^ b.length + digitsVal b := by
  show (a ++ b).foldl _ 0 = _
  rw [List.foldl_append]
  exact dv_foldl b _
theorem dv_lt : ∀ ds : List Nat, AllDigits ds → digitsVal ds < 10 ^ ds.length := by
  intro ds
  induction ds with
  | nil => intro _; decide
  | cons c b ih =>
    intro h
    have e : digitsVal (c :: b) = (0 * 10 + (c - 48)) * 10 ^ b.length + digitsVal b := dv_foldl b (0 * 10 + (c - 48))
    have h1 := ih h.tail
    have h2 := h.head
    rw [e, List.length_cons, Nat.pow_succ]
    have h3 : (0 * 10 + (c - 48)) * 10 ^ b.length ≤ 9 * 10 ^ b.length := Nat.mul_le_mul_right _ (by omega)
    omega
theorem int_of_digits {q : List Nat} (h : AllDigits q) (hne : q ≠ []) (hl : q.length ≤ 20) : PySem.intText? (tx q) = some ((digitsVal q : Nat) : Int) := by
  have := intText_digits (x := tx q) (by rw [tx_cps]; exact h) (by rw [tx_cps]; exact hne) (by rw [tx_len]; omega)
  rw [tx_cps] at this; exact this
abbrev iterObj (P i : Nat) : Obj := { cls := .type "list_iterator", data := .fields #[.ref P, .int (i : Nat) 0] }
theorem iterL_K {w : World} {A : Around} {E : Value → Shared → Prop} {s : Shared} {h₀ : Heap} {L P : Nat} {m : Str → Option Value} {news : List (Addr × Obj)} {vs : List Value} {c : Nat} {Q : Value → Shared → Prop}
    (F : Fr h₀ L s.heap m) (N : News h₀ L s.heap news) (hm : (P, W.listOf (List.toArray vs) c) ∈ news)
    (h : ∀ (I : Nat) h', Fr h₀ L h' m → News h₀ L h' ((I, iterObj P 0) :: news) → (∀ p ∈ news, @LT.lt Nat _ p.1 I) → Q (.ref I) { s with heap := h' }) :
    wpAny (model prog w) A (call (.builtin "iter") [.ref P]) Q E s := by
  refine call_function_entry (by decide +kernel) (by decide +kernel) kdk_entry_iter (kdk_args_iter _) ?_
  unfold Builtin.«iter»
  refine wpAny_bind (m := someArgs "iter" 1 2 _) (wpAny_of_eq (a := [Value.ref P]) (by first | rfl | kernel_rfl!) ?_)
  show wpAny _ _ (pyIter (.ref P) >>= _) _ _ _
  refine wpAny_bind (wpAny_pyIter_list (items := vs.toArray) ⟨_, (N _ hm).1, rfl, c, rfl⟩ ?_)
  exact wpAny_pure ⟨_, rfl, h _ _ (F.push _) (News.push F N _ rfl) (fun q hq => Heap.lt_size (N q hq).1)⟩
theorem take_flat (ps : List (List Nat)) {i : Nat} {q : List Nat} (h : ps[i]? = some q) : (ps.take (i + 1)).flatten = (ps.take i).flatten ++ q := by
  rw [List.take_add_one, h]; simp
set_option maxHeartbeats 8000000 in
theorem red_for {w : World} {h₀ g : Heap} {L fa L' f I P kc : Nat} {mg mb : Str → Option Value} {mean : ExcName → Option Value} {loose : List Str} {s : Shared} {m : Str → Option Value}
  {ctv : Value} {oK : Obj} {vs : Array Value} {tl tv : Tok} {ps : List (List Nat)} {pv : List Value} {c : Nat} {rest : List (Addr × Obj)} {Q : Flow → Shared → Prop} {E : Value → Shared → Prop}
  (X : (hd.heap_39 w.params).In g) (T : Top topProg loose mean mg mb g) (B : Below (callerA.deeper (lenv L fa)) h₀ [lenv L fa] g) (C : CodeHd h₀ 74 72)
  (F : Fr g L' s.heap m) (p1 : m "function" = some (.ref f)) (p2 : m "it" = some (.ref I)) (p3 : m "value" = some (.int 0 tv))
  (N : News g L' s.heap ((f, lamObj kc mg ctv) :: (kc, oK) :: (I, iterObj P 0) :: (P, W.listOf (List.toArray pv) c) :: rest)) (hd : oK.data = .fields vs) (hv : vs[1]? = some (.str "law.<locals>.<lambda>" tl))
  (hI : f ≠ I ∧ kc ≠ I ∧ P ≠ I) (hIr : ∀ p ∈ rest, p.1 ≠ I)
  (hps : StrsAre pv (ps.map tx)) (hdig : ∀ q ∈ ps, AllDigits q ∧ q ≠ []) (hfl : ps.flatten.length ≤ 20)
  (h : ∀ h' tk m' t, Fr g L' h' m' → News g L' h' ((f, lamObj kc mg ctv) :: (kc, oK) :: (P, W.listOf (List.toArray pv) c) :: rest) → m' "value" = some (.int ((digitsVal ps.flatten : Nat) : Int) t) → Q .next { s with heap := h', toks := tk }) :
  wpAny (model prog w) ((callerA.deeper (lenv L fa)).deeper (redEnv L')) (exec redFor (redEnv L')) Q E s := by
  conv in (occs := *) exec redFor => all_goals (arg 1; whnf)
  have hlen := strsAre_len hps
  rw [List.length_map] at hlen
  have hit0 : s.heap.IsListIter I P 0 := ⟨_, (N (I, iterObj P 0) (by simp)).1, rfl, rfl⟩
  have N0 := N (I, iterObj P 0) (by simp)
  refine wpAny_For (wpAny_Name (wpAny_loadName_local (by rfl) (by rfl) F.ns p2 ?_))
  refine wpAny_pyIter_listiter hit0 ?_
  refine codeAny_forLoop (fun k s' => ∃ i m' tv' h' tk, i ≤ ps.length ∧ k = ps.length - i ∧ s' = { s with heap := h', toks := tk } ∧ m' "function" = some (.ref f) ∧ m' "it" = some (.ref I) ∧ m' "value" = some (.int ((digitsVal (ps.take i).flatten : Nat) : Int) tv') ∧
    Fr g L' h' m' ∧ ∃ oI, oI.cls = .type "list_iterator" ∧ oI.data = .fields #[.ref P, .int (i : Nat) 0] ∧ News g L' h' ((f, lamObj kc mg ctv) :: (kc, oK) :: (I, oI) :: (P, W.listOf (List.toArray pv) c) :: rest)) ?_ ps.length
    ⟨0, m, tv, _, _, Nat.zero_le _, rfl, rfl, p1, p2, p3, F, _, rfl, rfl, N⟩
  rintro k s' ⟨i, m', tv', h', tk, hi, rfl, rfl, q1, q2, q3, F', oI, c1, c2, N'⟩
  have hN := N' (I, oI) (by simp)
  have hit : h'.IsListIter I P i := ⟨oI, hN.1, c1, c2⟩
  have hPl : h'.IsList P pv.toArray := ⟨_, (N' (P, W.listOf (List.toArray pv) c) (by simp)).1, rfl, c, rfl⟩
  by_cases hlt : i < ps.length
  · obtain ⟨q, hq⟩ : ∃ q, ps[i]? = some q := ⟨_, List.getElem?_eq_getElem hlt⟩
    obtain ⟨tq, htq⟩ := hps.get i (tx q) (by rw [List.getElem?_map, hq]; rfl)
    refine wpAny_pyNext_list_item hit hPl (x := .str (tx q) tq) (by simpa using htq) fun h₁ hit₁ hs₁ => ?_
    obtain ⟨oI₁, ho₁, hc1', hc2'⟩ := hit₁
    have F₁ := F'.change hs₁ hN.2.1 hN.2.2
    have N₁ : News g L' h₁ ((f, lamObj kc mg ctv) :: (kc, oK) :: (I, oI₁) :: (P, W.listOf (List.toArray pv) c) :: rest) := by
      have keep : ∀ p ∈ (f, lamObj kc mg ctv) :: (kc, oK) :: (I, oI) :: (P, W.listOf (List.toArray pv) c) :: rest, p.1 ≠ I → h₁.get? p.1 = some p.2 ∧ p.1 ≠ L' ∧ g.get? p.1 = none :=
        fun p hp hn => ⟨(hs₁.2 _ hn).trans (N' p hp).1, (N' p hp).2⟩
      intro p hp
      simp only [List.mem_cons] at hp
      rcases hp with rfl | rfl | rfl | rfl | hp
      · exact keep _ (by simp) hI.1
      · exact keep _ (by simp) hI.2.1
      · exact ⟨ho₁, hN.2⟩
      · exact keep _ (by simp) hI.2.2
      · exact keep p (by simp [hp]) (hIr p hp)
    show wpAny _ _ (assign (.Name (Str.ofString "element") _) (redEnv L') _) _ _ _
    refine wpAny_assign_Name (wpAny_storeName_local (by rfl) F₁.ns (fun h₂ hn₂ hs₂ => ?_) (by rfl))
    have F₂ := F₁.set hn₂ hs₂
    have N₂ := N₁.set hs₂
    have hqm : q ∈ ps := List.mem_of_getElem? hq
    have hsub : (ps.take i).flatten.length + q.length ≤ 20 := by
      rw [← List.length_append, ← take_flat ps hq]
      refine Nat.le_trans ?_ hfl
      conv => rhs; rw [← List.take_append_drop (i + 1) ps, List.flatten_append, List.length_append]
      omega
    have hdt : AllDigits (ps.take i).flatten := by
      intro d hd'
      obtain ⟨y, hy, hy'⟩ := List.mem_flatten.mp hd'
      exact (hdig y (List.mem_of_mem_take hy)).1 d hy'
    have hb : digitsVal (ps.take i).flatten < 10 ^ 20 := Nat.lt_of_lt_of_le (dv_lt _ hdt) (Nat.pow_le_pow_right (by decide) (by omega))
    refine wpAny_execs_cons (wpAny_mono (red_turn (v := ((digitsVal (ps.take i).flatten : Nat) : Int)) (u := ((digitsVal q : Nat) : Int)) (q := q) (tq := tq) (tv := tv') X T B C F₂ ((if_neg (by decide)).trans q1) ((if_neg (by decide)).trans q2) ((if_neg (by decide)).trans q3) (if_pos rfl) N₂ hd hv
      (int_of_digits (hdig q hqm).1 (hdig q hqm).2 (by omega)) (by rw [tx_len]; omega) (by omega) (by omega)) (fun fl s₃ h₃ => ?_) fun _ _ e => e)
    obtain ⟨rfl, m₃, t₃, h₃, tk₃, rfl, F₃, N₃, r1, r2, r3⟩ := h₃
    refine wpAny_execs_nil ?_
    refine ⟨ps.length - (i + 1), by omega, i + 1, m₃, t₃, h₃, _, hlt, rfl, rfl, r1, r2, ?_, F₃, oI₁, hc1', hc2', N₃⟩
    rw [r3, take_flat ps hq, dv_app]
    congr 2
  · have hin : i = ps.length := by omega
    subst hin
    refine wpAny_pyNext_list_end rfl hit hPl (by simp [hlen]) fun h₁ hx₁ => ?_
    refine wpAny_execs_nil ?_
    refine h h₁ _ m' tv' ⟨F'.ns.at' fun o e => hx₁ L' o (Ne.symm hN.2.1) e, fun b o e => hx₁ b o (fun q => by rw [q, hN.2.2] at e; cases e) (F'.keep b o e), F'.above⟩ ?_ (by rw [List.take_length] at q3; exact q3)
    have keep : ∀ p ∈ (f, lamObj kc mg ctv) :: (kc, oK) :: (I, oI) :: (P, W.listOf (List.toArray pv) c) :: rest, p.1 ≠ I → h₁.get? p.1 = some p.2 ∧ p.1 ≠ L' ∧ g.get? p.1 = none :=
        fun p hp hn => ⟨hx₁ _ _ hn (N' p hp).1, (N' p hp).2⟩
    intro p hp
    simp only [List.mem_cons] at hp
    rcases hp with rfl | rfl | rfl | hp
    · exact keep _ (by simp) hI.1
    · exact keep _ (by simp) hI.2.1
    · exact keep _ (by simp) hI.2.2
    · exact keep p (by simp [hp]) (hIr p hp)
theorem red_for9 {w : World} {h₀ g : Heap} {L fa L' f I P kc J Y : Nat} {mg mb : Str → Option Value} {mean : ExcName → Option Value} {loose : List Str} {s : Shared} {m : Str → Option Value}
  {ctv : Value} {oT oK oJ oY : Obj} {vs : Array Value} {tl tv : Tok} {ps : List (List Nat)} {pv : List Value} {c : Nat} {b1 b2 b3 b4 b5 b6 : Nat} {x1 x2 x3 x4 x5 x6 : Obj} {Q : Flow → Shared → Prop} {E : Value → Shared → Prop}
  (X : (hd.heap_39 w.params).In g) (T : Top topProg loose mean mg mb g) (B : Below (callerA.deeper (lenv L fa)) h₀ [lenv L fa] g) (C : CodeHd h₀ 74 72)
  (F : Fr g L' s.heap m) (p1 : m "function" = some (.ref f)) (p2 : m "it" = some (.ref I)) (p3 : m "value" = some (.int 0 tv))
  (N : News g L' s.heap [(I, iterObj P 0), (f, lamObj kc mg ctv), (72, oT), (kc, oK), (b1, x1), (b2, x2), (b3, x3), (b4, x4), (b5, x5), (b6, x6), (P, W.listOf (List.toArray pv) c), (J, oJ), (Y, oY)]) (hd : oK.data = .fields vs) (hv : vs[1]? = some (.str "law.<locals>.<lambda>" tl))
  (hI : f < I ∧ 72 < I ∧ kc < I ∧ b1 < I ∧ b2 < I ∧ b3 < I ∧ b4 < I ∧ b5 < I ∧ b6 < I ∧ P < I ∧ J < I ∧ Y < I)
  (hps : StrsAre pv (ps.map tx)) (hdig : ∀ q ∈ ps, AllDigits q ∧ q ≠ []) (hfl : ps.flatten.length ≤ 20)
  (h : ∀ h' tk m' t, Fr g L' h' m' → News g L' h' [(f, lamObj kc mg ctv), (72, oT), (kc, oK), (b1, x1), (b2, x2), (b3, x3), (b4, x4), (b5, x5), (b6, x6), (P, W.listOf (List.toArray pv) c), (J, oJ), (Y, oY)] → m' "value" = some (.int ((digitsVal ps.flatten : Nat) : Int) t) → Q .next { s with heap := h', toks := tk }) :
  wpAny (model prog w) ((callerA.deeper (lenv L fa)).deeper (redEnv L')) (exec redFor (redEnv L')) Q E s := by
  obtain ⟨q1, q2, q3, q4, q5, q6, q7, q8, q9, q10, q11, q12⟩ := hI
  refine red_for (rest := [(72, oT), (b1, x1), (b2, x2), (b3, x3), (b4, x4), (b5, x5), (b6, x6), (J, oJ), (Y, oY)]) X T B C F p1 p2 p3 (News_sub N (by (repeat' (first | exact List.forall_mem_nil _ | (refine List.forall_mem_cons.mpr ⟨by k_mem, ?_⟩))))) hd hv ⟨Nat.ne_of_lt q1, Nat.ne_of_lt q3, Nat.ne_of_lt q10⟩ ?_ hps hdig hfl ?_
  · intro p hp
    simp only [List.mem_cons, List.not_mem_nil, or_false] at hp
    rcases hp with rfl | rfl | rfl | rfl | rfl | rfl | rfl | rfl | rfl <;> exact Nat.ne_of_lt (by assumption)
  · intro h' tk m' t F' N' hv'
    exact h h' tk m' t F' (News_sub N' (by (repeat' (first | exact List.forall_mem_nil _ | (refine List.forall_mem_cons.mpr ⟨by k_mem, ?_⟩))))) hv'
end Mine
end
section
open PySem PySem.W PyProof.Rows PySem.Calls PyProof.Rows.LCg PySem.NumText
set_option maxRecDepth 100000
namespace Mine
def RedEnd (h₀ : Heap) (L G S J Y : Nat) (gv sv : List Value) (x3 : Option Value) (oJ oY : Obj) (own : List (Addr × Obj)) (pins : List (Str × Value)) (s s' : Shared) : Prop :=
  ∃ kc : Nat, ∃ oT oK, TabOk oT kc oK ∧ (kc < L ∨ S < kc) ∧ Kept (LSt h₀ L G S gv sv x3 (own ++ [(72, oT), (kc, oK), (J, oJ), (Y, oY)]) pins) s s'
theorem lam7 {w : World} {A : Around} {h₀ : Heap} {L fa kc J Y : Nat} {mg mb : Str → Option Value} {mean : ExcName → Option Value} {loose : List Str} {s : Shared} {m : Str → Option Value} {oT oK oJ oY : Obj} {b1 b2 b3 b4 b5 b6 b7 : Nat} {x1 x2 x3 x4 x5 x6 x7 : Obj}
  {Q : Value → Shared → Prop} {E : Value → Shared → Prop} (T : Top topProg loose mean mg mb h₀) (C : CodeHd h₀ 74 72) (K : TabOk oT kc oK) (F : Fr h₀ L s.heap m) (N : News h₀ L s.heap [(b1, x1), (b2, x2), (b3, x3), (b4, x4), (b5, x5), (b6, x6), (b7, x7), (72, oT), (kc, oK), (J, oJ), (Y, oY)])
  (h72 : b1 ≠ 72 ∧ b2 ≠ 72 ∧ b3 ≠ 72 ∧ b4 ≠ 72 ∧ b5 ≠ 72 ∧ b6 ≠ 72 ∧ b7 ≠ 72 ∧ J ≠ 72 ∧ Y ≠ 72)
  (h : ∀ (f kc' : Nat) oK' oT' ctv vs t h' tk, Fr h₀ L h' m → News h₀ L h' [(f, lamObj kc' mg ctv), (72, oT'), (kc', oK'), (b1, x1), (b2, x2), (b3, x3), (b4, x4), (b5, x5), (b6, x6), (b7, x7), (J, oJ), (Y, oY)] → oK'.data = .fields vs → vs[1]? = some (.str "law.<locals>.<lambda>" t) → TabOk oT' kc' oK' →
    (b1 < f ∧ b2 < f ∧ b3 < f ∧ b4 < f ∧ b5 < f ∧ b6 < f ∧ b7 < f) → (kc' = kc ∨ b1 < kc') → Q (.ref f) { s with heap := h', toks := tk }) :
  wpAny (model prog w) A (eval lamE (lenv L fa)) Q E s :=
  lam_eval (rest := [(b1, x1), (b2, x2), (b3, x3), (b4, x4), (b5, x5), (b6, x6), (b7, x7), (J, oJ), (Y, oY)]) T C K F N (by (repeat' (first | exact List.forall_mem_nil _ | (refine List.forall_mem_cons.mpr ⟨by k_mem, ?_⟩))))
    (by
      obtain ⟨q1, q2, q3, q4, q5, q6, q7, q8, q9⟩ := h72
      intro p hp; simp only [List.mem_cons, List.not_mem_nil, or_false] at hp
      rcases hp with rfl | rfl | rfl | rfl | rfl | rfl | rfl | rfl | rfl <;> assumption)
    (fun f kc' oK' oT' ctv vs t h' tk F' N' e1 e2 e3 l1 l2 => h f kc' oK' oT' ctv vs t h' tk F' N' e1 e2 e3
      ⟨l1 (b1, x1) (by simp), l1 (b2, x2) (by simp), l1 (b3, x3) (by simp), l1 (b4, x4) (by simp), l1 (b5, x5) (by simp), l1 (b6, x6) (by simp), l1 (b7, x7) (by simp)⟩ (l2.imp id fun q => q (b1, x1) (by simp)))
set_option maxHeartbeats 8000000 in
theorem b9 {w : World} {h₀ : Heap} {L fa l G S P D kc J Y : Nat} {mg mb : Str → Option Value} {mean : ExcName → Option Value} {loose : List Str} {s : Shared}
  {gv sv pv lv : List Value} {ps : List (List Nat)} {ds : List Nat} {c cl : Nat} {oT oK oJ oY : Obj} {n : Int} {tn tf : Tok} {E : Value → Shared → Prop}
  (X : (hd.heap_39 w.params).In h₀) (T : Top topProg loose mean mg mb h₀) (B : Below callerA h₀ [] h₀) (C : CodeHd h₀ 74 72)
  (H : LSt h₀ L G S gv sv (some (.ref D)) [(D, W.listOf (List.toArray lv) cl), (P, W.listOf (List.toArray pv) c), (72, oT), (kc, oK), (J, oJ), (Y, oY)] [("script", .ref l), ("number", .int n tn), ("figures", .str (tx ds) tf), ("pieces", .ref P)] s.heap) (hlt : 72 < L) (hG : L + 1 + 1 + 1 < G) (hGS : G < S) (hkc : kc < L ∨ S < kc) (hJ : S < J) (hY : S < Y) (hSP : S < P) (hPD : P < D) (hKD : kc < D)
  (K : TabOk oT kc oK) (hps : StrsAre pv (ps.map tx)) (hpl : pv.length ≤ 50) (hdig : ∀ q ∈ ps, AllDigits q ∧ q ≠ []) (hfl : ps.flatten.length ≤ 20) (hval : ((digitsVal ps.flatten : Nat) : Int) = n) :
  wpAny (model prog w) (callerA.deeper (lenv L fa)) (exec (loopSt 9) (lenv L fa)) (fun f s' => f = .next ∧ RedEnd h₀ L G S J Y gv sv (some (.ref D)) oJ oY [(D, W.listOf (List.toArray lv) cl), (P, W.listOf (List.toArray pv) c)] [("script", .ref l), ("number", .int n tn), ("figures", .str (tx ds) tf), ("pieces", .ref P)] s s') E s := by
  k_with_none
  k_with "eval Lambda" => (k_here; (rename TabOk _ _ _ => K9); k_dflt (refine' lam7 ?k1 ?kC K9 ?kF ?kN ?k3 ?_; (case k1 => k_asm); (case kC => assumption); (case kF => k_asm); (case kN => k_asm); (case k3 => omega); k_whole); clear K9; intro f' kc' oK' oT' ctv' vs' t' h' tk' F' N' hd' hv' K' l1 l2; (obtain ⟨l11, l12, l13, l14, l15, l16, l17⟩ := l1))
  k_with "compareOp Is int ref" => (k_here; refine wpAny_is_other (by rfl) (by intro x; cases x) ?_)
  k_with "call builtin:iter" => (k_here; k_dflt (refine' iterL_K ?k1 ?k2 ?k3 ?_; (case k1 => k_asm); (case k2 => k_asm); (case k3 => k_mem); k_whole); intro I' h' F' N' l1; (try k_lt l1))
  k_with "exec For Name Name cons nil" => (k_here; k_dflt (refine' red_for9 ?kX ?kT ?kB ?kC ?kF ?p1 ?p2 ?p3 ?kN ?kd ?kv ?kI ?k1 ?k2 ?k3 ?_; (case kX => k_asm); (case kT => k_asm); (case kB => k_asm); (case kC => assumption); (case kF => k_asm); (case kN => k_asm); (case kd => assumption); (case kv => assumption); (case p1 => rfl); (case p2 => rfl); (case p3 => rfl); (case kI => omega); (case k1 => assumption); (case k2 => assumption); (case k3 => assumption); k_whole); intro h' tk' m' t' F' N' hv'; (replace F' := Fr_pins [(Str.ofString "value", _)] F' (by (repeat' (first | exact List.forall_mem_nil _ | (refine List.forall_mem_cons.mpr ⟨by assumption, ?_⟩))))); dsimp only [pinM] at F')
  unfold prog
  obtain ⟨m, o1, o2, o3, gn, sn, F, hp, N, d1, d2, d3⟩ := H
  replace F := Fr_pins _ F hp
  dsimp only [pinM] at F
  revert X
  k_fill
  intro X
  w_on
  w_top on
  unfold lenv
  conv in (occs := *) loopSt 9 => all_goals whnf
  conv in (occs := *) fScope lawS => all_goals whnf
  w_strict k_steps
  all_goals first
    | exact rfl
    | (exfalso; exact absurd hval (by assumption))
    | (rename TabOk _ _ _ => K9
       rename Fr _ _ _ _ => F9
       rename News _ _ _ _ => N9
       refine ⟨_, _, _, K9, ?k8, ?l8⟩
       (case k8 => omega)
       (case l8 => (refine ⟨_, _, rfl, _, o1, o2, o3, ?n8, ?c8, F9, ?p8, News_sub N9 ?w8, d1, d2, d3⟩; (case w8 => (repeat' (first | exact List.forall_mem_nil _ | (refine List.forall_mem_cons.mpr ⟨by k_mem, ?_⟩)))); (case p8 => (repeat' (first | exact List.forall_mem_nil _ | (refine List.forall_mem_cons.mpr ⟨rfl, ?_⟩)))))))
end Mine
end
section
open PySem PySem.W PyProof.Rows PySem.Calls PyProof.Rows.LCg PySem.NumText
set_option maxRecDepth 100000
namespace Mine
theorem lastT_K {w : World} {A : Around} {E : Value → Shared → Prop} {s : Shared} {h₀ : Heap} {L : Addr} {news : List (Addr × Obj)} {value slice : PySem.Expr} {P : Addr} {pv : List Value} {ps : List (List Nat)} {c : Nat} {u : Tok} {Q : Value → Shared → Prop}
    (N : News h₀ L s.heap news) (hm : (P, W.listOf (List.toArray pv) c) ∈ news) (hps : StrsAre pv (ps.map tx)) (hp1 : 1 ≤ ps.length) (hl : pv.length = ps.length) (hz : pv.length ≤ 50)
    (h : ∀ t', Q (.str (tx (ps.getD (ps.length - 1) [])) t') s)
    (hs : subscripted slice false (.ref P) (.int (((List.toArray pv).size : Int) - 1) u) = operate [.ref P, .int (((List.toArray pv).size : Int) - 1) u] (getItem (.ref P) (.int (((List.toArray pv).size : Int) - 1) u))) (hg : ∀ r, letTemporaryGo value (.ref P) r = pure ()) :
    wpAny (model prog w) A (subscriptTail value slice (.ref P) (.int (((List.toArray pv).size : Int) - 1) u)) Q E s := by
  have e : (List.toArray pv).size = ps.length := by rw [List.size_toArray, hl]
  refine item_strsA ⟨_, (N _ hm).1, rfl, c, rfl⟩ hps (by omega) (by rw [List.length_map]; omega) (by omega) (fun t' => ?_) hs hg
  have e2 : (ps.map tx).getD ((((List.toArray pv).size : Int) - 1).toNat) Str.empty = tx (ps.getD (ps.length - 1) []) := by
    rw [show (((List.toArray pv).size : Int) - 1).toNat = ps.length - 1 by omega]
    have hlt : ps.length - 1 < ps.length := by omega
    simp [List.getD, List.getElem?_map, List.getElem?_eq_getElem hlt]
  rw [e2]; exact h t'
theorem firstI_K {w : World} {A : Around} {E : Value → Shared → Prop} {s : Shared} {h₀ : Heap} {L : Addr} {news : List (Addr × Obj)} {value slice : PySem.Expr} {P : Addr} {sv : List Value} {ss : List Int} {c : Nat} {u : Tok} {Q : Value → Shared → Prop}
    (N : News h₀ L s.heap news) (hm : (P, W.listOf (List.toArray sv) c) ∈ news) (hi : IntsAre sv ss) (hd : decide (ss = []) = false)
    (h : ∀ t', Q (.int (ss.getD 0 0) t') s)
    (hs : subscripted slice false (.ref P) (.int 0 u) = operate [.ref P, .int 0 u] (getItem (.ref P) (.int 0 u))) (hg : ∀ r, letTemporaryGo value (.ref P) r = pure ()) :
    wpAny (model prog w) A (subscriptTail value slice (.ref P) (.int 0 u)) Q E s := by
  have hne : ss ≠ [] := of_decide_eq_false hd
  have h1 : (0 : Int) < ss.length := by
    have := List.length_pos_iff.mpr hne
    omega
  exact item_list_ints ⟨_, (N _ hm).1, rfl, c, rfl⟩ hi (by decide) h1 (by decide) (fun t' => h t') hs hg
theorem pow10_ne (k : Nat) : (10 : Int) ^ k ≠ 0 := Int.ne_of_gt (Int.pow_pos (by decide))
set_option maxHeartbeats 8000000 in
theorem b10 {w : World} {h₀ : Heap} {L fa l G S P D kc J Y : Nat} {mg mb : Str → Option Value} {mean : ExcName → Option Value} {loose : List Str} {s : Shared}
  {gv sv pv lv : List Value} {ps : List (List Nat)} {ds : List Nat} {ss : List Int} {c cl : Nat} {oT oK oJ oY : Obj} {n u : Int} {tn tf : Tok} {E : Value → Shared → Prop}
  (X : (hd.heap_39 w.params).In h₀) (T : Top topProg loose mean mg mb h₀) (B : Below callerA h₀ [] h₀)
  (H : LSt h₀ L G S gv sv (some (.ref D)) [(D, W.listOf (List.toArray lv) cl), (P, W.listOf (List.toArray pv) c), (72, oT), (kc, oK), (J, oJ), (Y, oY)] [("script", .ref l), ("number", .int n tn), ("figures", .str (tx ds) tf), ("pieces", .ref P)] s.heap) (hlt : 72 < L) (hG : L + 1 + 1 + 1 < G) (hGS : G < S) (hkc : kc < L ∨ S < kc) (hJ : S < J) (hY : S < Y) (hSP : S < P) (hPD : P < D)
  (hps : StrsAre pv (ps.map tx)) (hpl : pv.length ≤ 50) (hp1 : 1 ≤ ps.length) (hsv : IntsAre sv ss) (hss : ss.length ≤ 30) (hs1 : ∀ z ∈ ss, 1 ≤ z ∧ z ≤ 3)
  (hn : PySem.intText? (tx (ps.getD (ps.length - 1) [])) = some u) (hql : (tx (ps.getD (ps.length - 1) [])).length ≤ 20) (hmod : ss ≠ [] → u = n.fmod (10 ^ (ss.getD 0 0).toNat)) (hn0 : 0 ≤ n) (hn1 : n < 10 ^ 20) :
  wpAny (model prog w) (callerA.deeper (lenv L fa)) (exec (loopSt 10) (lenv L fa)) (fun f s' => f = .next ∧ Kept (LSt h₀ L G S gv sv (some (.ref D)) [(D, W.listOf (List.toArray lv) cl), (P, W.listOf (List.toArray pv) c), (72, oT), (kc, oK), (J, oJ), (Y, oY)] [("script", .ref l), ("number", .int n tn), ("figures", .str (tx ds) tf), ("pieces", .ref P)]) s s') E s := by
  have hl1 := strsAre_len hps
  rw [List.length_map] at hl1
  have hz : 0 ≤ ss.getD 0 0 ∧ ss.getD 0 0 ≤ 3 := by
    cases ss with
    | nil => decide
    | cons z r => have := hs1 z (.head _); show 0 ≤ z ∧ z ≤ 3; omega
  obtain ⟨hz0, hz3⟩ := hz
  k_with_none
  k_with "call builtin:len" => (k_here; k_dflt (refine' len_raw ?k1 ?k2 ?z ?_; (case k1 => k_asm); (case k2 => k_mem); (case z => (rw [List.size_toArray]; omega)); k_whole))
  k_with "subscriptTail Name BinOp ref int" => (k_here; k_dflt (refine' lastT_K ?k1 ?k2 ?k3 ?k4 ?k5 ?k6 ?_ ?s ?t; (case k1 => k_asm); (case k2 => k_mem); (case k3 => assumption); (case k4 => assumption); (case k5 => assumption); (case k6 => assumption); (case s => with_unfolding_all rfl); (case t => (intro _; with_unfolding_all rfl))); intro t')
  k_with "subscriptTail Name Constant ref int" => (k_here; k_dflt (refine' firstI_K ?k1 ?k2 ?k3 ?k4 ?_ ?s ?t; (case k1 => k_asm); (case k2 => k_mem); (case k3 => assumption); (case k4 => assumption); (case s => with_unfolding_all rfl); (case t => (intro _; with_unfolding_all rfl))); intro t')
  k_with "binaryOp Mod int int" => (k_here; refine mod_int' (pow10_ne _) ?_)
  unfold prog
  obtain ⟨m, o1, o2, o3, gn, sn, F, hp, N, d1, d2, d3⟩ := H
  replace F := Fr_pins _ F hp
  dsimp only [pinM] at F
  revert X
  k_fill
  intro X
  w_on
  w_top on
  unfold lenv
  conv in (occs := *) loopSt 10 => all_goals whnf
  conv in (occs := *) fScope lawS => all_goals whnf
  w_strict k_steps
  all_goals first
    | exact rfl
    | (exfalso; exact absurd (hmod (of_decide_eq_false (by assumption))) (by assumption))
    | (refine ⟨_, _, rfl, _, _, _, _, ?n9, ?c9, by assumption, ?p9, News_sub (by assumption) ?w9, by assumption, by assumption, by assumption⟩; (case w9 => (repeat' (first | exact List.forall_mem_nil _ | (refine List.forall_mem_cons.mpr ⟨by k_mem, ?_⟩)))); (case p9 => (repeat' (first | exact List.forall_mem_nil _ | (refine List.forall_mem_cons.mpr ⟨rfl, ?_⟩)))))
end Mine
end
section
open PySem PySem.W PyProof.Rows PySem.Calls PyProof.Rows.LCg PySem.NumText
set_option maxRecDepth 100000
namespace Mine
theorem pow10_log {z : Int} (h0 : 0 ≤ z) (h3 : z ≤ 3) : ((10 : Int) ^ z.toNat).natAbs.log2 < 9000 := by
  have h : z = 0 ∨ z = 1 ∨ z = 2 ∨ z = 3 := by omega
  rcases h with rfl | rfl | rfl | rfl <;> decide +kernel
theorem add0_K {w : World} {A : Around} {E : Value → Shared → Prop} {s : Shared} {r : List Nat} {t u : Tok} {Q : Value → Shared → Prop} (hz : r.length ≤ 100) (h : ∀ t' tk, Q (.str (Str.ofString "0" ++ tx r) t') { s with toks := tk }) :
    wpAny (model prog w) A (binaryOp .Add (.str (Str.ofString "0") t) (.str (tx r) u)) Q E s :=
  PyProof.Rows.add_str h (by rw [sizeLine_eq, tx_len, show (Str.ofString "0").length = 1 from rfl]; omega)
theorem pow10_K {w : World} {A : Around} {E : Value → Shared → Prop} {s : Shared} {z : Int} {t u : Tok} {Q : Value → Shared → Prop} (h0 : 0 ≤ z) (h3 : z ≤ 3) (h : Q (.int (10 ^ z.toNat) s.toks) { s with toks := s.toks + 1 }) :
    wpAny (model prog w) A (binaryOp .Pow (.int 10 t) (.int z u)) Q E s :=
  pow_int h0 (by rw [show (Builtin.Int.intBits 10 : Int) = 4 by decide +kernel]; omega) h
theorem uptoS_K {prog : Program} {w : World} {A : Around} {E : Value → Shared → Prop} {h₀ : Heap} {L : Addr} {m : Str → Option Value} {news : List (Addr × Obj)} {value slice : PySem.Expr} {l : Addr} {pv : List Value} {ps : List (List Nat)} {t : Tok} {n : Nat} {Q : Value → Shared → Prop} {hp : Heap} {gens : Array GenState} {drawn : Drawn} {tk : Nat} {os : OsState}
    (F : Fr h₀ L hp m) (N : News h₀ L hp news) (hm : (l, W.listOf (List.toArray pv) n) ∈ news) (hps : StrsAre pv (ps.map tx)) (hp1 : 1 ≤ ps.length) (hl : pv.length = ps.length) (hz : pv.length ≤ 50)
    (h : ∀ D h' vs', Fr h₀ L h' m → News h₀ L h' ((D, W.listOf (List.toArray vs') 0) :: news) → (∀ p ∈ news, p.1 < D) → StrsAre vs' ((ps.take (ps.length - 1)).map tx) → vs'.length ≤ 50 → Q (.ref D) ⟨h', gens, drawn, tk, os⟩)
    (hs : subscripted slice false (.ref l) (.ref hp.objs.size) = operate [.ref hp.objs.size, .ref l] (getItem (.ref l) (.ref hp.objs.size))) (ht : ∀ r, letTemporaryGo value (.ref l) r = pure ()) :
    wpAny (model prog w) A (subscriptTail value slice (.ref l) (.ref hp.objs.size)) Q E ⟨hp.push { cls := .type "slice", data := .fields #[.none, .int (((List.toArray pv).size : Int) - 1) t, .none] }, gens, drawn, tk, os⟩ := by
  have e : (List.toArray pv).size = ps.length := by rw [List.size_toArray, hl]
  refine kmk_slice (s := ⟨hp, gens, drawn, tk, os⟩) (its := pv.toArray) F N ⟨_, (N _ hm).1, rfl, n, rfl⟩ .none (.int (((List.toArray pv).size : Int) - 1) t) (fun D h' F' N' l1 => ?_) hs ht (by rw [sizeLine_eq, List.size_toArray]; omega)
  have hq := pick_upto pv (y := ((List.toArray pv).size : Int) - 1) (by omega)
  rw [show (((List.toArray pv).size : Int) - 1).toNat = ps.length - 1 by omega] at hq
  refine h D h' (pv.take (ps.length - 1)) F' ?_ l1 ?_ (by rw [List.length_take]; omega)
  · rw [← hq, Array.toArray_toList]; exact N'
  · rw [List.map_take]; exact StrsAre.take' hps _
set_option maxHeartbeats 8000000 in
theorem b11 {w : World} {h₀ : Heap} {L fa l G S P D kc J Y : Nat} {mg mb : Str → Option Value} {mean : ExcName → Option Value} {loose : List Str} {s : Shared}
  {gv sv pv lv : List Value} {ps : List (List Nat)} {ds : List Nat} {ss : List Int} {c cl : Nat} {oT oK oJ oY : Obj} {n u : Int} {tn tf : Tok} {E : Value → Shared → Prop}
  (X : (hd.heap_39 w.params).In h₀) (T : Top topProg loose mean mg mb h₀) (B : Below callerA h₀ [] h₀)
  (H : LSt h₀ L G S gv sv (some (.ref D)) [(D, W.listOf (List.toArray lv) cl), (P, W.listOf (List.toArray pv) c), (72, oT), (kc, oK), (J, oJ), (Y, oY)] [("script", .ref l), ("number", .int n tn), ("figures", .str (tx ds) tf), ("pieces", .ref P)] s.heap) (hlt : 72 < L) (hG : L + 1 + 1 + 1 < G) (hGS : G < S) (hkc : kc < L ∨ S < kc) (hJ : S < J) (hY : S < Y) (hSP : S < P) (hPD : P < D)
  (hps : StrsAre pv (ps.map tx)) (hpl : pv.length ≤ 50) (hp1 : 1 ≤ ps.length) (hsv : IntsAre sv ss) (hss : ss.length ≤ 30) (hs1 : ∀ z ∈ ss, 1 ≤ z ∧ z ≤ 3)
  (hn : PySem.intText? (Str.ofString "0" ++ tx (ps.take (ps.length - 1)).flatten) = some u) (hql : (Str.ofString "0" ++ tx (ps.take (ps.length - 1)).flatten).length ≤ 30) (hfl : (ps.take (ps.length - 1)).flatten.length ≤ 100) (hmod : ss ≠ [] → u = n.fdiv (10 ^ (ss.getD 0 0).toNat)) (hn0 : 0 ≤ n) (hn1 : n < 10 ^ 20) :
  wpAny (model prog w) (callerA.deeper (lenv L fa)) (exec (loopSt 11) (lenv L fa)) (fun f s' => f = .next ∧ Kept (LSt h₀ L G S gv sv (some (.ref D)) [(D, W.listOf (List.toArray lv) cl), (P, W.listOf (List.toArray pv) c), (72, oT), (kc, oK), (J, oJ), (Y, oY)] [("script", .ref l), ("number", .int n tn), ("figures", .str (tx ds) tf), ("pieces", .ref P)]) s s') E s := by
  have hl1 := strsAre_len hps
  rw [List.length_map] at hl1
  have hz : 0 ≤ ss.getD 0 0 ∧ ss.getD 0 0 ≤ 3 := by
    cases ss with
    | nil => decide
    | cons z r => have := hs1 z (.head _); show 0 ≤ z ∧ z ≤ 3; omega
  obtain ⟨hz0, hz3⟩ := hz
  have hlog := pow10_log hz0 hz3
  k_with_none
  k_with "call builtin:len" => (k_here; k_dflt (refine' len_raw ?k1 ?k2 ?z ?_; (case k1 => k_asm); (case k2 => k_mem); (case z => (rw [List.size_toArray]; omega)); k_whole))
  k_with "subscriptTail Name Constant ref int" => (k_here; k_dflt (refine' firstI_K ?k1 ?k2 ?k3 ?k4 ?_ ?s ?t; (case k1 => k_asm); (case k2 => k_mem); (case k3 => assumption); (case k4 => assumption); (case s => with_unfolding_all rfl); (case t => (intro _; with_unfolding_all rfl))); intro t')
  k_with "binaryOp Add str str" => (k_here; k_dflt (refine' add0_K ?k1 ?_; (case k1 => assumption); k_whole); intro t' k')
  k_with "binaryOp Pow int int" => (k_here; k_dflt (refine' pow10_K ?k1 ?k2 ?_; (case k1 => assumption); (case k2 => assumption); k_whole))
  k_with "binaryOp FloorDiv int int" => (k_here; refine floordiv_int (pow10_ne _) ?_ (Or.inl (PyProof.noPylong_of_log2 (by assumption))))
  k_with "subscriptTail Name Slice ref ref" => (k_here; (with_reducible show wpAny _ _ (subscriptTail _ (PySem.Expr.Slice none (some _) none _) (Value.ref _) (Value.ref _)) _ _ _); k_dflt (refine' uptoS_K ?k1 ?k2 ?k3 ?k4 ?k5 ?k6 ?k7 ?_ ?s ?t; (case k1 => k_asm); (case k2 => k_asm); (case k3 => k_mem); (case k4 => assumption); (case k5 => assumption); (case k6 => assumption); (case k7 => assumption); (case s => with_unfolding_all rfl); (case t => (intro _; with_unfolding_all rfl))); intro D' h' vs' F' N' l1 hs' hw'; (try k_lt l1); (try k_gentoks))
  k_with "call builtin:str.join" => (k_here; k_dflt (refine' joinT_K ?k1 ?k2 ?k3 ?k4 ?_; (case k1 => k_asm); (case k2 => k_mem); (case k3 => assumption); (case k4 => assumption); k_whole); intro t' k')
  unfold prog
  obtain ⟨m, o1, o2, o3, gn, sn, F, hp, N, d1, d2, d3⟩ := H
  replace F := Fr_pins _ F hp
  dsimp only [pinM] at F
  revert X
  k_fill
  intro X
  w_on
  w_top on
  unfold lenv
  conv in (occs := *) loopSt 11 => all_goals whnf
  conv in (occs := *) fScope lawS => all_goals whnf
  w_strict k_steps
  all_goals first
    | exact rfl
    | (exfalso; exact absurd (hmod (of_decide_eq_false (by assumption))) (by assumption))
    | (refine ⟨_, _, rfl, _, _, _, _, ?n9, ?c9, by assumption, ?p9, News_sub (by assumption) ?w9, by assumption, by assumption, by assumption⟩; (case w9 => (repeat' (first | exact List.forall_mem_nil _ | (refine List.forall_mem_cons.mpr ⟨by k_mem, ?_⟩)))); (case p9 => (repeat' (first | exact List.forall_mem_nil _ | (refine List.forall_mem_cons.mpr ⟨rfl, ?_⟩)))))
end Mine
end
section
open PySem PySem.W PyProof.Rows PySem.Calls PyProof.Rows.LCg PySem.NumText
set_option maxRecDepth 100000
namespace Mine
def lenI (q : List Nat) : Int := (q.length : Int)
def mkPs (c : List Nat × List (List Nat)) : List (List Nat) := if c.1 = [] then c.2 else c.1 :: c.2
structure CutInv (ds : List Nat) (ss : List Int) (k : Nat) (q : List Nat) (qs : List (List Nat)) : Prop where
  flat : q ++ qs.flatten = ds
  ne : ∀ p ∈ qs, p ≠ []
  on : q ≠ [] → qs.length = k ∧ qs.map lenI = (ss.take k).reverse
  off : q = [] → qs ≠ [] ∧ qs.tail.length ≤ ss.length ∧ qs.tail.map lenI = (ss.take qs.tail.length).reverse
  last : ∀ z, ss[0]? = some z → 1 ≤ k → ∃ pre, qs = pre ++ [ds.drop (ds.length - z.toNat)]
  zero : k = 0 → q = ds ∧ qs = []
theorem cut_inv {ds : List Nat} {ss : List Int} (hd : ds ≠ []) (hs : ∀ z ∈ ss, 1 ≤ z) : ∀ k, k ≤ ss.length → CutInv ds ss k ((ss.take k).foldl cutStep (ds, [])).1 ((ss.take k).foldl cutStep (ds, [])).2 := by
  intro k
  induction k with
  | zero =>
    intro _
    exact ⟨by simp, by simp, fun _ => ⟨by simp, by simp⟩, fun h => absurd h (by simpa using hd), fun z _ h => absurd h (by decide), fun _ => ⟨rfl, rfl⟩⟩
  | succ k ih =>
    intro hk
    obtain ⟨z, hz⟩ : ∃ z, ss[k]? = some z := ⟨_, List.getElem?_eq_getElem (by omega)⟩
    have hz1 : 1 ≤ z := hs z (List.mem_of_getElem? hz)
    have I := ih (by omega)
    clear ih
    have htk : ss.take (k + 1) = ss.take k ++ [z] := by rw [List.take_add_one, hz]; rfl
    rw [htk]
    simp only [List.foldl_append, List.foldl_cons, List.foldl_nil]
    generalize (ss.take k).foldl cutStep (ds, []) = c at I
    obtain ⟨q, qs⟩ := c
    obtain ⟨i1, i2, i3, i4, i5, i6⟩ := I
    dsimp only at i1 i2 i3 i4 i5 i6
    unfold cutStep
    dsimp only
    by_cases hq : q = []
    · rw [if_pos hq]
      refine ⟨i1, i2, fun h => absurd hq h, i4, fun z0 hz0 _ => ?_, fun h => absurd h (by omega)⟩
      by_cases hk0 : k = 0
      · exact absurd ((i6 hk0).1.symm.trans hq) hd
      · exact i5 z0 hz0 (by omega)
    · rw [if_neg hq]
      have hql : 1 ≤ q.length := List.length_pos_iff.mpr hq
      have hpl : (q.drop (q.length - z.toNat)).length = q.length - (q.length - z.toNat) := List.length_drop
      obtain ⟨j1, j2⟩ := i3 hq
      refine ⟨?_, ?_, ?_, ?_, ?_, fun h => absurd h (by omega)⟩
      · show q.take _ ++ (q.drop _ :: qs).flatten = ds
        rw [List.flatten_cons, ← List.append_assoc, List.take_append_drop]; exact i1
      · intro p hp
        rcases List.mem_cons.mp hp with rfl | hp
        · intro e
          rw [e] at hpl; simp at hpl; omega
        · exact i2 p hp
      · intro h
        have hm : (q.take (q.length - z.toNat)).length ≠ 0 := fun e => h (List.length_eq_zero_iff.mp e)
        rw [List.length_take] at hm
        refine ⟨by show (_ :: qs).length = _; rw [List.length_cons, j1], ?_⟩
        show lenI _ :: qs.map lenI = _
        rw [htk, List.reverse_append, j2]
        show _ :: _ = z :: _
        congr 1
        show ((q.drop (q.length - z.toNat)).length : Int) = z
        rw [hpl]; omega
      · intro _
        refine ⟨by simp, ?_, ?_⟩
        · show qs.length ≤ _; omega
        · show qs.map lenI = (ss.take qs.length).reverse
          rw [j1]; exact j2
      · intro z0 hz0 _
        by_cases hk0 : k = 0
        · obtain ⟨k1, k2⟩ := i6 hk0
          subst hk0
          rw [hz] at hz0
          cases hz0
          exact ⟨[], by rw [k2, k1]; rfl⟩
        · obtain ⟨pre, e⟩ := i5 z0 hz0 (by omega)
          exact ⟨q.drop (q.length - z.toNat) :: pre, by rw [e]; rfl⟩
theorem backL_eq {ns ss : List Int} (h : ns.length ≤ ss.length) : backL ns ss = (ss.take ns.length).reverse := by
  apply List.ext_getElem
  · simp [backL]; omega
  · intro i h1 h2
    simp only [backL, List.length_map, List.length_range] at h1
    simp only [backL, List.getElem_map, List.getElem_range, List.getElem_reverse, List.getElem_take, List.length_take]
    rw [List.getD_eq_getElem?_getD, List.getElem?_eq_getElem (by omega)]
    simp only [Option.getD_some]
    congr 1
    omega
structure PsOk (ds : List Nat) (ss : List Int) (ps : List (List Nat)) : Prop where
  flat : ps.flatten = ds
  ne : ∀ p ∈ ps, p ≠ []
  one : 1 ≤ ps.length
  le : ps.tail.length ≤ ss.length
  back : ps.tail.map lenI = backL (ps.tail.map lenI) ss
  last : ∀ z, ss[0]? = some z → ps.getD (ps.length - 1) [] = ds.drop (ds.length - z.toNat) ∧ (ps.take (ps.length - 1)).flatten = ds.take (ds.length - z.toNat)
theorem ps_ok {ds : List Nat} {ss : List Int} (hd : ds ≠ []) (hs : ∀ z ∈ ss, 1 ≤ z) : PsOk ds ss (mkPs (cutAll ds ss)) := by
  have I := cut_inv hd hs ss.length (Nat.le_refl _)
  rw [List.take_length] at I
  show PsOk ds ss (mkPs (ss.foldl cutStep (ds, [])))
  generalize ss.foldl cutStep (ds, []) = c at I
  obtain ⟨q, qs⟩ := c
  obtain ⟨i1, i2, i3, i4, i5, i6⟩ := I
  dsimp only at i1 i2 i3 i4 i5 i6
  unfold mkPs
  dsimp only
  have key : ∀ (pre : List (List Nat)) (z : Int), (pre ++ [ds.drop (ds.length - z.toNat)]).flatten = ds → (pre ++ [ds.drop (ds.length - z.toNat)]).getD ((pre ++ [ds.drop (ds.length - z.toNat)]).length - 1) [] = ds.drop (ds.length - z.toNat) ∧
      ((pre ++ [ds.drop (ds.length - z.toNat)]).take ((pre ++ [ds.drop (ds.length - z.toNat)]).length - 1)).flatten = ds.take (ds.length - z.toNat) := by
    intro pre z hf
    have hl : (pre ++ [ds.drop (ds.length - z.toNat)]).length - 1 = pre.length := by simp
    rw [hl]
    refine ⟨by simp [List.getD], ?_⟩
    rw [List.take_left]
    have e : pre.flatten ++ ds.drop (ds.length - z.toNat) = ds.take (ds.length - z.toNat) ++ ds.drop (ds.length - z.toNat) := by
      rw [List.take_append_drop]
      simpa using hf
    exact List.append_cancel_right e
  by_cases hq : q = []
  · rw [if_pos hq]
    obtain ⟨j1, j2, j3⟩ := i4 hq
    subst hq
    have hf : qs.flatten = ds := by simpa using i1
    refine ⟨hf, i2, List.length_pos_iff.mpr j1, j2, ?_, fun z hz => ?_⟩
    · rw [backL_eq (by rw [List.length_map]; exact j2), List.length_map]; exact j3
    · obtain ⟨pre, e⟩ := i5 z hz (by
        have := (List.getElem?_eq_some_iff.mp hz).1; omega)
      rw [e]
      exact key pre z (by rw [← e]; exact hf)
  · rw [if_neg hq]
    obtain ⟨j1, j2⟩ := i3 hq
    refine ⟨i1, ?_, by simp, by show qs.length ≤ _; omega, ?_, fun z hz => ?_⟩
    · intro p hp
      rcases List.mem_cons.mp hp with rfl | hp
      · exact hq
      · exact i2 p hp
    · show qs.map lenI = backL (qs.map lenI) ss
      rw [backL_eq (by rw [List.length_map]; omega), List.length_map, j1]; exact j2
    · obtain ⟨pre, e⟩ := i5 z hz (by
        have := (List.getElem?_eq_some_iff.mp hz).1; omega)
      have hf : (q :: qs).flatten = ds := i1
      rw [e] at hf ⊢
      exact key (q :: pre) z hf
theorem ne_len : ∀ ps : List (List Nat), (∀ p ∈ ps, p ≠ []) → ps.length ≤ ps.flatten.length
  | [], _ => Nat.le_refl _
  | p :: r, h => by
    have h1 := ne_len r fun x hx => h x (.tail _ hx)
    have h2 : 1 ≤ p.length := List.length_pos_iff.mpr (h p (.head _))
    simp only [List.length_cons, List.flatten_cons, List.length_append]
    omega
theorem mem_len {ps : List (List Nat)} {q : List Nat} (h : q ∈ ps) : q.length ≤ ps.flatten.length := by
  induction ps with
  | nil => cases h
  | cons p r ih =>
    simp only [List.flatten_cons, List.length_append]
    rcases List.mem_cons.mp h with rfl | h
    · omega
    · have := ih h; omega
theorem mod_last {ds : List Nat} {z : Int} (hz : 1 ≤ z) (h : AllDigits ds) : ((digitsVal (ds.drop (ds.length - z.toNat)) : Nat) : Int) = ((digitsVal ds : Nat) : Int).fmod (10 ^ z.toNat) ∧
    ((digitsVal (ds.take (ds.length - z.toNat)) : Nat) : Int) = ((digitsVal ds : Nat) : Int).fdiv (10 ^ z.toNat) := by
  have e : digitsVal ds = digitsVal (ds.take (ds.length - z.toNat)) * 10 ^ (ds.drop (ds.length - z.toNat)).length + digitsVal (ds.drop (ds.length - z.toNat)) := by
    rw [← dv_app, List.take_append_drop]
  have hlt := dv_lt (ds.drop (ds.length - z.toNat)) fun c hc => h c (List.mem_of_mem_drop hc)
  have hpos : 0 < 10 ^ z.toNat := Nat.pow_pos (by decide)
  have hc : ((10 : Int) ^ z.toNat) = ((10 ^ z.toNat : Nat) : Int) := by push_cast; rfl
  have key : digitsVal (ds.drop (ds.length - z.toNat)) = digitsVal ds % 10 ^ z.toNat ∧ digitsVal (ds.take (ds.length - z.toNat)) = digitsVal ds / 10 ^ z.toNat := by
    by_cases hle : z.toNat ≤ ds.length
    · have hl : (ds.drop (ds.length - z.toNat)).length = z.toNat := by rw [List.length_drop]; omega
      rw [hl] at e hlt
      generalize digitsVal (ds.drop (ds.length - z.toNat)) = b at *
      generalize digitsVal (ds.take (ds.length - z.toNat)) = a at *
      rw [e]
      constructor
      · rw [Nat.mul_comm, Nat.mul_add_mod, Nat.mod_eq_of_lt hlt]
      · rw [Nat.mul_comm, Nat.mul_add_div hpos, Nat.div_eq_of_lt hlt, Nat.add_zero]
    · have h0 : ds.length - z.toNat = 0 := by omega
      have hlt2 : digitsVal ds < 10 ^ z.toNat := Nat.lt_of_lt_of_le (dv_lt ds h) (Nat.pow_le_pow_right (by decide) (by omega))
      rw [h0, List.drop_zero, List.take_zero]
      exact ⟨(Nat.mod_eq_of_lt hlt2).symm, (Nat.div_eq_of_lt hlt2).symm⟩
  rw [hc, Int.fmod_eq_emod_of_nonneg _ (by omega), Int.fdiv_eq_ediv_of_nonneg _ (by omega), ← Int.natCast_emod, ← Int.natCast_ediv, ← key.1, ← key.2]
  exact ⟨rfl, rfl⟩
theorem numb_range (n : Int) : 0 ≤ numb n ∧ numb n < 10 ^ 20 := by
  unfold numb
  exact ⟨Int.fmod_nonneg_of_pos _ (by decide), Int.fmod_lt_of_pos _ (by decide)⟩
structure DigOk (n : Int) (ds : List Nat) : Prop where
  text : Str.ofString (toString n) = tx ds
  dig : AllDigits ds
  ne : ds ≠ []
  len : ds.length ≤ 20
  val : ((digitsVal ds : Nat) : Int) = n
theorem dig_ok {n : Int} (h0 : 0 ≤ n) (h1 : n < 10 ^ 20) : DigOk n (Str.ofString (toString n)).cps.toList := by
  obtain ⟨m, rfl⟩ := Int.eq_ofNat_of_zero_le h0
  have e := KIN.signs_num m
  refine ⟨tx_of _, ?_, ?_, ?_, ?_⟩
  · rw [e]
    intro c hc
    obtain ⟨ch, hch, e⟩ := List.mem_map.mp hc
    have r := digit_range (Nat.isDigit_of_mem_toDigits (by decide) (by decide) hch)
    rw [← e]; exact r
  · rw [e]
    intro h
    have h2 := toDigits_len_ge 10 m
    rw [List.map_eq_nil_iff.mp h] at h2
    exact absurd h2 (by decide)
  · rw [e, List.length_map]
    have hm : m < 10 ^ 20 := by omega
    exact (Nat.length_toDigits_le_iff (by decide) (by decide)).mpr hm
  · rw [e, KIN.val_back]
end Mine
end
section
open PySem PySem.W PyProof.Rows PySem.Calls PyProof.Rows.LCg PySem.NumText
set_option maxRecDepth 100000
namespace Mine
theorem step {M : Model} {A : Around} {env : Env} {st : Stmt} {rest : List Stmt} {Q : Flow → Shared → Prop} {E : Value → Shared → Prop} {s : Shared} {P : Shared → Prop}
    (h : wpAny M A (exec st env) (fun f s' => f = .next ∧ P s') E s) (k : ∀ s', P s' → wpAny M A (execs rest env) Q E s') : wpAny M A (execs (st :: rest) env) Q E s :=
  wpAny_execs_cons (wpAny_mono h (fun f s' h' => by obtain ⟨rfl, hP⟩ := h'; exact k s' hP) fun _ _ e => e)
theorem LSt.sub {h₀ h : Heap} {L G S : Nat} {gv sv : List Value} {x3 : Option Value} {t1 t2 : List (Addr × Obj)} {p1 p2 : List (Str × Value)} (H : LSt h₀ L G S gv sv x3 t1 p1 h) (ht : ∀ p ∈ t2, p ∈ t1) (hp : ∀ p ∈ p2, p ∈ p1) : LSt h₀ L G S gv sv x3 t2 p2 h := by
  obtain ⟨m, o1, o2, o3, n, c, F, hpn, N, d1, d2, d3⟩ := H
  refine ⟨m, o1, o2, o3, n, c, F, fun p h => hpn p (hp p h), News_sub N fun p h => ?_, d1, d2, d3⟩
  simp only [List.mem_cons] at h ⊢
  rcases h with h | h | h | h | h | h
  · exact .inl h
  · exact .inr (.inl h)
  · exact .inr (.inr (.inl h))
  · exact .inr (.inr (.inr (.inl h)))
  · exact .inr (.inr (.inr (.inr (.inl h))))
  · exact .inr (.inr (.inr (.inr (.inr (ht p h)))))
def TurnEnd (h₀ : Heap) (L G S J Y l : Nat) (gv sv : List Value) (oJ oY : Obj) (s s' : Shared) : Prop :=
  ∃ kc : Nat, ∃ oT oK x3, TabOk oT kc oK ∧ (kc < L ∨ S < kc) ∧ Kept (LSt h₀ L G S gv sv x3 [(72, oT), (kc, oK), (J, oJ), (Y, oY)] [("script", .ref l)]) s s'
theorem int_of_digits' {q : List Nat} (h : AllDigits q) (hne : q ≠ []) (hl : q.length ≤ 30) : PySem.intText? (tx q) = some ((digitsVal q : Nat) : Int) := by
  have := intText_digits (x := tx q) (by rw [tx_cps]; exact h) (by rw [tx_cps]; exact hne) (by rw [tx_len]; omega)
  rw [tx_cps] at this; exact this
theorem zero_text {r : List Nat} (h : AllDigits r) (hl : r.length ≤ 20) : PySem.intText? (Str.ofString "0" ++ tx r) = some ((digitsVal r : Nat) : Int) := by
  have e : Str.ofString "0" ++ tx r = tx (48 :: r) := by
    have : Str.ofString "0" = tx [48] := by decide
    rw [this, tx_app]; rfl
  rw [e, int_of_digits' (by intro c hc; rcases List.mem_cons.mp hc with rfl | hc; exact ⟨by decide, by decide⟩; exact h c hc) (by simp) (by simp; omega)]
  rfl
theorem turn {w : World} {h₀ : Heap} {L fa l G S kc J Y : Nat} {mg mb : Str → Option Value} {mean : ExcName → Option Value} {loose : List Str} {s : Shared}
  {gv sv : List Value} {ss : List Int} {x3 : Option Value} {oT oK oJ oY : Obj} {n : Int} {tn : Tok} {E : Value → Shared → Prop}
  (X : (hd.heap_39 w.params).In h₀) (T : Top topProg loose mean mg mb h₀) (B : Below callerA h₀ [] h₀) (C : CodeHd h₀ 74 72)
  (H : LSt h₀ L G S gv sv x3 [(72, oT), (kc, oK), (J, oJ), (Y, oY)] [("script", .ref l), ("cell", .int n tn)] s.heap) (hlt : 72 < L) (hG : L + 1 + 1 + 1 < G) (hGS : G < S) (hkc : kc < L ∨ S < kc) (hJ : S < J) (hY : S < Y)
  (K : TabOk oT kc oK) (hsi : IntsAre sv ss) (hsl : ss.length ≤ 24) (hs1 : ∀ z ∈ ss, 1 ≤ z ∧ z ≤ 3) :
  wpAny (model prog w) (callerA.deeper (lenv L fa)) (execs (forBody (lawSt 7)) (lenv L fa)) (fun f s' => f = .next ∧ TurnEnd h₀ L G S J Y l gv sv oJ oY s s') E s := by
  rw [show forBody (lawSt 7) = [loopSt 0, loopSt 1, loopSt 2, loopSt 3, loopSt 4, loopSt 5, loopSt 6, loopSt 7, loopSt 8, loopSt 9, loopSt 10, loopSt 11] from rfl]
  obtain ⟨n0, n1⟩ := numb_range n
  have Dg := dig_ok n0 n1
  have hPs := ps_ok (ss := ss) Dg.ne fun z hz => (hs1 z hz).1
  have hdl : (tx (Str.ofString (toString (numb n))).cps.toList).length ≤ 20 := by rw [tx_len]; exact Dg.len
  refine step (b0 X T B H hlt hG hGS hkc hJ hY) ?_
  rintro s' ⟨t0, h0, k0, rfl, H0⟩
  refine step (b1 X T B H0 hlt hG hGS hkc hJ hY n0 n1) ?_
  rintro s' ⟨t1, h1, k1, rfl, H1⟩
  rw [Dg.text] at H1
  generalize (Str.ofString (toString (numb n))).cps.toList = ds at *
  refine step (b2 X T B H1 hlt hG hGS hkc hJ hY) ?_
  rintro s' ⟨P, pv, c, hSP, hpv, h2, k2, rfl, H2⟩
  cases hpv
  refine step (b3 X T B H2 hlt hG hGS hkc hJ hY hSP) ?_
  rintro s' ⟨h3, k3, rfl, H3⟩
  refine step (b4 X T B H3 hlt hG hGS hkc hJ hY hSP hsi hsl (fun z hz => by have := hs1 z hz; omega) Dg.len) ?_
  rintro s' ⟨P, pv, c, tl, hSP, hps, h4, k4, rfl, H4⟩
  have hcl := cut_len ss (ds, [])
  have hpl : pv.length ≤ 50 := by
    rw [strsAre_len hps, List.length_map]
    have := hcl.1
    simp only [List.length_nil] at this
    show (ss.foldl cutStep (ds, [])).2.length ≤ 50
    omega
  refine step (b5 X T B H4 hlt hG hGS hkc hJ hY hSP hps hpl) ?_
  rintro s' ⟨P, pv, c, hSP, hps, h5, k5, rfl, H5⟩
  change StrsAre pv ((mkPs (cutAll ds ss)).map tx) at hps
  generalize mkPs (cutAll ds ss) = ps at *
  have hfl : ps.flatten.length ≤ 20 := by rw [hPs.flat]; exact Dg.len
  have hle : ps.length ≤ ds.length := by
    have := ne_len ps hPs.ne
    rw [hPs.flat] at this; exact this
  have hlp := strsAre_len hps
  rw [List.length_map] at hlp
  have hpl : pv.length ≤ 50 := by have := Dg.len; omega
  have hdig : ∀ q ∈ ps, AllDigits q ∧ q ≠ [] := fun q hq => ⟨fun c hc => Dg.dig c (by rw [← hPs.flat]; exact List.mem_flatten.mpr ⟨q, hq, hc⟩), hPs.ne q hq⟩
  have hql : ∀ q ∈ ps, q.length ≤ 20 := fun q hq => Nat.le_trans (mem_len hq) hfl
  refine step (b6 X T B H5 hlt hG hGS hkc hJ hY hSP hps hpl hdl hPs.flat (by omega) hle) ?_
  rintro s' ⟨h6, k6, rfl, H6⟩
  refine step (b7 X T B H6 hlt hG hGS hkc hJ hY hSP hps hpl hql) ?_
  rintro s' ⟨D, lv, c', hPD, hKD, hlv, h7, k7, rfl, H7⟩
  change IntsAre lv (ps.tail.map lenI) at hlv
  refine step (b8 X T B H7 hlt hG hGS hkc hJ hY hSP hPD hKD (by rw [List.length_map]; exact hPs.le) (by rw [List.length_map]; have := hPs.le; omega) (by omega) hlv hsi hPs.back) ?_
  rintro s' ⟨h8, k8, rfl, H8⟩
  refine step (b9 X T B C H8 hlt hG hGS hkc hJ hY hSP hPD hKD K hps hpl hdig hfl (by rw [hPs.flat]; exact Dg.val)) ?_
  rintro s' ⟨kc', oT', oK', K', hkc', h9, k9, rfl, H9⟩
  have hone := hPs.one
  have hlm : ps.getD (ps.length - 1) [] ∈ ps := by
    rw [List.getD_eq_getElem?_getD, List.getElem?_eq_getElem (by omega), Option.getD_some]
    exact List.getElem_mem _
  have hr : AllDigits (ps.take (ps.length - 1)).flatten := by
    intro d hd'
    obtain ⟨y, hy, hy'⟩ := List.mem_flatten.mp hd'
    exact (hdig y (List.mem_of_mem_take hy)).1 d hy'
  have hrl : (ps.take (ps.length - 1)).flatten.length ≤ 20 := by
    refine Nat.le_trans ?_ hfl
    conv => rhs; rw [← List.take_append_drop (ps.length - 1) ps, List.flatten_append, List.length_append]
    omega
  have hm : ∀ z r, ss = z :: r → ss.getD 0 0 = z ∧ ss[0]? = some z := fun z r e => by subst e; exact ⟨rfl, rfl⟩
  refine step (b10 (u := ((digitsVal (ps.getD (ps.length - 1) []) : Nat) : Int)) X T B H9 hlt hG hGS hkc' hJ hY hSP hPD hps hpl hone hsi (by omega) hs1 (int_of_digits (hdig _ hlm).1 (hdig _ hlm).2 (hql _ hlm)) (by rw [tx_len]; exact hql _ hlm) (fun hne => ?_) n0 n1) ?_
  · cases hss : ss with
    | nil => exact absurd hss hne
    | cons z r =>
      obtain ⟨e1, e2⟩ := hm z r hss
      rw [← hss, e1, (hPs.last z e2).1, (mod_last (hs1 z (List.mem_of_getElem? e2)).1 Dg.dig).1, Dg.val]
  rintro s' ⟨h10, k10, rfl, H10⟩
  refine step (b11 (u := ((digitsVal (ps.take (ps.length - 1)).flatten : Nat) : Int)) X T B H10 hlt hG hGS hkc' hJ hY hSP hPD hps hpl hone hsi (by omega) hs1 (zero_text hr hrl) ?_ (by omega) (fun hne => ?_) n0 n1) ?_
  · have e : Str.ofString "0" = tx [48] := by decide
    rw [e, tx_app, tx_len]
    simp only [List.length_append, List.length_cons, List.length_nil]; omega
  · cases hss : ss with
    | nil => exact absurd hss hne
    | cons z r =>
      obtain ⟨e1, e2⟩ := hm z r hss
      rw [← hss, e1, (hPs.last z e2).2, (mod_last (hs1 z (List.mem_of_getElem? e2)).1 Dg.dig).2, Dg.val]
  rintro s' ⟨h11, k11, rfl, H11⟩
  exact wpAny_execs_nil ⟨rfl, kc', oT', oK', _, K', hkc', h11, _, rfl, H11.sub (by (repeat' (first | exact List.forall_mem_nil _ | (refine List.forall_mem_cons.mpr ⟨by k_mem, ?_⟩)))) (by intro p hp; rw [List.mem_singleton.mp hp]; exact .head _)⟩
end Mine
end
section
open PySem PySem.W PyProof.Rows PySem.Calls PyProof.Rows.LCg PySem.NumText
set_option maxRecDepth 100000
namespace Mine
def NewB (h₀ : Heap) (L : Nat) (m : Str → Option Value) (vs : List Value) (base : List (Addr × Obj)) (v : Value) (s s' : Shared) : Prop :=
  ∃ D : Nat, ∃ h' tk, v = .ref D ∧ s' = { s with heap := h', toks := tk } ∧ Fr h₀ L h' m ∧ News h₀ L h' ((D, W.listOf (List.toArray vs) 0) :: base) ∧ (∀ p ∈ base, @LT.lt Nat _ p.1 D)
theorem uptoB_K {prog : Program} {w : World} {A : Around} {E : Value → Shared → Prop} {h₀ : Heap} {L : Addr} {m : Str → Option Value} {news : List (Addr × Obj)} {value slice : PySem.Expr} {l : Addr} {vs : List Value} {y : Int} {t : Tok} {Q : Value → Shared → Prop} {hp : Heap} {gens : Array GenState} {drawn : Drawn} {tk : Nat} {os : OsState}
    (F : Fr h₀ L hp m) (N : News h₀ L hp news) (hL : h₀.IsList l vs.toArray) (h0 : 0 ≤ y) (hz : vs.length ≤ 100)
    (h : ∀ D h', Fr h₀ L h' m → News h₀ L h' ((D, W.listOf (List.toArray (vs.take y.toNat)) 0) :: news) → (∀ p ∈ news, p.1 < D) → Q (.ref D) ⟨h', gens, drawn, tk, os⟩)
    (hs : subscripted slice false (.ref l) (.ref hp.objs.size) = operate [.ref hp.objs.size, .ref l] (getItem (.ref l) (.ref hp.objs.size))) (ht : ∀ r, letTemporaryGo value (.ref l) r = pure ()) :
    wpAny (model prog w) A (subscriptTail value slice (.ref l) (.ref hp.objs.size)) Q E ⟨hp.push { cls := .type "slice", data := .fields #[.none, .int y t, .none] }, gens, drawn, tk, os⟩ := by
  obtain ⟨o, e, r⟩ := hL
  refine kmk_slice (s := ⟨hp, gens, drawn, tk, os⟩) (its := vs.toArray) F N ⟨o, F.keep _ _ e, r⟩ .none (.int y t) (fun D h' F' N' l1 => ?_) hs ht (by rw [sizeLine_eq, List.size_toArray]; omega)
  refine h D h' F' ?_ l1
  rw [← pick_upto vs h0, Array.toArray_toList]; exact N'
set_option maxHeartbeats 8000000 in
theorem for_iter {w : World} {h₀ : Heap} {L fa l : Nat} {mg mb : Str → Option Value} {mean : ExcName → Option Value} {loose : List Str} {s : Shared} {m : Str → Option Value} {vs : List Value} {base : List (Addr × Obj)} {E : Value → Shared → Prop}
  (X : (hd.heap_39 w.params).In h₀) (T : Top topProg loose mean mg mb h₀) (B : Below callerA h₀ [] h₀) (hL : h₀.IsList l vs.toArray) (hz : vs.length ≤ 100) (F : Fr h₀ L s.heap m) (hm : m "script" = some (.ref l)) (N : News h₀ L s.heap base) :
  wpAny (model prog w) (callerA.deeper (lenv L fa)) (eval (forIter (lawSt 7)) (lenv L fa)) (fun v s' => NewB h₀ L m (vs.take 20) base v s s') E s := by
  k_with_none
  k_with "subscriptTail Name Slice ref ref" => (k_here; (with_reducible show wpAny _ _ (subscriptTail _ (PySem.Expr.Slice none (some _) none _) (Value.ref _) (Value.ref _)) _ _ _); k_dflt (refine' uptoB_K ?k1 ?k2 ?k3 ?k5 ?k6 ?_ ?s ?t; (case k1 => k_asm); (case k2 => k_asm); (case k3 => assumption); (case k5 => decide); (case k6 => omega); (case s => with_unfolding_all rfl); (case t => (intro _; with_unfolding_all rfl))); intro D' h' F' N' l1; (try k_lt l1); (try k_gentoks))
  unfold prog
  replace F := Fr_pins [("script", .ref l)] F (List.forall_mem_cons.mpr ⟨hm, List.forall_mem_nil _⟩)
  dsimp only [pinM] at F
  revert X
  k_fill
  intro X
  w_on
  w_top on
  unfold lenv
  conv in (occs := *) forIter (lawSt 7) => all_goals whnf
  conv in (occs := *) fScope lawS => all_goals whnf
  w_strict k_steps
  all_goals first
    | exact rfl
    | refine ⟨_, _, _, rfl, rfl, ?_, (by assumption), (by assumption)⟩ <;> (rename Fr _ _ _ _ => F9; rw [pinM_eq' hm] at F9; exact F9)
theorem LSt.at72 {h₀ h : Heap} {L G S : Nat} {gv sv : List Value} {x3 : Option Value} {t : List (Addr × Obj)} {pins : List (Str × Value)} (H : LSt h₀ L G S gv sv x3 t pins h) {p : Addr × Obj} (hp : p ∈ t) : h.get? p.1 = some p.2 := by
  obtain ⟨m, o1, o2, o3, n, c, F, hpn, N, d1, d2, d3⟩ := H
  exact (N p (by simp [hp])).1
theorem kc_ne {kc J Y i : Nat} {oT oK oI : Obj} {h : Heap} (K : TabOk oT kc oK) (h1 : h.get? kc = some oK) (h2 : h.get? J = some oI) (hc : oI.cls = .type "list_iterator") (hd : oI.data = .fields #[.ref Y, .int (i : Nat) 0]) : kc ≠ J := by
  rintro rfl
  rw [h1] at h2; cases h2
  rcases K with ⟨rfl, _, rfl⟩ | ⟨vs, t, _, e, hv⟩
  · cases hc
  · rw [e] at hd
    cases hd
    simp at hv
def LoopEnd (h₀ : Heap) (L G S l : Nat) (gv sv : List Value) (s s' : Shared) : Prop :=
  ∃ kc : Nat, ∃ oT oK x3, TabOk oT kc oK ∧ Kept (LSt h₀ L G S gv sv x3 [(72, oT), (kc, oK)] [("script", .ref l)]) s s'
theorem s7 {w : World} {h₀ : Heap} {L fa l G S : Nat} {mg mb : Str → Option Value} {mean : ExcName → Option Value} {loose : List Str} {s : Shared}
  {gv sv vs : List Value} {ns ss : List Int} {E : Value → Shared → Prop}
  (X : (hd.heap_39 w.params).In h₀) (T : Top topProg loose mean mg mb h₀) (B : Below callerA h₀ [] h₀) (C : CodeHd h₀ 74 72) (hL : h₀.IsList l vs.toArray) (hI : IntsAre vs ns) (hlen : ns.length ≤ 63)
  (H : LSt h₀ L G S gv sv none [(72, tabObj #[])] [("script", .ref l)] s.heap) (hlt : 72 < L) (hG : L + 1 + 1 + 1 < G) (hGS : G < S)
  (hsi : IntsAre sv ss) (hsl : ss.length ≤ 24) (hs1 : ∀ z ∈ ss, 1 ≤ z ∧ z ≤ 3) :
  wpAny (model prog w) (callerA.deeper (lenv L fa)) (exec (lawSt 7) (lenv L fa)) (fun f s' => f = .next ∧ LoopEnd h₀ L G S l gv sv s s') E s := by
  have hvl := hI.length
  obtain ⟨m, o1, o2, o3, gn, sn, F, hp, N, d1, d2, d3⟩ := id H
  have hm : m "script" = some (.ref l) := hp ("script", .ref l) (.head _)
  conv in (occs := *) exec (lawSt 7) => all_goals (arg 1; whnf)
  refine wpAny_For (wpAny_mono (for_iter X T B hL (by omega) F hm N) (fun v s₁ h₁ => ?_) fun _ _ e => e) (by intro _; rfl)
  obtain ⟨Y, h₁, tk₁, rfl, rfl, F₁, N₁, hlY⟩ := h₁
  have hYl : h₁.IsList Y (List.toArray (vs.take 20)) := ⟨_, (N₁ (Y, _) (.head _)).1, rfl, 0, rfl⟩
  refine wpAny_pyIter_list hYl ?_
  dsimp only
  generalize hJ : h₁.objs.size = J
  have ltJ : ∀ p ∈ (Y, W.listOf (List.toArray (vs.take 20)) 0) :: (S, W.listOf sv.toArray sn) :: (G, W.listOf gv.toArray gn) :: (L+1+1+1, o3) :: (L+1+1, o2) :: (L+1, o1) :: [((72 : Addr), tabObj #[])], @LT.lt Nat _ p.1 J := fun p hp => hJ ▸ Heap.lt_size (N₁ p hp).1
  have jS : S < J := ltJ (S, W.listOf sv.toArray sn) (by simp)
  have jY : Y < J := ltJ (Y, W.listOf (List.toArray (vs.take 20)) 0) (by simp)
  have hLJ : L < J := hJ ▸ F₁.ns.lt
  have hJ0 : h₀.get? J = none := Heap.get?_none_of_le (Nat.le_trans F₁.above (Nat.le_of_lt hLJ))
  have hSY : S < Y := hlY (S, W.listOf sv.toArray sn) (by simp)
  have hne : J ≠ S ∧ J ≠ G ∧ J ≠ L+1+1+1 ∧ J ≠ L+1+1 ∧ J ≠ L+1 := ⟨by omega, by omega, by omega, by omega, by omega⟩
  refine codeAny_forLoop (fun k s' => ∃ i, ∃ oI oT oK x3, ∃ kc : Nat, i ≤ (vs.take 20).length ∧ k = (vs.take 20).length - i ∧ (oI.cls = .type "list_iterator" ∧ oI.data = .fields #[.ref Y, .int (i : Nat) 0]) ∧ TabOk oT kc oK ∧ (kc < L ∨ S < kc) ∧
    Kept (LSt h₀ L G S gv sv x3 [(72, oT), (kc, oK), (J, oI), (Y, W.listOf (List.toArray (vs.take 20)) 0)] [("script", .ref l)]) s s') ?_ (vs.take 20).length ?_
  · rintro k s' ⟨i, oI, oT, oK, x3, kc, hi, rfl, ⟨hc1, hc2⟩, K, hkc, h', tk, rfl, H'⟩
    have hit : h'.IsListIter J Y i := ⟨oI, H'.at72 (p := (J, oI)) (by simp), hc1, hc2⟩
    have hYl' : h'.IsList Y (List.toArray (vs.take 20)) := ⟨_, H'.at72 (p := (Y, W.listOf (List.toArray (vs.take 20)) 0)) (by simp), rfl, 0, rfl⟩
    have hkJ : kc ≠ J := kc_ne K (H'.at72 (p := (kc, oK)) (by simp)) (H'.at72 (p := (J, oI)) (by simp)) hc1 hc2
    have ht1 : ∀ p ∈ [((72 : Addr), oT), (kc, oK)], p.1 ≠ J := by
      intro p hp
      simp only [List.mem_cons, List.not_mem_nil, or_false] at hp
      rcases hp with rfl | rfl
      · show (72 : Nat) ≠ J; omega
      · exact hkJ
    have ht2 : ∀ p ∈ [((Y : Addr), W.listOf (List.toArray (vs.take 20)) 0)], p.1 ≠ J := by
      intro p hp
      rw [List.mem_singleton.mp hp]
      show (Y : Nat) ≠ J; omega
    by_cases hlt' : i < (vs.take 20).length
    · obtain ⟨v, hv⟩ : ∃ v, (vs.take 20)[i]? = some v := ⟨_, List.getElem?_eq_getElem hlt'⟩
      obtain ⟨n, tn, rfl⟩ : ∃ n t, v = .int n t := by
        have hv' : vs[i]? = some v := by
          rw [List.getElem?_take] at hv
          split at hv
          · exact hv
          · cases hv
        obtain ⟨n, hn⟩ : ∃ n, ns[i]? = some n := ⟨_, List.getElem?_eq_getElem (by have := (List.getElem?_eq_some_iff.mp hv').1; omega)⟩
        obtain ⟨t, ht⟩ := hI.get i n hn
        rw [ht] at hv'; cases hv'
        exact ⟨n, t, rfl⟩
      refine wpAny_pyNext_list_item hit hYl' (x := .int n tn) (by simpa using hv) fun h₂ hit₂ hs₂ => ?_
      obtain ⟨oI₂, ho₂, hc1', hc2'⟩ := hit₂
      have H₂ := LSt.iter (t1 := [(72, oT), (kc, oK)]) (t2 := [(Y, W.listOf (List.toArray (vs.take 20)) 0)]) H' hs₂ ho₂ hne ht1 ht2
      show wpAny _ _ (assign (.Name (Str.ofString "cell") _) (lenv L fa) _) _ _ _
      refine wpAny_assign_Name (LSt.store H₂ (by rfl) (by (repeat' (first | exact List.forall_mem_nil _ | (refine List.forall_mem_cons.mpr ⟨by (dsimp only; decide), ?_⟩)))) fun h₃ H₃ => ?_)
      refine wpAny_mono (turn X T B C H₃ hlt hG hGS hkc jS hSY K hsi hsl hs1) (fun f s₄ h₄ => ?_) fun _ _ e => e
      obtain ⟨rfl, kc', oT', oK', x3', K', hkc', q⟩ := h₄
      exact ⟨(vs.take 20).length - (i + 1), by omega, i + 1, oI₂, oT', oK', x3', kc', hlt', rfl, ⟨hc1', hc2'⟩, K', hkc', Kept.trans rfl q⟩
    · have hin : i = (vs.take 20).length := by omega
      refine wpAny_pyNext_list_end rfl hit hYl' (by rw [hin]; simp) fun h₂ hx₂ => ?_
      refine wpAny_execs_nil ⟨rfl, kc, oT, oK, x3, K, h₂, _, rfl, ?_⟩
      exact LSt.ext (t2 := [(72, oT), (kc, oK)]) H' hx₂ hJ0 (by omega) hne (by (repeat' (first | exact List.forall_mem_nil _ | (refine List.forall_mem_cons.mpr ⟨by k_mem, ?_⟩)))) ht1
  · refine ⟨0, { cls := .type "list_iterator", data := .fields #[.ref Y, .int 0 0] }, tabObj #[], tabObj #[], none, 72, Nat.zero_le _, rfl, ⟨rfl, rfl⟩, .inl ⟨rfl, rfl, rfl⟩, .inl hlt, _, _, rfl, m, o1, o2, o3, gn, sn, F₁.push _, hp, fun p hp' => ?_, d1, d2, d3⟩
    simp only [List.mem_cons, List.not_mem_nil, or_false] at hp'
    have old : ∀ p, p ∈ (Y, W.listOf (List.toArray (vs.take 20)) 0) :: (S, W.listOf sv.toArray sn) :: (G, W.listOf gv.toArray gn) :: (L+1+1+1, o3) :: (L+1+1, o2) :: (L+1, o1) :: [((72 : Addr), tabObj #[])] → _ := fun p hp => And.intro (Heap.get?_push_of_some ({ cls := .type "list_iterator", data := .fields #[.ref Y, .int 0 0] } : Obj) (N₁ p hp).1) (N₁ p hp).2
    rcases hp' with rfl | rfl | rfl | rfl | rfl | rfl | rfl | rfl | rfl
    · exact old _ (by simp)
    · exact old _ (by simp)
    · exact old _ (by simp)
    · exact old _ (by simp)
    · exact old _ (by simp)
    · exact old _ (by simp)
    · exact old _ (by simp)
    · subst hJ; exact ⟨Heap.get?_push_size _ rfl, by show (h₁.objs.size : Nat) ≠ L; omega, hJ0⟩
    · exact old _ (by simp)
end Mine
end
section
open PySem PySem.W PyProof.Rows PySem.Calls PyProof.Rows.LCg PySem.NumText
set_option maxRecDepth 100000
namespace Mine
set_option maxHeartbeats 8000000 in
theorem s8 {w : World} {h₀ : Heap} {L fa : Nat} {mg mb : Str → Option Value} {mean : ExcName → Option Value} {loose : List Str} {s : Shared} {m : Str → Option Value} {news : List (Addr × Obj)} {E : Value → Shared → Prop}
  (X : (hd.heap_39 w.params).In h₀) (T : Top topProg loose mean mg mb h₀) (B : Below callerA h₀ [] h₀) (F : Fr h₀ L s.heap m) (N : News h₀ L s.heap news) :
  wpAny (model prog w) (callerA.deeper (lenv L fa)) (exec (lawSt 8) (lenv L fa)) (fun f s' => f = .ret (.bool true) ∧ Kept (fun h' => h' = s.heap) s s') E s := by
  k_with_none
  unfold prog
  revert X
  k_fill
  intro X
  w_on
  w_top on
  unfold lenv
  conv in (occs := *) lawSt 8 => all_goals whnf
  conv in (occs := *) fScope lawS => all_goals whnf
  w_strict k_steps
  all_goals first
    | exact rfl
    | exact ⟨_, _, rfl, rfl⟩
def threes : List Int := [1, 2, 3]
def allSz : List (List Int) := [[]] ++ threes.map (fun a => [a]) ++ threes.flatMap (fun a => threes.map fun b => [a, b]) ++ threes.flatMap (fun a => threes.flatMap fun b => threes.map fun c => [a, b, c])
theorem three_of {x : Int} (h : 1 ≤ x ∧ x ≤ 3) : x = 1 ∨ x = 2 ∨ x = 3 := by omega
theorem sz_mem : ∀ {sz : List Int}, SzOk sz → sz ∈ allSz
  | [], _ => by decide
  | [a], h => by
    rcases three_of (h.2 a (by simp)) with rfl | rfl | rfl <;> decide
  | [a, b], h => by
    rcases three_of (h.2 a (by simp)) with rfl | rfl | rfl <;> rcases three_of (h.2 b (by simp)) with rfl | rfl | rfl <;> decide
  | [a, b, c], h => by
    rcases three_of (h.2 a (by simp)) with rfl | rfl | rfl <;> rcases three_of (h.2 b (by simp)) with rfl | rfl | rfl <;> rcases three_of (h.2 c (by simp)) with rfl | rfl | rfl <;> decide
  | a :: b :: c :: d :: r, h => by have := h.1; simp at this
abbrev Facts (sz t : List Int) : Prop :=
  ownL (sz ++ t) (sz ++ t).length = sz ∧ (t = [0] → (sz ++ t).drop ((sz ++ t).length - 1) = [0] ∧ 1 ≤ sz.length ∧ lsOut sz t = (sz ++ List.replicate 24 (sz.getD ((sz.length : Int) - 1).toNat 0)).take 24) ∧
  (t ≠ [0] → (sz ++ t).drop ((sz ++ t).length - 1) ≠ [0] ∧ lsOut sz t = sz) ∧ (lsOut sz t).length ≤ 24 ∧ (∀ z ∈ lsOut sz t, 1 ≤ z ∧ z ≤ 3) ∧ (sz ++ t).take 1 ≠ [0] ∧ (sz ++ t).length ≤ 5
theorem facts_all : ∀ sz ∈ allSz, ∀ t ∈ tails, ¬ (sz = [] ∧ t = [0]) → Facts sz t := by decide +kernel
end Mine
end
section
open PySem PySem.W PyProof.Rows PySem.Calls PyProof.Rows.LCg PySem.NumText
set_option maxRecDepth 100000
namespace Mine
theorem rep24_eq (x : Int) : rep24 x = List.replicate 24 x := by unfold rep24; rfl
def LawEnd (h₀ : Heap) (L : Nat) (s s' : Shared) : Prop :=
  ∃ h' tk gens' m', ∃ ps, s' = { s with heap := h', toks := tk, gens := gens' } ∧ AllBare gens' ∧ Fr h₀ L h' m' ∧ News h₀ L h' [(72, tabObj ps)]
theorem law_body {w : World} {h₀ : Heap} {L fa l : Nat} {mg mb : Str → Option Value} {mean : ExcName → Option Value} {loose : List Str} {vs : List Value} {ns : List Int} {s : Shared} {m : Str → Option Value}
  {o1 o2 o3 : Obj} {E : Value → Shared → Prop}
  (X : (hd.heap_39 w.params).In h₀) (T : Top topProg loose mean mg mb h₀) (B : Below callerA h₀ [] h₀) (hL : h₀.IsList l vs.toArray) (hI : IntsAre vs ns)
  (hlen : ns.length ≤ 63)
  (C : CodeHd h₀ 74 72) (F : Fr h₀ L s.heap m) (hm : m "script" = some (.ref l))
  (N : News h₀ L s.heap [(L+1+1+1, o3), (L+1+1, o2), (L+1, o1), (72, tabObj #[])])
  (hne : ¬ ((ns.take 1).sum.fmod 4 = 0 ∧ ((ns.take 1).sum.fdiv 256).fmod 4 = 1)) (d1 : o1.data = .cell none) (d2 : o2.data = .cell none) (d3 : o3.data = .cell none) (hlt : 72 < L) (hb : AllBare s.gens) :
  wpAny (model prog w) (callerA.deeper (lenv L fa)) (execs (fBody lawS) (lenv L fa)) (fun f s' => f = .ret (.bool true) ∧ LawEnd h₀ L s s') E s := by
  rw [show fBody lawS = [lawSt 0, lawSt 1, lawSt 2, lawSt 3, lawSt 4, lawSt 5, lawSt 6, lawSt 7, lawSt 8] from rfl]
  refine step (s0 X T B hL hI hlen C F hm N hne d1 d2 d3 hlt) ?_
  rintro s' ⟨h0, k0, m0, o1, o2, o3, G, gv, n, sz, t, rfl, F0, hm0, N0, d1, d2, d3, hG, hgi, hsz, htl, hne2⟩
  refine step (s1 X T B F0 hm0 N0 d1 d2 d3 hlt hG hgi hsz htl hne2 hb) ?_
  rintro s' ⟨h1, k1, gens1, m1, o1, o2, o3, G, gv, n1, S, sv, c1, rfl, hb1, F1, hm1, N1, d1, d2, d3, hG, hGS, hgi, hsi⟩
  obtain ⟨f1, f2, f3, f4, f5, f6, f7⟩ := facts_all sz (sz_mem hsz) t htl hne2
  have hgl' : gv.toList.length ≤ 5 := by rw [hgi.length]; exact f7
  have H1 : LSt h₀ L G S gv.toList sv.toList none [(72, tabObj #[])] [("script", .ref l)] h1 :=
    ⟨m1, o1, o2, o3, n1, c1, F1, List.forall_mem_cons.mpr ⟨hm1, List.forall_mem_nil _⟩, by rw [Array.toArray_toList, Array.toArray_toList]; exact N1, d1, d2, d3⟩
  refine step (s2 (ss := []) X T B H1 hlt hG hGS hgi f7 hgl' f6) ?_
  rintro s' ⟨h2, k2, rfl, H2⟩
  refine step (s3 X T B H2 hlt hG hGS) ?_
  rintro s' ⟨h3, k3, rfl, H3⟩
  refine step (s4 X T H3 hgi f7 hgl') ?_
  rintro s' ⟨O, ys, c4, os, hSO, hys, hos, h4, k4, rfl, H4⟩
  rw [f1] at hos
  subst hos
  have hz3 := hsz.1
  have hys3 : ys.length ≤ 3 := by rw [hys.length]; exact hz3
  have key : wpAny (model prog w) (callerA.deeper (lenv L fa)) (exec (lawSt 5) (lenv L fa)) (fun f s' => f = .next ∧ OwnPost h₀ L l G S gv.toList sv.toList (fun os' => os' = lsOut os t) { s with heap := h4, toks := k4, gens := gens1 } s') E { s with heap := h4, toks := k4, gens := gens1 } := by
    by_cases ht : t = [0]
    · obtain ⟨g1, g2, g3⟩ := f2 ht
      rw [g3, ← rep24_eq]
      exact s5a X T B H4 hlt hG hGS hSO hgi f7 hgl' hys hz3 hys3 g1 (by rw [ht]; simp) g2
    · obtain ⟨g1, g2⟩ := f3 ht
      rw [g2]
      by_cases hg0 : os ++ t = []
      · rw [hg0] at hgi
        have hgv : gv.toList = [] := by
          have := hgi.length
          exact List.length_eq_zero_iff.mp this
        rw [hgv] at H4 ⊢
        exact s5c X T B H4 hlt hG hGS hSO hys
      · exact s5b X T B H4 hlt hG hGS hSO hgi f7 hgl' hys hz3 hys3 g1 (List.length_pos_iff.mpr hg0)
  refine step key ?_
  rintro s' ⟨O, ys, c5, os', hSO, hys, hos', h5, k5, rfl, H5⟩
  subst hos'
  refine step (s6 X T B H5 hlt hG hGS hSO hys hsi f4) ?_
  rintro s' ⟨h6, k6, rfl, H6⟩
  refine step (s7 X T B C hL hI hlen H6 hlt hG hGS hsi f4 f5) ?_
  rintro s' ⟨kc, oT, oK, x3, K, h7, k7, rfl, H7⟩
  obtain ⟨m7, p1, p2, p3, n7, c7, F7, hp7, N7, e1, e2, e3⟩ := H7
  refine wpAny_execs_cons (wpAny_mono (s8 X T B F7 N7) (fun f s' h' => ?_) fun _ _ e => e)
  obtain ⟨rfl, h8, k8, rfl, rfl⟩ := h'
  refine ⟨rfl, ?_⟩
  have hoT : ∃ ps, oT = tabObj ps := by
    rcases K with ⟨e, _⟩ | ⟨vs', t', e, _⟩
    · exact ⟨_, e⟩
    · exact ⟨_, e⟩
  obtain ⟨ps, rfl⟩ := hoT
  exact ⟨_, _, gens1, m7, ps, rfl, hb1, F7, News_sub N7 (by (repeat' (first | exact List.forall_mem_nil _ | (refine List.forall_mem_cons.mpr ⟨by k_mem, ?_⟩))))⟩
end Mine
end
section
open PySem PySem.W PyProof.Rows PySem.Calls PyProof.Rows.LCg PySem.NumText
set_option maxRecDepth 100000
namespace Mine
theorem in_of {K K' : Frag} {h : Heap} (hall : ∀ p ∈ K, K'.lookup p.1 = some p.2) (X : K'.In h) : K.In h := fun a o e => X a o (hall (a, o) (mem_of_lookupK e))
theorem my_post {M : Model} {A : Around} {cd : Code} {s s₁ : Shared} {cw : ClaimW} {cl : Str → Option Addr} {mean : ExcName → Option Value} {args : List WData} {c P : Addr} (hT : TabsAt [(c, P)] s₁.heap) (hr : ∀ cls, cw.raises args cls = false) (hp : cw.post args (.bool true) args = true)
    (h : codeAny M A cd (fun r s' => r = .ok (.ret (.bool true)) ∧ (∀ b o, (ghostOf s₁.heap [(c, P)]).get? b = some o → s'.heap.get? b = some o) ∧ s'.os = s₁.os ∧ AllBare s'.gens ∧ ∃ ps, s'.heap.get? P = some (tabObj ps)) s) :
    codeAny M A cd (GoodWG cw cl mean args s₁) s :=
  codeAny_mono h fun r s' h' => by
    obtain ⟨rfl, hk, hos, hb, ps, hP⟩ := h'
    have h1 := hT (c, P) (.head _)
    have hPo : ∀ o, s₁.heap.get? P = some o → o = tabObj #[] := fun o e => by
      have e2 : s₁.heap.get? P = some (tabObj #[]) := h1.2
      rw [e] at e2
      exact Option.some.inj e2
    have keep : ∀ b o, b ≠ P → s₁.heap.get? b = some o → s'.heap.get? b = some o := fun b o hb e => hk b o (ghost_ne e (by simpa using hb))
    refine ⟨.inl ⟨.bool true, .bool true, [], rfl, hr, .bool true, hp, fun _ => ⟨.nil, fun _ h => nomatch h⟩⟩, ⟨fun b o e => ?_, fun b o e => ?_⟩, hos, hb⟩
    · by_cases q : b = P
      · subst q
        cases hPo o e
        exact .inr (.inl ⟨(h1.1.tab h1.2).isCodeTable, rfl, #[], ps, rfl, by rw [Array.empty_append]; exact hP⟩)
      · exact .inl (keep b o q e)
    · by_cases q : b = P
      · subst q; exact ⟨_, hP⟩
      · exact ⟨o, keep b o q e⟩
end Mine
end
section
namespace Mine
open PySem PySem.W PyProof.Rows
def Bad (ns : List Int) : Prop := (ns.take 1).sum.fmod 4 = 0 ∧ ((ns.take 1).sum.fdiv 256).fmod 4 = 1
theorem em_bad {vs : List Value} {ns : List Int} (_ : IntsAre vs ns) : Bad ns ∨ ¬ Bad ns := Classical.em _
theorem q2_of (n : Int) (h : n / 256 % 4 = 1) : PySem.W.Z.modQ (PySem.W.Z.divQ (0 + n) 256) 4 = 1 := by
  rw [← PySem.W.Z.modQ_eq, ← PySem.W.Z.divQ_eq, Int.zero_add, Int.fmod_eq_emod_of_nonneg _ (by decide), Int.fdiv_eq_ediv_of_nonneg _ (by decide)]; exact h
theorem bad_cons {n : Int} {r : List Int} (h : Bad (n :: r)) : n % 4 = 0 ∧ n / 256 % 4 = 1 ∧ PySem.W.Z.modQ (PySem.W.Z.divQ (0 + n) 256) 4 = 1 := by
  obtain ⟨h1, h2⟩ := h
  have e : ((n :: r).take 1).sum = n := by simp
  rw [e] at h1 h2
  rw [Int.fmod_eq_emod_of_nonneg _ (by decide)] at h1 h2
  rw [Int.fdiv_eq_ediv_of_nonneg _ (by decide)] at h2
  exact ⟨h1, h2, q2_of n h2⟩
theorem bad_nil : ¬ Bad [] := by unfold Bad; decide
end Mine
end
open PySem PySem.W PySem.W.X PySem.W.ZRun PyProof.Rows Mine
set_option maxRecDepth 100000 in
set_option maxHeartbeats 0 in
theorem PySem.Challenge.cw_xh0003_01_holds : PySem.Challenge.rw_xh0003_01.Holds := by
  k_with_none
  w_on; o_law; z_head; (case hw => w_witness2)
  k_fill
  intro w s₀ s₁ mg mb G y fa o pm cd doc dV kV ho hd hcd hD hmg hg args vals as L hpre hlay hrd hwl hlo
  z_open y L KX ZH ZN ZT
  refine Ground.open G ?_
  intro T B D TE TW
  have hT9 : TabsAt [(74, 72)] s₁.heap := List.forall_mem_cons.mpr ⟨⟨codeHd_of_K (c := 74) (P := 72) KX (by kernel_rfl), KX 72 _ (by kernel_rfl)⟩, fun _ h => nomatch h⟩
  have he9 : cd = PySem.Value.ref 74 := law_code (x := PySem.Str.ofString "law") (c := 74) (P := 72) KX (Top.g T) (by kernel_rfl) hmg ho hd
  have X9 : (Mine.hd.heap_39 w.params).In s₁.heap := by
    refine in_of ?_ KX
    unfold Mine.hd.heap_39
    repeat' (first | exact List.forall_mem_nil _ | refine List.forall_mem_cons.mpr ⟨by kernel_rfl, ?_⟩)
  wrow_args hpre hlay hrd hwl hlo
  rcases em_bad ‹IntsAre _ _› with hbad | hbad
  · clear hT9 he9 X9
    obtain ⟨hat, hsz⟩ := script_at L
    have htk := script_toks L ZT
    rw [ZN] at hat hsz
    subst hat
    x_fa T KX hmg
    all_lens
    x_ints 1
    · z_item n
      obtain ⟨h1, h2, q2⟩ := bad_cons hbad
      clear hbad
      z_lists L; z_lens; z_run
    · exact absurd hbad bad_nil
  · subst he9
    clear hmg KX ZH
    refine enter_call ?_
    w_top on
    refine my_post hT9 ?_ ?_ ?_
    case refine_3 =>
      w_call any ho hd hcd hD T F
      clear hd
      kn_ghosts F T
      rename News _ _ _ _ => N9
      rename Fr _ _ _ _ => F9
      rename _ < s₁.heap.objs.size => l9
      refine wpAny_mono (law_body (E := fun _ _ => False) (by assumption) (by assumption) (by assumption) lifted (by assumption) (by omega) (by assumption) F9 (by rfl) N9 hbad (by assumption) (by assumption) (by assumption) l9 (AllBare.of_eq hg)) (fun fl s' h9 => ?_) fun _ _ h => h.elim
      obtain ⟨rfl, h', tk', gens', m', ps', rfl, hb', F', N'⟩ := h9
      exact ⟨rfl, F'.keep, rfl, hb', ps', (N' (72, _) (.head _)).1⟩
    all_goals first | (intro _; rfl) | exact postW_of (by wrow_shape) (by wtm_val) (by str_meet; first | done | w_fin) | skip
