import PyProof.Rows.All
import Wide.All
import OpenK.AllK
import Wide.FinOn
import PySem.Challenge.RW_wf0018_01
set_option Elab.async false
set_option maxRecDepth 100000

/-! Base -/
namespace Mine
open PySem PySem.W PySem.Spec PySem.Calls PyProof.Rows

abbrev pw : Program := PySem.Challenge.pw_wf0018_01
def q : Program := view pw [0, 2, 3, 5, 6, 7, 9, 10, 12, 13, 14]
def loose : List Str := ["_Accumulator", "b1_set"]

def rIter : { d : DefRec // (recsOf q)[1]? = some d } := ⟨_, rfl⟩
def rStrip : { d : DefRec // (recsOf q)[2]? = some d } := ⟨_, rfl⟩
def rCheck : { d : DefRec // (recsOf q)[3]? = some d } := ⟨_, rfl⟩
def rTab : { d : DefRec // (recsOf q)[4]? = some d } := ⟨_, rfl⟩
def rPiece : { d : DefRec // (recsOf q)[5]? = some d } := ⟨_, rfl⟩
def rOpen : { d : DefRec // (recsOf q)[6]? = some d } := ⟨_, rfl⟩
def rLaw : { d : DefRec // (recsOf q)[7]? = some d } := ⟨_, rfl⟩

def forOf : Stmt → Option (Expr × Expr × List Stmt)
  | .For t i b _ _ => some (t, i, b)
  | _ => none

/-! segments of a generator: statements -/
section
variable {M : Model} {A : Around} {R : GenEnd} {Y : Protocol} {n : Nat} {s₀ : Shared} {c : Code} {fs : List Frame} {s : Shared} {env : Env}
  {K : Flow → Sem Fin} {H : Value → Sem Fin} {gd : Bool → Bool} {lv : List Value → List Value}

theorem segStmt {st : Stmt} (h : wpAny M (A.over c fs) (exec st env) (fun f s' => Seg M A R Y n s₀ c (K f) fs s') (fun _ _ => False) s) :
    Seg M A R Y n s₀ c ((exec st env).wrap K H gd lv) fs s :=
  seg_wrap (wpAny_mono h (fun _ _ x => x) fun _ _ x => x.elim)

theorem segIf {test : Expr} {body orelse : List Stmt} {pos : Pos}
    (h : wpAny M (A.over c fs) (isTrue test env (eval test env)) (fun b s' => if b = true then Seg M A R Y n s₀ c ((execs body env).wrap K H gd lv) fs s' else Seg M A R Y n s₀ c ((execs orelse env).wrap K H gd lv) fs s') (fun _ _ => False) s) :
    Seg M A R Y n s₀ c ((exec (.If test body orelse pos) env).wrap K H gd lv) fs s := by
  rw [exec_If]
  show Seg M A R Y n s₀ c (.at pos fun _ => (isTrue test env (eval test env) >>= fun b => if b = true then execs body env else execs orelse env).wrap K H gd lv) fs s
  refine seg_at ?_
  rw [Sem.bind_eq_wrap', Sem.wrap_wrap]
  refine seg_wrap (wpAny_mono h (fun b s' hb => ?_) fun _ _ x => x.elim)
  cases b <;> exact hb

theorem segYield {e : Expr} {ypos pos : Pos} (hfs : splitAtGen fs = none) (hgd : gd false = false) (hfg : fs.any Frame.guarded = false)
    (h : wpAny M (A.over c fs) (eval e env) (fun v s' => ∀ kap : Resume → Shared → Prop,
        (∀ x s'', (match x with | .ref _ => False | _ => Seg M A R Y n s'' c (K .next) fs s'') → kap (.send x) s'') → Y n s₀ v s' kap)
      (fun _ _ => False) s) (hco : env.scope.isCoroutine = false := by rfl) (hi : interactive env = false := by rfl) :
    Seg M A R Y (n + 1) s₀ c ((exec (.Expr (.Yield (some e) ypos) pos) env).wrap K H gd lv) fs s :=
  seg_Expr_Yield hfs hgd hfg (wpAny_mono h (fun _ _ x => x) fun _ _ x => x.elim) hco hi

def backF (env : Env) (K : Flow → Sem Fin) (H : Value → Sem Fin) (gd : Bool → Bool) (lv : List Value → List Value) (r : Result) : Sem Fin :=
  ((match r with | .ok f => (.pure f : Sem Flow) | .error e => .raise e).onRaise fun (x : Value) => do
        if (← field x 1) == Value.none then unsupported "frame.own-activation:exception-without-traceback"
        setFlight x env.frame).wrap K H gd lv

theorem segFor {target iter : Expr} {body orelse : List Stmt} {pos : Pos}
    (h : wpAny M (A.over c fs) (eval iter env) (fun x s₁ => wpAny M (A.over c fs) (pyIter x) (fun it s₂ =>
      ∀ p, Seg M A R Y n s₀ (.forLoop target it body orelse env) (M.den (.forLoop target it body orelse env)) (.ret (backF env K H gd lv) none (gd false) (lv []) c p [] :: fs) s₂)
        (fun _ _ => False) s₁) (fun _ _ => False) s)
    (hs : ∀ x, foldedSetIterable iter env x = pure x := by intro _; rfl) (hlv : lv [] = [] := by rfl) :
    Seg M A R Y n s₀ c ((exec (.For target iter body orelse pos) env).wrap K H gd lv) fs s := by
  rw [exec_For]
  show Seg M A R Y n s₀ c (.at pos fun _ => (eval iter env >>= fun y => (foldedSetIterable iter env y >>= fun x => (standAt iter.pos >>= fun _ => (holding [x] (pyIter x) >>= fun it => runOwn (.forLoop target it body orelse env) env)))).wrap K H gd lv) fs s
  refine seg_at ?_
  rw [Sem.bind_eq_wrap', Sem.wrap_wrap]
  refine seg_wrap (wpAny_mono h (fun x s₁ h₁ => ?_) fun _ _ x => x.elim)
  rw [hs x]
  show Seg M A R Y n s₀ c (.at iter.pos fun _ => (holding [x] (pyIter x) >>= fun it => runOwn (.forLoop target it body orelse env) env).wrap K H gd lv) fs s₁
  refine seg_at ?_
  rw [Sem.bind_eq_wrap', Sem.wrap_wrap]
  refine seg_wrap (wpAny_holding (wpAny_mono h₁ (fun it s₂ h₂ => ?_) fun _ _ x => x.elim))
  exact seg_call h₂
end

section
variable {prog : Program} {w : World} {A : Around} {R : GenEnd} {Y : Protocol} {n : Nat} {s₀ : Shared} {fs : List Frame} {s : Shared} {env : Env}

def turnH (env : Env) (e : Value) : Sem Fin := (do noteFrame e env; theTreesLotGoes e : Sem Unit).wrap (fun _ => .raise e) .raise id id
def turnK (target : Expr) (it : Value) (body orelse : List Stmt) (env : Env) (f : Flow) : Sem Fin := match f with
  | .next | .cont => .pure (.again (.forLoop target it body orelse env))
  | .brk => .pure (.done .next)
  | .ret v => .pure (.done (.ret v))

theorem segForLoop {target : Expr} {it : Value} {body orelse : List Stmt}
    (h : wpAny (model prog w) (A.over (.forLoop target it body orelse env) fs) (pyNext it) (fun r s₁ => match r with
      | none => Seg (model prog w) A R Y n s₀ (.forLoop target it body orelse env) (.pure (.again (.block orelse env))) fs s₁
      | some v => wpAny (model prog w) (A.over (.forLoop target it body orelse env) fs) (letOwnedTupleGo target it v) (fun _ s₂ =>
          wpAny (model prog w) (A.over (.forLoop target it body orelse env) fs) (assign target env v) (fun _ s₃ =>
            Seg (model prog w) A R Y n s₀ (.forLoop target it body orelse env) ((execs body env).wrap (turnK target it body orelse env) (turnH env) id id) fs s₃) (fun _ _ => False) s₂) (fun _ _ => False) s₁)
      (fun _ _ => False) s) :
    Seg (model prog w) A R Y n s₀ (.forLoop target it body orelse env) ((model prog w).den (.forLoop target it body orelse env)) fs s := by
  show Seg _ A R Y n s₀ _ ((forTurn target it body orelse env).onRaise (fun x => do noteFrame x env; theTreesLotGoes x)) fs s
  unfold forTurn
  rw [Sem.onRaise_eq_wrap]
  refine seg_bind_wrap (wpAny_standAt ?_)
  refine seg_bind_wrap (wpAny_onRaise (wpAny_mono h (fun r s₁ h₁ => ?_) fun _ _ x => x.elim))
  cases r with
  | none => exact h₁
  | some v =>
    refine seg_bind_wrap (wpAny_mono h₁ (fun _ s₂ h₂ => ?_) fun _ _ x => x.elim)
    refine seg_bind_wrap (wpAny_mono h₂ (fun _ s₃ h₃ => ?_) fun _ _ x => x.elim)
    rw [Sem.bind_eq_wrap', Sem.wrap_wrap]
    rw [Sem.wrap_congr (execs body env) _ _ (K' := turnK target it body orelse env) (H' := turnH env) (fun f => by cases f <;> rfl)
      (fun e => by first | exact Sem.bind_eq_wrap _ _ | (show (do noteFrame e env; theTreesLotGoes e : Sem Unit).bind (fun _ => .raise e) = _; rw [Sem.bind_eq_wrap]; rfl))]
    exact h₃

theorem segBlockNil {c : Code} (h : Seg (model prog w) A R Y n s₀ (.block [] env) (leafOf (.ok .next)) fs s) :
    Seg (model prog w) A R Y n s₀ c (.pure (.again (.block [] env))) fs s := seg_again rfl h
end
end Mine
/-! Gen -/
namespace Mine
open PySem PySem.W PySem.Spec PySem.Calls PyProof.Rows

abbrev sBS : Str := Str.ofString "\\"

/-- what the generator gives: the place and the text, by the sign and the escape -/
def escOut : Bool → Nat → List Nat → List (Nat × Str)
  | true, i, [] => [(i - 1, sBS)]
  | false, _, [] => []
  | true, i, c :: r => (i, sBS ++ ⟨#[c]⟩) :: escOut false (i + 1) r
  | false, i, c :: r => if ((⟨#[c]⟩ : Str) == sBS) = true then escOut true (i + 1) r else (i, ⟨#[c]⟩) :: escOut false (i + 1) r

def mG (a p e c : Option Value) (y : Str) : Option Value :=
  if y = "ch" then c else if y = "pos" then p else if y = "escape" then e else if y = "addr" then a else none
section
variable {a p e c : Option Value} {v : Value}
theorem mG_ch : (fun y => if y = ("ch" : Str) then some v else mG a p e c y) = mG a p e (some v) := by
  funext y; unfold mG; by_cases h : y = ("ch" : Str) <;> simp [h]
theorem mG_pos : (fun y => if y = ("pos" : Str) then some v else mG a p e c y) = mG a (some v) e c := by
  funext y; unfold mG
  by_cases h : y = ("pos" : Str)
  · subst h; rw [if_pos rfl, if_neg (by decide), if_pos rfl]
  · simp [h]
theorem mG_esc : (fun y => if y = ("escape" : Str) then some v else mG a p e c y) = mG a p (some v) c := by
  funext y; unfold mG
  by_cases h : y = ("escape" : Str)
  · subst h; rw [if_pos rfl, if_neg (by decide), if_neg (by decide), if_pos rfl]
  · simp [h]
theorem mG_at_ch : mG a p e c "ch" = c := by unfold mG; rw [if_pos rfl]
theorem mG_at_pos : mG a p e c "pos" = p := by unfold mG; rw [if_neg (by decide), if_pos rfl]
theorem mG_at_esc : mG a p e c "escape" = e := by unfold mG; rw [if_neg (by decide), if_neg (by decide), if_pos rfl]
theorem mG_at_addr : mG a p e c "addr" = a := by unfold mG; rw [if_neg (by decide), if_neg (by decide), if_neg (by decide), if_pos rfl]
end

abbrev envI (C f : Addr) (code : Value) : Env := envOf rIter.1.name rIter.1.scope C f code
def lIter : { d : Expr × Expr × List Stmt // (rIter.1.body[2]?).bind forOf = some d } := ⟨_, rfl⟩

def Since (own : List Addr) (s₀ s : Shared) : Prop :=
  ∃ h' tk, s = { s₀ with heap := h', toks := tk } ∧ ∀ b o, b ∉ own → s₀.heap.get? b = some o → h'.get? b = some o
theorem Since.refl (own : List Addr) (s : Shared) : Since own s s := ⟨s.heap, s.toks, rfl, fun _ _ _ e => e⟩
theorem Since.step {own : List Addr} {s₀ s : Shared} (x : Since own s₀ s) {h' : Heap} {tk : Nat} (hk : ∀ b o, b ∉ own → s.heap.get? b = some o → h'.get? b = some o) :
    Since own s₀ { s with heap := h', toks := tk } := by
  obtain ⟨h₁, tk₁, rfl, hk₁⟩ := x
  exact ⟨h', tk, rfl, fun b o hw e => hk b o hw (hk₁ b o hw e)⟩

def PP (own : List Addr) (n : Nat) (s₀ s₁ : Shared) : Prop := n = 0 ∧ Since own s₀ s₁
def RR (own : List Addr) : GenEnd := fun n s₀ r s₁ => r = .ok (.ret .none) ∧ PP own n s₀ s₁
def YY (own : List Addr) (outs : List (Nat × Str)) : Protocol := fun m s₀ v s kap =>
  (∃ (T p : Nat) (txt : Str) (tp tt : Tok), outs.reverse[m]? = some (p, txt) ∧ v = .ref T ∧ s.heap.IsTuple T #[.int (p : Int) tp, .str txt tt]) ∧ Since own s₀ s ∧
    ∀ s'' : Shared, (∀ b ∈ own, ∀ o, s.heap.get? b = some o → s''.heap.get? b = some o) → kap (.send .none) s''

theorem rev_at {α : Type} (pre : List α) (o : α) (r : List α) : (pre ++ o :: r).reverse[r.length]? = some o := by
  simp [List.reverse_append, List.reverse_cons]

theorem drawsStr {prog : Program} {w : World} {A : Around} (hh : A.handled = none) (it : Addr) (x : Str) (t : Tok) :
    Draws prog w A it [it] x.cps.size (fun i v => ∃ c u, x.cps[i]? = some c ∧ v = .str ⟨#[c]⟩ u) (fun i h => h.IsStrIter it (strIterType x) x t i) := by
  unfold strIterType
  by_cases h : x.cps.all (· < 128) = true
  · rw [if_pos h]; exact Draws.strAscii hh it x t
  · rw [if_neg h]; exact Draws.strWide hh it x t

section
variable {M : Model} {w : World} {A : Around} {E : Value → Shared → Prop} {s : Shared} {C f : Addr} {code : Value} {m : Str → Option Value}

theorem ldI {y : Str} {pos : Pos} {v : Value} {Q : Value → Shared → Prop} (hn : s.heap.Ns C m) (hv : m y = some v) (h : Q v s) (hl : (envI C f code).kindOf y = some .local := by rfl)
    (hd : (y == ("__debug__" : Str)) = false := by decide) : wpAny M A (eval (.Name y pos) (envI C f code)) Q E s :=
  wpAny_Name (wpAny_loadName_local rfl hl hn hv h) hd
theorem stI {y : Str} {v : Value} {Q : Unit → Shared → Prop} (hn : s.heap.Ns C m)
    (h : ∀ h', h'.Ns C (fun z => if z = y then some v else m z) → Heap.SameBut C s.heap h' → Q () { s with heap := h', toks := s.toks + 1 }) (hl : (envI C f code).kindOf y = some .local := by rfl) :
    wpAny M A (storeName (envI C f code) y v) Q E s := wpAny_storeName_local hl hn h rfl
end

section
variable {w : World} {A : Around} {C f e it : Addr} {code : Value} {x : Str} {t : Tok} {outs : List (Nat × Str)}

theorem genLoop (hh : A.handled = none) (hCe : C ≠ e) (hCi : C ≠ it) (hei : e ≠ it) (p : Pos) (Kf : Flow → Sem Fin) (Hf : Value → Sem Fin)
    (hend : ∀ n s₀ s' esc pv tp ch, s'.heap.Ns C (mG (some (.str x t)) (some (.int pv tp)) (some (.bool esc)) ch) → Since [C, e, it] s₀ s' → (esc = true → pv = ((x.cps.size - 1 : Nat) : Int)) →
      n = (escOut esc x.cps.size []).length → (∃ pre, outs = pre ++ escOut esc x.cps.size []) → Seg (model pw w) A (RR [C, e, it]) (YY [C, e, it] outs) n s₀ (.func rIter.1.body (envI C f code)) (Kf .next) [] s') :
    ∀ (k i : Nat) (esc : Bool) (n : Nat) (s₀ s : Shared) (pv : Int) (tp : Tok) (ch : Option Value) (old : Value), x.cps.size - i = k → i ≤ x.cps.size → IsEnum s.heap e it i old → s.heap.IsStrIter it (strIterType x) x t i →
      s.heap.Ns C (mG (some (.str x t)) (some (.int pv tp)) (some (.bool esc)) ch) → (esc = true → pv = ((i - 1 : Nat) : Int)) → Since [C, e, it] s₀ s →
      n = (escOut esc i (x.cps.toList.drop i)).length → (∃ pre, outs = pre ++ escOut esc i (x.cps.toList.drop i)) →
      Seg (model pw w) A (RR [C, e, it]) (YY [C, e, it] outs) n s₀ (.forLoop lIter.1.1 (.ref e) lIter.1.2.2 [] (envI C f code)) ((model pw w).den (.forLoop lIter.1.1 (.ref e) lIter.1.2.2 [] (envI C f code)))
        [.ret (backF (envI C f code) Kf Hf id id) none (id false) (id []) (.func rIter.1.body (envI C f code)) p []] s := by
  have heO : e ∉ [it] := by simp [hei]
  intro k
  induction k with
  | zero =>
    intro i esc n s₀ s pv tp ch old hk hi he hit hn hpv hsince hlen hpre
    have hin : i = x.cps.size := by omega
    subst hin
    rw [List.drop_of_length_le (by simp)] at hlen hpre
    have D := drawsStr (prog := pw) (w := w) (A := (A.over (.forLoop lIter.1.1 (.ref e) lIter.1.2.2 [] (envI C f code)) [.ret (backF (envI C f code) Kf Hf id id) none (id false) (id []) (.func rIter.1.body (envI C f code)) p []]).in1) hh it x t
    have W := WalksT.enumerateD D e hei heO (by simp)
    refine segForLoop (W.done s _ _ ⟨⟨old, he⟩, hit⟩ fun h' tk hk' => ?_)
    refine segBlockNil (seg_leaf (.ok .next) ?_)
    have hnC : h'.Ns C (mG (some (.str x t)) (some (.int pv tp)) (some (.bool esc)) ch) := hn.at fun o y => hk' C o (by simp [hCe, hCi]) y
    exact hend n s₀ _ esc pv tp ch hnC (hsince.step fun b o hb y => hk' b o (fun hm => hb (List.mem_cons_of_mem _ hm)) y) hpv hlen hpre
  | succ k ih =>
    intro i esc n s₀ s pv tp ch old hk hi he hit hn hpv hsince hlen hpre
    have hlt : i < x.cps.size := by omega
    have D := drawsStr (prog := pw) (w := w) (A := (A.over (.forLoop lIter.1.1 (.ref e) lIter.1.2.2 [] (envI C f code)) [.ret (backF (envI C f code) Kf Hf id id) none (id false) (id []) (.func rIter.1.body (envI C f code)) p []]).in1) hh it x t
    have W := WalksT.enumerateD D e hei heO (by simp)
    refine segForLoop (W.item i s _ _ hlt ⟨⟨old, he⟩, hit⟩ fun T vals h₁ tk₁ hP _ hT hM hk₁ => ?_)
    obtain ⟨tn, xv, ⟨c, u, hc, rfl⟩, rfl⟩ := hP
    have hTw := W.apart i T h₁ hM
    refine W.go _ _ _ i T _ _ _ hM fun h₂ st₂ hk₂ => ?_
    obtain ⟨⟨old₂, he₂⟩, hit₂⟩ := st₂
    have hT₂ : h₂.IsTuple T #[.int (i : Int) tn, .str ⟨#[c]⟩ u] := let ⟨o, ho, r⟩ := hT; ⟨o, hk₂ _ _ hTw ho, r⟩
    have hn₂ : h₂.Ns C (mG (some (.str x t)) (some (.int pv tp)) (some (.bool esc)) ch) := hn.at fun o y => hk₂ C o (by simp [hCe, hCi]) (hk₁ C o (by simp [hCe, hCi]) y)
    have hd : x.cps.toList.drop i = c :: x.cps.toList.drop (i + 1) := by
      have h1 : i < x.cps.toList.length := by simpa using hlt
      rw [List.drop_eq_getElem_cons h1]
      congr 1
      have := (Array.getElem?_eq_some_iff.mp hc).2
      simpa using this
    rw [hd] at hlen hpre
    have aw : ∀ b o, b ∉ [C, e, it] → s.heap.get? b = some o → h₂.get? b = some o := fun b o hb y => hk₂ b o (fun hm => hb (List.mem_cons_of_mem _ hm)) (hk₁ b o (fun hm => hb (List.mem_cons_of_mem _ hm)) y)
    refine wpAny_assign_Tuple hh hT₂ rfl rfl fun h₃ hx₃ => ?_
    have k₃ : ∀ b o, h₂.get? b = some o → h₃.get? b = some o := fun b o y => hx₃ b o (Nat.ne_of_lt (Heap.lt_size y)) y
    have hn₃ := hn₂.at fun o y => k₃ C o y
    show wpAny _ _ (do holding [_] (assign (.Name "pos" _) (envI C f code) _); do holding [] (assign (.Name "ch" _) (envI C f code) _); pure ()) _ _ _
    refine wpAny_bind (wpAny_holding (wpAny_assign_Name (stI hn₃ fun h₄ hn₄ s₄ => ?_)))
    rw [mG_pos] at hn₄
    refine wpAny_bind (wpAny_holding (wpAny_assign_Name (stI hn₄ fun h₅ hn₅ s₅ => ?_)))
    refine wpAny_pure ?_
    rw [mG_ch] at hn₅
    have k₅ : ∀ b o, b ≠ C → h₂.get? b = some o → h₅.get? b = some o := fun b o hb y => s₅.extBut b o hb (s₄.extBut b o hb (k₃ b o y))
    have aw₅ : ∀ b o, b ∉ [C, e, it] → s.heap.get? b = some o → h₅.get? b = some o := fun b o hb y => k₅ b o (fun hm => hb (hm ▸ List.mem_cons_self)) (aw b o hb y)
    have he₅ : ∃ old, IsEnum h₅ e it ((i + 1 : Nat) : Int) old := ⟨_, k₅ e _ (Ne.symm hCe) he₂⟩
    have hit₅ : h₅.IsStrIter it (strIterType x) x t (i + 1) := (let ⟨o, ho, r⟩ := hit₂; ⟨o, k₅ it o (Ne.symm hCi) ho, r⟩)
    obtain ⟨old₅, he₅⟩ := he₅
    have hK : ∀ b ∈ [C, e, it], ∃ o, h₅.get? b = some o := by
      intro b hb
      simp only [List.mem_cons, List.not_mem_nil, or_false] at hb
      rcases hb with rfl | rfl | rfl
      · obtain ⟨o, _, _, x, _⟩ := id hn₅; exact ⟨o, x⟩
      · exact ⟨_, he₅⟩
      · obtain ⟨o, x, _⟩ := id hit₅; exact ⟨o, x⟩
    -- how the generator gives a pair and goes on
    have give : ∀ (p' : Nat) (txt : Str) (tp' tt : Tok) (r : List (Nat × Str)) (tk : Nat) (pre : List (Nat × Str)) (G : Shared → Prop) (kap : Resume → Shared → Prop), outs = pre ++ (p', txt) :: r →
        (∀ s'', (∀ b ∈ [C, e, it], ∀ o, h₅.get? b = some o → s''.heap.get? b = some o) → G s'') → (∀ x s'', (match x with | .ref _ => False | _ => G s'') → kap (.send x) s'') →
        YY [C, e, it] outs r.length s₀ (.ref h₅.objs.size) { s with heap := h₅.push { cls := .type "tuple", data := .seq #[.int (p' : Int) tp', .str txt tt] }, toks := tk } kap := by
      intro p' txt tp' tt r tk pre G kap ho hG hk
      refine ⟨⟨_, p', txt, tp', tt, by rw [ho]; exact rev_at pre _ r, rfl, _, Heap.get?_push_size _ rfl, rfl, 0, rfl⟩, hsince.step fun b o hb y => Heap.get?_push_of_some _ (aw₅ b o hb y), fun s'' hs => ?_⟩
      exact hk .none s'' (hG s'' fun b hb o y => hs b hb o (Heap.get?_push_of_some _ y))
    dsimp only [lIter]
    refine seg_execs_cons (segIf (isTrue_plain (ldI hn₅ mG_at_esc (wpAny_truthy_bool ?_))))
    obtain ⟨pre, hpre⟩ := hpre
    cases esc with
    | true =>
      rw [if_pos rfl]
      simp only [escOut, List.length_cons] at hlen hpre
      subst hlen
      refine seg_execs_cons (segYield rfl rfl rfl (wpAny_Tuple (spliced_more (ldI hn₅ mG_at_pos (spliced_more (wpAny_BinOp (wpAny_Constant_str (ldI (s := { s with heap := h₅, toks := _ }) hn₅ mG_at_ch (add_str (fun t' tk => spliced_none ⟨show 2 ≤ sizeLine by decide, fun kap hk => ?_⟩) (show 2 ≤ sizeLine by decide))))))))))
      refine give i _ _ _ _ _ pre _ kap hpre ?_ hk
      intro s'' hs
      have hn₆ := hn₅.at fun o y => hs C (by simp) o y
      refine seg_execs_cons (segStmt (wpAny_Assign_Name (wpAny_Constant_bool ?_)))
      refine stI hn₆ fun h₇ hn₇ s₇ => ?_
      rw [mG_esc] at hn₇
      refine seg_again rfl (ih (i + 1) false _ _ _ _ _ _ _ (by omega) (by omega) (s₇.extBut e _ (Ne.symm hCe) (hs e (by simp) _ he₅)) ?_ hn₇ (fun x => by cases x) ((Since.refl _ _).step fun b o hb y => s₇.extBut b o (fun hm => hb (hm ▸ List.mem_cons_self)) y) rfl ⟨pre ++ [_], hpre.trans (List.append_cons _ _ _)⟩)
      obtain ⟨o, y, r⟩ := hit₅
      exact ⟨o, s₇.extBut it o (Ne.symm hCi) (hs it (by simp) o y), r⟩
    | false =>
      rw [if_neg (by decide)]
      refine seg_execs_cons (segIf (wpAny_isTrue_Compare1 ?_))
      refine ldI hn₅ mG_at_ch (wpAny_Constant_str (eq_str (wpAny_truthy_bool ?_)))
      by_cases hb : ((⟨#[c]⟩ : Str) == sBS) = true
      · rw [if_pos hb]
        simp only [escOut, if_pos hb] at hlen hpre
        subst hlen
        refine seg_execs_cons (segStmt (wpAny_Assign_Name (wpAny_Constant_bool ?_)))
        refine stI (s := { s with heap := h₅, toks := _ }) hn₅ fun h₇ hn₇ s₇ => ?_
        rw [mG_esc] at hn₇
        refine seg_again rfl (ih (i + 1) true _ _ _ _ _ _ _ (by omega) (by omega) (s₇.extBut e _ (Ne.symm hCe) he₅) ?_ hn₇ (fun _ => by simp) (hsince.step fun b o hb y => s₇.extBut b o (fun hm => hb (hm ▸ List.mem_cons_self)) (aw₅ b o hb y)) rfl ⟨pre, hpre⟩)
        obtain ⟨o, y, r⟩ := hit₅
        exact ⟨o, s₇.extBut it o (Ne.symm hCi) y, r⟩
      · rw [if_neg hb]
        simp only [escOut, if_neg hb, List.length_cons] at hlen hpre
        subst hlen
        refine seg_execs_cons (segYield rfl rfl rfl (wpAny_Tuple (spliced_more (ldI (s := { s with heap := h₅, toks := _ }) hn₅ mG_at_pos (spliced_more (ldI (s := { s with heap := h₅, toks := _ }) hn₅ mG_at_ch (spliced_none ⟨show 2 ≤ sizeLine by decide, fun kap hk => ?_⟩)))))))
        refine give i _ _ _ _ _ pre _ kap hpre ?_ hk
        intro s'' hs
        have hn₆ := hn₅.at fun o y => hs C (by simp) o y
        refine seg_again rfl (ih (i + 1) false _ _ _ _ _ _ _ (by omega) (by omega) (hs e (by simp) _ he₅) ?_ hn₆ (fun x => by cases x) (Since.refl _ _) rfl ⟨pre ++ [_], hpre.trans (List.append_cons _ _ _)⟩)
        obtain ⟨o, y, r⟩ := hit₅
        exact ⟨o, hs it (by simp) o y, r⟩
end
end Mine
/-! Gen2 -/
namespace Mine
open PySem PySem.W PySem.Spec PySem.Calls PyProof.Rows

section
variable {w : World} {A : Around} {C f : Addr} {code : Value} {x : Str} {t : Tok} {mean : ExcName → Option Value} {mg mb : Str → Option Value} {h₀ : Heap} {s : Shared}

theorem genFresh (hh : A.handled = none) (T : Top q loose mean mg mb h₀) (F : Fr h₀ C s.heap (mG (some (.str x t)) none none none)) :
    Seg (model pw w) A (RR [C, s.heap.objs.size + 1, s.heap.objs.size]) (YY [C, s.heap.objs.size + 1, s.heap.objs.size] (escOut false 0 x.cps.toList)) (escOut false 0 x.cps.toList).length s
      (.func rIter.1.body (envI C f code)) ((model pw w).den (.func rIter.1.body (envI C f code))) [] s := by
  refine seg_func ?_
  dsimp only [rIter]
  have hsz := F.ns.lt
  have d1 : C ≠ s.heap.objs.size + 1 := Nat.ne_of_lt (Nat.lt_succ_of_lt hsz)
  have d2 : C ≠ s.heap.objs.size := Nat.ne_of_lt hsz
  have d3 : s.heap.objs.size + 1 ≠ s.heap.objs.size := Nat.succ_ne_self _
  refine seg_execs_cons (segStmt (wpAny_Assign_Name (wpAny_Constant_int ?_)))
  refine stI F.ns fun h₁ hn₁ s₁ => ?_
  rw [mG_pos] at hn₁
  have F₁ := F.set hn₁ s₁
  refine seg_execs_cons (segStmt (wpAny_Assign_Name (wpAny_Constant_bool ?_)))
  refine stI F₁.ns fun h₂ hn₂ s₂ => ?_
  rw [mG_esc] at hn₂
  have F₂ := F₁.set hn₂ s₂
  have hz₂ : h₂.objs.size = s.heap.objs.size := s₂.1.trans s₁.1
  refine seg_execs_cons (segFor ?_)
  refine Call_ (tp_builtinK F₂ T (v := .type "enumerate") (by rfl) ?_)
  refine callWith_type1 (spliced_more (ldI F₂.ns (by rfl) (spliced_none ?_)))
  refine call_enumerate_str fun h₃ he hit hz₃ k₃ => ?_
  replace he : IsEnum h₃ (s.heap.objs.size + 1) s.heap.objs.size 0 .none := by rw [← hz₂]; exact he
  replace hit : h₃.IsStrIter s.heap.objs.size (strIterType x) x t 0 := by rw [← hz₂]; exact hit
  replace k₃ : ∀ b o, h₂.get? b = some o → h₃.get? b = some o := k₃
  show wpAny _ _ (pyIter (.ref (h₂.objs.size + 1))) _ _ _
  rw [hz₂]
  refine wpAny_pyIter_enum he ?_
  intro p
  refine genLoop (C := C) (e := s.heap.objs.size + 1) (it := s.heap.objs.size) (code := code) (x := x) (t := t) hh d1 d2 d3 p _ _ ?_ (x.cps.size - 0) 0 false _ _ _ 0 _ none _ rfl (Nat.zero_le _) he hit (hn₂.at fun o y => k₃ C o y) (fun h => by cases h) ?_ (by simp) ⟨[], by simp⟩
  · intro n s₀ s' esc pv tp ch hn' hsince hpv hlen hpre
    obtain ⟨pre, hpre⟩ := hpre
    refine seg_execs_cons (segIf (isTrue_plain (ldI hn' mG_at_esc (wpAny_truthy_bool ?_))))
    cases esc with
    | false =>
      rw [if_neg (by decide)]
      refine seg_execs_nil (seg_execs_nil (seg_end (.ok (.ret .none)) (show RR _ _ _ _ _ from ⟨rfl, ?_, hsince⟩)))
      simpa [escOut] using hlen
    | true =>
      rw [if_pos rfl]
      simp only [escOut, List.length_cons, List.length_nil] at hlen hpre
      subst hlen
      have := hpv rfl
      subst this
      refine seg_execs_cons (segYield rfl rfl rfl (wpAny_Tuple (spliced_more (ldI hn' mG_at_pos (spliced_more (wpAny_Constant_str (spliced_none ⟨show 2 ≤ sizeLine by decide, fun kap hk => ?_⟩)))))))
      refine ⟨⟨_, _, _, _, _, by rw [hpre]; exact rev_at pre _ [], rfl, _, Heap.get?_push_size _ rfl, rfl, 0, rfl⟩, ?_, fun s'' hs => hk .none s'' ?_⟩
      · exact hsince.step fun b o hb y => Heap.get?_push_of_some _ y
      · exact seg_execs_nil (seg_execs_nil (seg_end (.ok (.ret .none)) (show RR _ _ _ _ _ from ⟨rfl, rfl, Since.refl _ _⟩)))
  · refine (Since.refl _ _).step fun b o hb y => k₃ b o (s₂.extBut b o ?_ (s₁.extBut b o ?_ y))
    · exact fun hm => hb (hm ▸ List.mem_cons_self)
    · exact fun hm => hb (hm ▸ List.mem_cons_self)
end
end Mine
/-! Gen3 -/
namespace Mine
open PySem PySem.W PySem.Spec PySem.Calls PyProof.Rows

section
variable {prog : Program} {w : World} {A : Around} {E : Value → Shared → Prop} {s : Shared}

theorem nextGenQ {a : Addr} {g n : Nat} {gs : GenState} {P : Nat → Shared → Shared → Prop} {Y : Protocol} {Q : Option Value → Shared → Prop} (hh : A.handled = none)
    (hl : s.heap.NoLimit) (hroom : A.depth < recursionLimit)
    (hg : s.heap.IsGen a g) (hgs : s.gens[g]? = some gs)
    (hgo : gs.Goes (model prog w) A.in1 (fun n s₀ r s₁ => r = .ok (.ret .none) ∧ P n s₀ s₁) Y n (.send .none) (s.setGen g .running))
    (hY : ∀ v s₁ gs', gs'.bare = true → Y (n - 1) (s.setGen g .running) v s₁ (fun r' s'' => match n with
        | 0 => False
        | m + 1 => gs'.Goes (model prog w) A.in1 (fun n s₀ r s₁ => r = .ok (.ret .none) ∧ P n s₀ s₁) Y m r' s'') → Q (some v) (s₁.setGen g gs'))
    (hP : ∀ s₁, P n (s.setGen g .running) s₁ → ∀ h', (∀ b o, s₁.heap.get? b = some o → h'.get? b = some o) → Q none { s₁.setGen g .finished with heap := h' }) :
    wpAny (model prog w) A (pyNext (.ref a)) Q E s := by
  unfold pyNext
  refine wpAny_bind (wpAny_attempt (wpAny_callSpecial?_slot (name := Str.ofString "__next__") hg.typeIs slot_gen_next
    (wpAny_call_entry slot_gen_next hg.typeIs entry_gen_next ?_ (args_gen_next _))))
  show wpAny _ A.in1 (Builtin.Generator.genWake (.ref a) (.send .none)) _ _ s
  unfold Builtin.Generator.genWake
  refine wpAny_bind (wpAny_holding (wpAny_genNumber hg (wpAny_bind (wpAny_genState hgs ?_))))
  cases gs with
  | running => exact hgo.elim
  | finished => exact hgo.elim
  | _ =>
    refine wpAny_bind (wpAny_roomToWake hl hroom ?_)
    show wpAny _ A.in1 (.resume g (.send .none) [] _) _ _ s
    refine wpAny_resumeQ hgs hgo (fun x s₁ hx => ?_) (fun v s₁ gs' hb hv => wpAny_pure ⟨v, rfl, wpAny_pure (hY v s₁ gs' hb hv)⟩)
    obtain ⟨rfl, hp⟩ := hx
    show wpAny _ A.in1 (newExc (.type "StopIteration") [] >>= _) _ _ _
    refine wpAny_bind ?_
    simp only [newExc, newTuple]
    refine wpAny_bind (wpAny_newObj_type ?_ (by size_fits))
    refine wpAny_bind (m := firstArgMember _ _) (wpAny_of_eq (a := Value.none) (by first | rfl | (simp only [firstArgMember]; rfl)) ?_)
    refine wpAny_newObj_type ?_ (by size_fits)
    simp only [raiseNew]
    refine wpAny_bind (wpAny_bind (wpAny_handled ?_))
    rw [show A.in1.handled = none from hh]
    refine wpAny_throw ?_
    refine wpAny_bind (wpAny_isInstance (T := "StopIteration") (b := true) ⟨_, Heap.get?_push_size _ rfl, rfl⟩ isSubtype_stop ?_)
    exact wpAny_pure (hP s₁ hp _ fun b o hb => Heap.get?_push_of_some _ (Heap.get?_push_of_some _ hb))

/-- the generator object at its first wake -/
def EscFresh (a f : Addr) (g : Nat) (C : Addr) (h₀ : Heap) (x : Str) (s : Shared) : Prop :=
  s.heap.IsGen a g ∧ ∃ code t, s.gens[g]? = some (.fresh (.func rIter.1.body (envI C f code))) ∧ Fr h₀ C s.heap (mG (some (.str x t)) none none none)

def EscAt (w : World) (A : Around) (a f : Addr) (g : Nat) (h₀ : Heap) (own : List Addr) (r : List (Nat × Str)) (s : Shared) : Prop :=
  a ∉ own ∧ (∀ b ∈ own, h₀.objs.size ≤ b) ∧ s.heap.IsGen a g ∧ ((∃ C x, own = [C] ∧ EscFresh a f g C h₀ x s ∧ r = escOut false 0 x.cps.toList) ∨
    ∃ gs outs, s.gens[g]? = some gs ∧ (∃ pre, outs = pre ++ r) ∧
      ∀ s'' : Shared, (∀ b ∈ own, ∀ o, s.heap.get? b = some o → s''.heap.get? b = some o) → gs.Goes (model pw w) A (RR own) (YY own outs) r.length (.send .none) s'')

def SinceG (own : List Addr) (g : Nat) (s s' : Shared) : Prop :=
  ∃ h' tk gs', s' = { s with heap := h', toks := tk, gens := gs' } ∧ (∀ b o, b ∉ own → s.heap.get? b = some o → h'.get? b = some o) ∧ GenOnlyQ g s.gens gs'

theorem EscAt.frame {a f : Addr} {g : Nat} {h₀ : Heap} {own : List Addr} {r : List (Nat × Str)} {s s' : Shared} (x : EscAt w A a f g h₀ own r s)
    (hg : s'.gens[g]? = s.gens[g]?) (hk : ∀ b ∈ a :: own, ∀ o, s.heap.get? b = some o → s'.heap.get? b = some o) (h₀k : ∀ b o, h₀.get? b = some o → s'.heap.get? b = some o) : EscAt w A a f g h₀ own r s' := by
  obtain ⟨ha, hz, hgen, h⟩ := x
  have hgen' : s'.heap.IsGen a g := let ⟨o, nm, qn, ho, r⟩ := hgen; ⟨o, nm, qn, hk a List.mem_cons_self o ho, r⟩
  refine ⟨ha, hz, hgen', ?_⟩
  rcases h with ⟨C, x, rfl, ⟨_, code, t, hs, F⟩, hr⟩ | ⟨gs, outs, hs, hp, hgo⟩
  · exact .inl ⟨C, x, rfl, ⟨hgen', code, t, hg.trans hs, F.ns.at fun o y => hk C (by simp) o y, h₀k, F.above⟩, hr⟩
  · exact .inr ⟨gs, outs, hg.trans hs, hp, fun s'' h => hgo s'' fun b hb o y => h b hb o (hk b (List.mem_cons_of_mem _ hb) o y)⟩
end

section
variable {w : World} {A : Around} {a f : Addr} {g : Nat} {h₀ : Heap} {own : List Addr} {r : List (Nat × Str)} {mean : ExcName → Option Value} {mg mb : Str → Option Value} {s : Shared} {E : Value → Shared → Prop} {Q : Option Value → Shared → Prop}

theorem EscAt.goes (hh : A.handled = none) (T : Top q loose mean mg mb h₀) (x : EscAt w A a f g h₀ own r s) :
    ∃ gs own' outs, s.gens[g]? = some gs ∧ (∃ pre, outs = pre ++ r) ∧ (∀ b ∈ own, b ∈ own') ∧ (∀ b ∈ own', b ∈ own ∨ s.heap.objs.size ≤ b) ∧ gs.Goes (model pw w) A (RR own') (YY own' outs) r.length (.send .none) (s.setGen g .running) := by
  obtain ⟨ha, hz, hgen, h⟩ := x
  rcases h with ⟨C, x, rfl, ⟨_, code, t, hs, F⟩, rfl⟩ | ⟨gs, outs, hs, hp, hgo⟩
  · refine ⟨_, [C, s.heap.objs.size + 1, s.heap.objs.size], _, hs, ⟨[], rfl⟩, by simp, ?_, rfl, ?_⟩
    · intro b hb
      simp only [List.mem_cons, List.not_mem_nil, or_false] at hb ⊢
      rcases hb with h | h | h
      · exact .inl h
      · exact .inr (h ▸ Nat.le_succ _)
      · exact .inr (Nat.le_of_eq h.symm)
    · exact genFresh (s := s.setGen g .running) hh T F
  · exact ⟨gs, own, outs, hs, hp, fun _ h => h, fun _ h => .inl h, hgo _ fun _ _ _ y => y⟩

theorem esc_next (hh : A.handled = none) (T : Top q loose mean mg mb h₀) (hl : s.heap.NoLimit) (hroom : A.depth < recursionLimit) (x : EscAt w A.in1 a f g h₀ own r s)
    (hs₀ : h₀.objs.size ≤ s.heap.objs.size)
    (hnil : r = [] → ∀ s', SinceG own g s s' → Q none s')
    (hcons : ∀ p txt r', r = (p, txt) :: r' → ∀ (P : Addr) tp tt own' s', (∀ b ∈ own', b ∈ own ∨ s.heap.objs.size ≤ b) → s'.heap.IsTuple P #[.int ((p : Nat) : Int) tp, .str txt tt] → EscAt w A.in1 a f g h₀ own' r' s' → SinceG own g s s' → Q (some (.ref P)) s') :
    wpAny (model pw w) A (pyNext (.ref a)) Q E s := by
  obtain ⟨gs, own', outs, hgs, ⟨pre, hp⟩, hsub, hnew, hgo⟩ := EscAt.goes (A := A.in1) hh T x
  obtain ⟨ha, hz, hgen, _⟩ := x
  have haH : a < s.heap.objs.size := let ⟨o, _, _, ho, _⟩ := hgen; Heap.lt_size ho
  have ha' : a ∉ own' := fun h => by rcases hnew a h with h | h; exact ha h; exact Nat.lt_irrefl _ (Nat.lt_of_lt_of_le haH h)
  have hout : ∀ b o, b ∉ own → s.heap.get? b = some o → b ∉ own' := fun b o hb y h => by rcases hnew b h with h | h; exact hb h; exact Nat.lt_irrefl _ (Nat.lt_of_lt_of_le (Heap.lt_size y) h)
  refine nextGenQ (P := PP own') hh hl hroom hgen hgs hgo (fun v s₁ gs' hb hv => ?_) (fun s₁ hp' h' hk => ?_)
  · cases r with
    | nil => exact (hv.2.2 s₁ fun _ _ _ y => y).elim
    | cons o r' =>
      obtain ⟨⟨P, p, txt, tp, tt, hi, rfl, hT⟩, ⟨h₁, tk₁, rfl, hk₁⟩, hkap⟩ := hv
      have : o = (p, txt) := by
        rw [hp] at hi
        have := rev_at pre o r'
        simp only [List.length_cons, Nat.add_sub_cancel] at hi
        rw [this] at hi
        exact Option.some.inj hi
      subst this
      refine hcons p txt r' rfl P tp tt own' _ hnew hT ?_ ⟨h₁, tk₁, _, rfl, fun b o hb y => hk₁ b o (hout b o hb y) y, ?_⟩
      · refine ⟨ha', fun b hb => ?_, let ⟨o, nm, qn, ho, r⟩ := hgen; ⟨o, nm, qn, hk₁ a o ha' ho, r⟩, .inr ⟨gs', outs, setGen_self (gs := .running) (setGen_self hgs), ⟨pre ++ [(p, txt)], hp.trans (List.append_cons _ _ _)⟩, fun s'' hal => hkap s'' hal⟩⟩
        rcases hnew b hb with h | h
        · exact hz b h
        · exact Nat.le_trans hs₀ h
      · exact GenOnlyQ.of ((GenOnly.setGen s g .running).trans (GenOnly.setGen _ g gs')) (setGen_self (gs := .running) (setGen_self hgs)) hb
  · obtain ⟨h0, h₁, tk₁, rfl, hk₁⟩ := hp'
    cases r with
    | cons o r' => simp at h0
    | nil =>
      refine hnil rfl _ ⟨h', tk₁, _, rfl, fun b o hb y => hk b o (hk₁ b o (hout b o hb y) y), ?_⟩
      exact GenOnlyQ.of ((GenOnly.setGen s g .running).trans (GenOnly.setGen _ g .finished)) (setGen_self (gs := .running) (setGen_self hgs)) rfl
end
end Mine
/-! Gen4 -/
namespace Mine
open PySem PySem.W PySem.Spec PySem.Calls PyProof.Rows

section
variable {prog : Program} {w : World} {A : Around} {E : Value → Shared → Prop} {s : Shared}
theorem letGo_gen {elts : List Expr} {x1} {pos : Pos} {I T : Addr} {g : Nat} {Q : Unit → Shared → Prop} (hit : s.heap.IsGen I g) (hQ : Q () s) :
    wpAny (model prog w) A (letOwnedTupleGo (.Tuple elts x1 pos) (.ref I) (.ref T)) Q E s := by
  obtain ⟨o, nm, qn, ho, hc, hd, _⟩ := hit
  unfold letOwnedTupleGo
  refine wpAny_bind (wpAny_load ho ?_)
  rw [hc, hd]
  show wpAny _ A (if (["enumerate", "zip", "dict_itemiterator", "dict_reverseitemiterator", "odict_iterator", "itertools.zip_longest", "itertools.pairwise"].contains "generator" &&
      (#[.int g 0, nm, qn] : Array Value)[0]? == some (rawInt T)) = true then _ else _) Q E s
  rw [if_neg (by simp)]
  exact wpAny_pure hQ
end

theorem SinceG.keep {own : List Addr} {g : Nat} {s s' : Shared} (x : SinceG own g s s') {b : Addr} {o : Obj} (hb : b ∉ own) (y : s.heap.get? b = some o) : s'.heap.get? b = some o := by
  obtain ⟨h', tk, gs', rfl, hk, _⟩ := x; exact hk b o hb y

section
variable {w : World} {A : Around} {a f : Addr} {g : Nat} {h₀ : Heap} {own : List Addr} {r : List (Nat × Str)} {mean : ExcName → Option Value} {mg mb : Str → Option Value} {s : Shared} {E E₂ E₃ : Value → Shared → Prop}
  {Zn Zc : Shared → Prop} {env : Env} {m : Str → Option Value} {xi xv : Str} {pi pv pt : Pos} {k : Nat}

theorem escTurn (hh : A.handled = none) (T : Top q loose mean mg mb h₀) (hk₀ : ∀ b o, h₀.get? b = some o → s.heap.get? b = some o) (hs₀ : h₀.objs.size ≤ s.heap.objs.size)
    (hroom : A.depth < recursionLimit) (x : EscAt w A.in1 a f g h₀ own r s)
    (hn : s.heap.Ns env.locals m) (hL : env.locals ∉ own) (hLa : env.locals ≠ a) (hL₀ : h₀.objs.size ≤ env.locals) (hxi : env.kindOf xi = some .local) (hxv : env.kindOf xv = some .local)
    (hp : (env.scope.kind == .class || (env.scope.kind == .module && env.locals != env.globals)) = false)
    (hnil : r = [] → ∀ s', SinceG own g s s' → Zn s')
    (hcons : ∀ p txt r', r = (p, txt) :: r' → ∀ own' s' tp tt, (∀ b ∈ own', b ∈ own ∨ s.heap.objs.size ≤ b) → EscAt w A.in1 a f g h₀ own' r' s' →
      s'.heap.Ns env.locals (fun y => if y = xv then some (.str txt tt) else if y = xi then some (.int ((p : Nat) : Int) tp) else m y) → SinceG (env.locals :: own) g s s' → Zc s') :
    wpAny (model pw w) A (pyNext (.ref a)) (fun r s₁ => match r with
      | none => Zn s₁
      | some v => wpAny (model pw w) A (letOwnedTupleGo (.Tuple [.Name xi pi, .Name xv pv] k pt) (.ref a) v) (fun _ s₂ =>
          wpAny (model pw w) A (assign (.Tuple [.Name xi pi, .Name xv pv] k pt) env v) (fun _ s₃ => Zc s₃) E₃ s₂) E₂ s₁) E s := by
  refine esc_next hh T (T.nolimit.keeps hk₀) hroom x hs₀ (fun hr s' hs => hnil hr s' hs) (fun p txt r' hr P tp tt own' s' hnew hT hx hs => ?_)
  obtain ⟨h₁, tk₁, gs₁, rfl, hk₁, hG⟩ := id hs
  have hL' : env.locals ∉ own' := fun h => by rcases hnew _ h with h | h; exact hL h; exact Nat.lt_irrefl _ (Nat.lt_of_lt_of_le hn.lt h)
  refine letGo_gen hx.2.2.1 ?_
  refine wpAny_assign_Tuple hh hT rfl rfl fun h₂ hx₂ => ?_
  have k₂ : ∀ b o, h₁.get? b = some o → h₂.get? b = some o := fun b o y => hx₂ b o (Nat.ne_of_lt (Heap.lt_size y)) y
  have hn₂ : h₂.Ns env.locals m := hn.at fun o y => k₂ _ o (hk₁ _ o hL y)
  show wpAny _ A (do holding [_] (assign (.Name xi pi) env _); do holding [] (assign (.Name xv pv) env _); pure ()) _ _ _
  refine wpAny_bind (wpAny_holding (wpAny_assign_Name (wpAny_storeName_local hxi hn₂ (fun h₃ hn₃ s₃ => ?_) hp)))
  refine wpAny_bind (wpAny_holding (wpAny_assign_Name (wpAny_storeName_local hxv hn₃ (fun h₄ hn₄ s₄ => wpAny_pure ?_) hp)))
  have k₄ : ∀ b o, b ≠ env.locals → h₁.get? b = some o → h₄.get? b = some o := fun b o hb y => s₄.extBut b o hb (s₃.extBut b o hb (k₂ b o y))
  refine hcons p txt r' hr own' _ tp tt hnew ?_ hn₄ ⟨h₄, _, gs₁, rfl, fun b o hb y => k₄ b o (fun h => hb (h ▸ List.mem_cons_self)) (hk₁ b o (fun h => hb (List.mem_cons_of_mem _ h)) y), hG⟩
  refine hx.frame rfl ?_ ?_
  · intro b hb o y
    refine k₄ b o ?_ y
    rintro rfl
    rcases List.mem_cons.mp hb with h | h
    · exact hLa h
    · exact hL' h
  · intro b o y
    have hb : b < h₀.objs.size := Heap.lt_size y
    refine k₄ b o (fun h => Nat.lt_irrefl _ (Nat.lt_of_lt_of_le (h ▸ hb) hL₀)) (hk₁ b o (fun h => Nat.lt_irrefl _ (Nat.lt_of_lt_of_le hb (x.2.1 b h))) (hk₀ b o y))

/-- the call makes the generator -/
theorem esc_call {t : Tok} {xs : Str} {R : Result → Shared → Prop} {o : Obj} {pm cd doc : Value} (hroom : A.depth < recursionLimit) (hlim : s.heap.NoLimit)
    (ho : s.heap.get? f = some o) (hdata : o.data = .func (docDef rIter.1.name rIter.1.params rIter.1.body rIter.1.scope pm cd doc)) (hcd : s.heap.CodeRec cd rIter.1.name)
    (hk₀ : ∀ b o, h₀.get? b = some o → s.heap.get? b = some o) (hs₀ : h₀.objs.size ≤ s.heap.objs.size)
    (h : ∀ h' tk gs', (∀ b o, s.heap.get? b = some o → h'.get? b = some o) → h'.objs.size = s.heap.objs.size + 2 → gs' = s.gens.push (.fresh (.func rIter.1.body (envI s.heap.objs.size f cd))) →
      (∀ A' : Around, EscAt w A' (s.heap.objs.size + 1) f s.gens.size h₀ [s.heap.objs.size] (escOut false 0 xs.cps.toList) { s with heap := h', toks := tk, gens := gs' }) →
      R (.ok (.ret (.ref (s.heap.objs.size + 1)))) { s with heap := h', toks := tk, gens := gs' }) :
    codeAny (model pw w) A (.call (.ref f) ⟨[.str xs t], []⟩) R s := by
  refine codeAny_call_generator hroom ho hdata rfl rfl rfl hcd ?_
  rw [show bindArgs (docDef rIter.1.name rIter.1.params rIter.1.body rIter.1.scope pm cd doc) ⟨[.str xs t], []⟩ = pure [(Str.ofString "addr", .str xs t)] from rfl]
  refine wpAny_pure (wpAny_newFunctionEnv (show ∀ x ∈ rIter.1.scope.names, x.2 ≠ .cell by decide) (locs (by rfl)) (fun h₁ hns hsb => ⟨hlim.fresh _ hsb, ?_⟩) rfl)
  have k₁ : ∀ b o, s.heap.get? b = some o → h₁.get? b = some o := fun b o e => hsb.extBut b o (Nat.ne_of_lt (Heap.lt_size e)) (Heap.get?_push_of_some _ e)
  have hz₁ : h₁.objs.size = s.heap.objs.size + 1 := hsb.1.trans (Heap.size_push ..)
  show R (.ok (.ret (.ref h₁.objs.size))) _
  rw [hz₁]
  refine h _ _ _ (fun b o y => Heap.get?_push_of_some _ (k₁ b o y)) (by show (Heap.push h₁ _).objs.size = _; rw [Heap.size_push, hz₁]) rfl fun A' => ?_
  have hgen : ({ s with heap := h₁.push { cls := .type "generator", data := .fields #[.int s.gens.size 0, .str rIter.1.name (s.toks + 1), .str rIter.1.name (s.toks + 1 + 1)] } } : Shared).heap.IsGen (s.heap.objs.size + 1) s.gens.size :=
    ⟨_, _, _, hz₁ ▸ Heap.get?_push_size _ rfl, rfl, rfl, rfl⟩
  refine ⟨by simp, by simpa using hs₀, hgen, .inl ⟨_, xs, rfl, ⟨hgen, cd, t, Array.getElem?_push_size .., ?_, fun b o y => Heap.get?_push_of_some _ (k₁ b o (hk₀ b o y)), hs₀⟩, rfl⟩⟩
  have : (fun x => [(Str.ofString "addr", Value.str xs t)].reverse.lookup x) = mG (some (.str xs t)) none none none := by
    funext y
    show List.lookup y [(Str.ofString "addr", Value.str xs t)] = _
    unfold mG
    by_cases h : y = ("addr" : Str)
    · subst h; rfl
    · have h' : (y == Str.ofString "addr") = false := by simpa using h
      rw [List.lookup_cons, h']
      simp [h]
  rw [← this]
  exact hns.push _
end
end Mine
/-! Chk -/
namespace Mine
open PySem PySem.W PySem.Spec PySem.Calls PyProof.Rows

def GK (a b : Array GenState) : Prop := (∀ (i : Nat) (x : GenState), a[i]? = some x → b[i]? = some x) ∧ a.size ≤ b.size ∧ ((∀ y ∈ a, y.bare = true) → ∀ y ∈ b, y.bare = true)
theorem GK.refl (a : Array GenState) : GK a a := ⟨fun _ _ h => h, Nat.le_refl _, fun h => h⟩
theorem GK.trans {a b c : Array GenState} (x : GK a b) (y : GK b c) : GK a c := ⟨fun i z h => y.1 i z (x.1 i z h), Nat.le_trans x.2.1 y.2.1, fun h => y.2.2 (x.2.2 h)⟩
theorem GK.push (a : Array GenState) {g : GenState} (hg : g.bare = true) : GK a (a.push g) := by
  refine ⟨fun i x h => ?_, by simp, fun h y hy => ?_⟩
  · have : i < a.size := by
      rcases Nat.lt_or_ge i a.size with h' | h'
      · exact h'
      · rw [Array.getElem?_eq_none h'] at h; cases h
    rw [Array.getElem?_push_lt this]; rw [Array.getElem?_eq_getElem this] at h; exact h
  · rcases Array.mem_push.mp hy with h' | rfl
    · exact h y h'
    · exact hg
theorem GK.only {a b c : Array GenState} {g : Nat} (x : GK a b) (hg : a.size ≤ g) (y : GenOnlyQ g b c) : GK a c := by
  refine ⟨fun i z h => ?_, ?_, fun h => y.bare (x.2.2 h)⟩
  · have hi : i < a.size := by
      rcases Nat.lt_or_ge i a.size with h' | h'
      · exact h'
      · rw [Array.getElem?_eq_none h'] at h; cases h
    rcases y with rfl | ⟨⟨_, y⟩, _⟩
    · exact x.1 i z h
    · rw [y i (Nat.ne_of_lt (Nat.lt_of_lt_of_le hi hg))]; exact x.1 i z h
  · rcases y with rfl | ⟨⟨y, _⟩, _⟩
    · exact x.2.1
    · rw [y]; exact x.2.1

/-- from one point to a later one: what was there stands -/
def Kp (s s' : Shared) : Prop := ∃ h' tk gs', s' = { s with heap := h', toks := tk, gens := gs' } ∧ (∀ b o, s.heap.get? b = some o → h'.get? b = some o) ∧ GK s.gens gs'
theorem Kp.refl (s : Shared) : Kp s s := ⟨s.heap, s.toks, s.gens, rfl, fun _ _ h => h, GK.refl _⟩
theorem Kp.trans {a b c : Shared} (x : Kp a b) (y : Kp b c) : Kp a c := by
  obtain ⟨h₁, t₁, g₁, rfl, k₁, G₁⟩ := x
  obtain ⟨h₂, t₂, g₂, rfl, k₂, G₂⟩ := y
  exact ⟨h₂, t₂, g₂, rfl, fun b o h => k₂ b o (k₁ b o h), G₁.trans G₂⟩
theorem Kp.keep {s s' : Shared} (x : Kp s s') : ∀ b o, s.heap.get? b = some o → s'.heap.get? b = some o := by
  obtain ⟨h₁, t₁, g₁, rfl, k₁, G₁⟩ := x; exact k₁
theorem Kp.gsz {s s' : Shared} (x : Kp s s') : s.gens.size ≤ s'.gens.size := by
  obtain ⟨h₁, t₁, g₁, rfl, k₁, G₁⟩ := x; exact G₁.2.1
/-- a step that changes only what is new since the first point -/
theorem Kp.step {s₀ s : Shared} (x : Kp s₀ s) {h' : Heap} {tk : Nat} (hk : ∀ b o, s₀.heap.get? b = some o → s.heap.get? b = some o → h'.get? b = some o) : Kp s₀ { s with heap := h', toks := tk } := by
  obtain ⟨h₁, t₁, g₁, rfl, k₁, G₁⟩ := x
  exact ⟨h', tk, g₁, rfl, fun b o h => hk b o h (k₁ b o h), G₁⟩
theorem Kp.since {s₀ s s' : Shared} {own : List Addr} {g : Nat} (x : Kp s₀ s) (hg : s₀.gens.size ≤ g) (hown : ∀ b ∈ own, s₀.heap.objs.size ≤ b) (y : SinceG own g s s') : Kp s₀ s' := by
  obtain ⟨h₁, t₁, g₁, rfl, k₁, G₁⟩ := x
  obtain ⟨h₂, t₂, g₂, rfl, k₂, G₂⟩ := y
  exact ⟨h₂, t₂, g₂, rfl, fun b o h => k₂ b o (fun hb => Nat.lt_irrefl _ (Nat.lt_of_lt_of_le (Heap.lt_size h) (hown b hb))) (k₁ b o h), G₁.only hg G₂⟩
theorem Fr.kp {h₀ : Heap} {L : Addr} {s s' : Shared} {m : Str → Option Value} (F : Fr h₀ L s.heap m) (x : Kp s s') : Fr h₀ L s'.heap m :=
  ⟨F.ns.at fun o y => x.keep _ o y, fun b o y => x.keep b o (F.keep b o y), F.above⟩

theorem stB {M : Model} {A : Around} {E : Value → Shared → Prop} {s : Shared} {name : Str} {scope : Scope} {L a : Addr} {cd : Value} {h₀ : Heap} {m : Str → Option Value} {x : Str} {v : Value} {Q : Unit → Shared → Prop} (F : Fr h₀ L s.heap m)
    (h : ∀ h', Fr h₀ L h' (fun y => if y = x then some v else m y) → Heap.SameBut L s.heap h' → Q () { s with heap := h', toks := s.toks + 1 })
    (hk : scope.kind = .function := by rfl) (hl : (envOf name scope L a cd).kindOf x = some .local := by rfl) :
    wpAny M A (storeName (envOf name scope L a cd) x v) Q E s :=
  wpAny_storeName_local hl F.ns (fun h' hn hs => h h' (F.set hn hs) hs)
    (by show (scope.kind == .class || (scope.kind == .module && L != mainGlobals)) = false; rw [hk]; rfl)

def checkGo : List (Nat × Str) → Int → Bool
  | [], n => n == 0
  | (_, t) :: r, n => if (t == Str.ofString "(") = true then checkGo r (n + 1) else if (t == Str.ofString ")") = true then (if n - 1 < 0 then false else checkGo r (n - 1)) else checkGo r n

/-- what a call gives, with no mark left -/
def Gives1 (w : World) (f : Addr) (k : Nat) (pre : List Value → Prop) (out : List Value → Shared → Value → Prop) (mean : ExcName → Option Value) (mg mb : Str → Option Value) : Prop :=
  ∀ (A : Around) (s : Shared) (vs : List Value) (R : Result → Shared → Prop), A.handled = none → A.depth + k < recursionLimit → Top q loose mean mg mb s.heap → pre vs →
    (∀ s' v, Kp s s' → out vs s' v → R (.ok (.ret v)) s') → codeAny (model pw w) A (.call (.ref f) ⟨vs, []⟩) R s

section
variable {w : World} {A : Around} {mean : ExcName → Option Value} {mg mb : Str → Option Value} {s : Shared} {f : Addr} {o : Obj} {pm cd doc : Value} {R : Result → Shared → Prop} {x : Str} {t : Tok} {strip : Str → Str}

theorem check_call (hh : A.handled = none) (hd : A.depth + 4 < recursionLimit) (T : Top q loose mean mg mb s.heap)
    (hS : ∀ fs, mg "_strip_quoted_realnames" = some (.ref fs) → Gives1 w fs 3 (fun vs => ∃ x t, vs = [.str x t] ∧ x.length ≤ 1000) (fun vs _ v => ∀ x t, vs = [.str x t] → ∃ t', v = .str (strip x) t') mean mg mb)
    (hsz : x.length ≤ 1000)
    (ho : s.heap.get? f = some o) (hdat : o.data = .func (docDef rCheck.1.name rCheck.1.params rCheck.1.body rCheck.1.scope pm cd doc)) (hcd : s.heap.CodeRec cd rCheck.1.name)
    (hR : ∀ s', Kp s s' → R (.ok (.ret (.bool (checkGo (escOut false 0 (strip x).cps.toList) 0)))) s') : codeAny (model pw w) A (.call (.ref f) ⟨[.str x t], []⟩) R s := by
  refine call_plain_ret (by omega) ho hdat T.nolimit hcd (binds := [("addr", .str x t)]) rfl (locs (by rfl)) ?_ (by rfl) (by rfl) (by rfl) (by decide)
  intro h₁ F
  dsimp only [rCheck]
  refine wpAny_execs_cons (wpAny_Assign_Name ?_)
  obtain ⟨fs, os, pms, cds, docs, hfs, hos, hds, hcs⟩ := T.fn rStrip.1 (List.mem_of_getElem? rStrip.2)
  refine Call_ (ld_global_at F T.g hfs ?_)
  refine callWith_meth (h₀ := s.heap) (first := []) hds hos (spliced_more (ld F (by rfl) (spliced_none ⟨F.keep, ?_⟩)))
  refine wpAny_call (hS fs hfs _ _ _ _ (by exact hh) (by show A.depth + 1 + 3 < _; omega) (T.keeps F.keep) ⟨x, t, rfl, hsz⟩ fun s₁ v k₁ hv => ?_)
  obtain ⟨t', rfl⟩ := hv x t rfl
  dsimp only
  have F₁ := Fr.kp F k₁
  refine st F₁ fun h₂ F₂ => ?_
  have k₂ : Kp s { s₁ with heap := h₂, toks := s₁.toks + 1 } := by
    obtain ⟨h', tk', gs', rfl, kk, G⟩ := k₁
    exact ⟨h₂, _, gs', rfl, F₂.keep, G⟩
  refine wpAny_execs_cons (wpAny_Assign_Name (wpAny_Constant_int ?_))
  refine st F₂ fun h₃ F₃ => ?_
  have k₃ : Kp s { s₁ with heap := h₃, toks := s₁.toks + 1 + 1 + 1 } := k₂.step fun b o y _ => F₃.keep b o y
  dsimp only
  obtain ⟨fi, oi, pmi, cdi, doci, hfi, hoi, hdi, hci⟩ := T.fn rIter.1 (List.mem_of_getElem? rIter.2)
  refine wpAny_execs_cons (wpAny_For ?_)
  refine Call_ (ld_global_at F₃ T.g hfi ?_)
  refine callWith_meth (h₀ := s.heap) (first := []) hdi hoi (spliced_more (ld F₃ (by rfl) (spliced_none ⟨F₃.keep, ?_⟩)))
  refine wpAny_call (esc_call (h₀ := s.heap) (by show A.depth + 1 < _; omega) (T.nolimit.keeps F₃.keep) (F₃.keep _ _ hoi) hdi (hci.keeps F₃.keep) F₃.keep (Nat.le_trans F₃.above (Nat.le_of_lt F₃.ns.lt)) fun h₄ tk₄ gs₄ k₄ hz₄ hgs₄ hE => ?_)
  dsimp only
  refine wpAny_pyIter_gen (hE A).2.2.1 ?_
  have hg₀ : s.gens.size ≤ s₁.gens.size := k₁.gsz
  have K₄ : Kp s { s₁ with heap := h₄, gens := gs₄, toks := tk₄ } := by
    obtain ⟨h', tk', gs', rfl, kk, G⟩ := k₁
    subst hgs₄
    exact ⟨h₄, _, _, rfl, fun b o y => k₄ b o (F₃.keep b o y), G.trans (GK.push _ rfl)⟩
  have n₄ := F₃.ns.at fun o y => k₄ _ o y
  have hL₃ : s.heap.objs.size < h₃.objs.size := F₃.ns.lt
  refine codeAny_forLoop_any (fun n s' => ∃ r own m nn tkn, n = r.length ∧ Kp s s' ∧ EscAt w (A.deeper (envOf rCheck.1.name rCheck.1.scope s.heap.objs.size f cd)).in1 (h₃.objs.size + 1) fi s₁.gens.size s.heap own r s' ∧ s.heap.objs.size ∉ own ∧
      s'.heap.Ns s.heap.objs.size m ∧ m "opens" = some (.int nn tkn) ∧ checkGo r nn = checkGo (escOut false 0 (strip x).cps.toList) 0) ?_ _
    ⟨_, _, _, _, _, rfl, K₄, hE _, by simpa using Nat.ne_of_lt hL₃, n₄, rfl, rfl⟩
  rintro n s₅ ⟨r, own, m, nn, tkn, rfl, K₅, hE₅, hL₅, n₅, hm₅, hc₅⟩
  have F₅ : Fr s.heap s.heap.objs.size s₅.heap m := ⟨n₅, K₅.keep, Nat.le_refl _⟩
  refine escTurn (env := envOf rCheck.1.name rCheck.1.scope s.heap.objs.size f cd) (by exact hh) T K₅.keep (Nat.le_of_lt n₅.lt) (by show A.depth + 1 < _; omega) hE₅ n₅ hL₅ (by show s.heap.objs.size ≠ h₃.objs.size + 1; exact Nat.ne_of_lt (Nat.lt_succ_of_lt hL₃)) (Nat.le_refl _) rfl rfl rfl ?_ ?_
  · rintro rfl s₆ h₆
    have K₆ := K₅.since hg₀ hE₅.2.1 h₆
    have F₆ : Fr s.heap s.heap.objs.size s₆.heap m := ⟨n₅.at fun o y => h₆.keep hL₅ y, K₆.keep, Nat.le_refl _⟩
    refine wpAny_execs_nil ?_
    refine wpAny_execs_cons (wpAny_Return_some (wpAny_Compare1 (ld F₆ hm₅ (wpAny_Constant_int (eq_int ?_)))))
    have := hR { s₆ with toks := s₆.toks + 1 } (K₆.step fun b o _ y => y)
    rw [← hc₅] at this
    exact this
  · rintro p txt r' rfl own' s₆ tp tt hnew hE₆ n₆ h₆
    have K₆ : Kp s s₆ := K₅.since hg₀ (fun b hb => by rcases List.mem_cons.mp hb with rfl | hb; exact Nat.le_refl _; exact hE₅.2.1 b hb) h₆
    have F₆ : Fr s.heap s.heap.objs.size s₆.heap _ := ⟨n₆, K₆.keep, Nat.le_refl _⟩
    have hL₆ : s.heap.objs.size ∉ own' := fun h => by rcases hnew _ h with h | h; exact hL₅ h; exact Nat.lt_irrefl _ (Nat.lt_of_lt_of_le n₅.lt h)
    refine wpAny_execs_cons (wpAny_If (wpAny_isTrue_Compare1 ?_))
    refine ld F₆ (v := .str txt tt) rfl (Constant_str (eq_str (wpAny_truthy_bool ?_)))
    simp only [checkGo] at hc₅
    have next : ∀ (s₇ : Shared) (n' : Int) (tk' : Tok) (m' : Str → Option Value), Kp s s₇ → s₇.gens = s₆.gens → (∀ b o, b ≠ s.heap.objs.size → s₆.heap.get? b = some o → s₇.heap.get? b = some o) →
        s₇.heap.Ns s.heap.objs.size m' → m' "opens" = some (.int n' tk') → checkGo r' n' = checkGo (escOut false 0 (strip x).cps.toList) 0 →
        ∃ mm, mm < ((p, txt) :: r').length ∧ ∃ r own m nn tkn, mm = r.length ∧ Kp s s₇ ∧ EscAt w (A.deeper (envOf rCheck.1.name rCheck.1.scope s.heap.objs.size f cd)).in1 (h₃.objs.size + 1) fi s₁.gens.size s.heap own r s₇ ∧ s.heap.objs.size ∉ own ∧
      s₇.heap.Ns s.heap.objs.size m ∧ m "opens" = some (.int nn tkn) ∧ checkGo r nn = checkGo (escOut false 0 (strip x).cps.toList) 0 := by
      intro s₇ n' tk' m' K₇ hg₇ hk₇ n₇ hm₇ hc₇
      refine ⟨r'.length, by simp, r', own', m', n', tk', rfl, K₇, hE₆.frame (by rw [hg₇]) (fun b hb o y => hk₇ b o ?_ y) K₇.keep, hL₆, n₇, hm₇, hc₇⟩
      rintro rfl
      rcases List.mem_cons.mp hb with h | h
      · exact Nat.lt_irrefl _ (h ▸ Nat.lt_succ_of_lt hL₃)
      · exact hL₆ h
    by_cases h1 : (txt == Str.ofString "(") = true
    · rw [if_pos h1] at hc₅ ⊢
      refine wpAny_execs_cons (wpAny_AugAssign_Name (ldn F₆ (v := .int nn tkn) hm₅ (wpAny_Constant_int (iadd_int ?_))))
      refine stB F₆ fun h₇ F₇ s₇ => wpAny_execs_nil (wpAny_execs_nil ?_)
      refine next _ (nn + 1) _ _ ?_ ?_ ?_ F₇.ns rfl hc₅
      · exact K₆.step fun b o y _ => F₇.keep b o y
      · rfl
      · exact fun b o hb y => s₇.extBut b o hb y
    · rw [if_neg h1] at hc₅ ⊢
      refine wpAny_execs_cons (wpAny_If (wpAny_isTrue_Compare1 ?_))
      refine ld F₆ (v := .str txt tt) rfl (Constant_str (eq_str (wpAny_truthy_bool ?_)))
      by_cases h2 : (txt == Str.ofString ")") = true
      · rw [if_pos h2] at hc₅ ⊢
        refine wpAny_execs_cons (wpAny_AugAssign_Name (ldn F₆ (v := .int nn tkn) hm₅ (wpAny_Constant_int (isub_int ?_))))
        refine stB F₆ fun h₇ F₇ s₇ => ?_
        refine wpAny_execs_cons (wpAny_If (wpAny_isTrue_Compare1 ?_))
        refine ld F₇ (v := .int (nn - 1) _) rfl (wpAny_Constant_int (lt_int (wpAny_truthy_bool ?_)))
        by_cases h3 : nn - 1 < 0
        · rw [if_pos h3] at hc₅
          rw [if_pos (by simpa using h3)]
          refine wpAny_execs_cons (wpAny_Return_some (wpAny_Constant_bool ?_))
          have hRt : ∀ tk, R (.ok (.ret (.bool false))) { s₆ with heap := h₇, toks := tk } := fun tk => by
            have := hR { s₆ with heap := h₇, toks := tk } (K₆.step fun b o y _ => F₇.keep b o y)
            rw [← hc₅] at this
            exact this
          exact hRt _
        · rw [if_neg h3] at hc₅
          rw [if_neg (by simpa using h3)]
          refine wpAny_execs_nil (wpAny_execs_nil (wpAny_execs_nil (wpAny_execs_nil ?_)))
          refine next _ (nn - 1) _ _ ?_ ?_ ?_ F₇.ns rfl hc₅
          · exact K₆.step fun b o y _ => F₇.keep b o y
          · rfl
          · exact fun b o hb y => s₇.extBut b o hb y
      · rw [if_neg h2] at hc₅ ⊢
        refine wpAny_execs_nil (wpAny_execs_nil (wpAny_execs_nil ?_))
        refine next _ nn _ _ ?_ ?_ ?_ F₆.ns hm₅ hc₅
        · exact K₆.step fun b o _ y => y
        · rfl
        · exact fun b o _ y => y
end
end Mine
/-! Strip -/
namespace Mine
open PySem PySem.W PySem.Spec PySem.Calls PyProof.Rows

abbrev sQ : Str := Str.ofString "\""
abbrev sE : Str := Str.ofString ""

def stripGo (x : Str) : List (Nat × Str) → Nat → Option Nat → List Str → List Str
  | [], st, _, res => if (st : Int) < (x.length : Int) then res ++ [Txt.slice x (some (st : Int)) none] else res
  | (p, t) :: r, st, op, res =>
    if (t == sQ) = true then
      match op with
      | none => stripGo x r st (some p) res
      | some o => stripGo x r (p + 1) none (if ((st : Int) != (o : Int)) = true then res ++ [Txt.slice x (some (st : Int)) (some (o : Int))] else res)
    else stripGo x r st op res

def noQ (x : Str) : Bool := !(!(Builtin.Str.occurrences x sQ 0 x.length 1).isEmpty)
def strip (x : Str) : Str := if noQ x = true then x else Txt.join sE (stripGo x (escOut false 0 x.cps.toList) 0 none [])

theorem escOut_len : ∀ (l : List Nat) (b : Bool) (i : Nat), (escOut b i l).length ≤ l.length + 1
  | [], true, _ => by simp [escOut]
  | [], false, _ => by simp [escOut]
  | c :: r, true, i => by simp only [escOut, List.length_cons]; have := escOut_len r false (i + 1); omega
  | c :: r, false, i => by
    simp only [escOut]
    split
    · have := escOut_len r true (i + 1); simp only [List.length_cons]; omega
    · have := escOut_len r false (i + 1); simp only [List.length_cons]; omega

def opV (op : Option Nat) (t : Tok) : Value := match op with
  | none => .none
  | some o => .int (o : Int) t

section
variable {w : World} {A : Around} {mean : ExcName → Option Value} {mg mb : Str → Option Value} {s : Shared} {f : Addr} {o : Obj} {pm cd doc : Value} {R : Result → Shared → Prop} {x : Str} {t : Tok}

theorem strValues_push (l : List (Str × Tok)) (y : Str) (u : Tok) : (strValues l).toArray.push (.str y u) = (strValues (l ++ [(y, u)])).toArray := by simp [strValues]

theorem sliceGoes {l u : Option (Int × Tok)} {Q : Value → Shared → Prop} {s : Shared} (hsz : x.length ≤ 1000)
    (h : ∀ t' k, Q (.str (Txt.slice x (l.map (·.1)) (u.map (·.1))) t') { s with toks := k }) : (sliceMade x t l u none).post Q s :=
  post_val_or_str ⟨Nat.le_trans (Txt.slice_le x _ _) (Nat.le_trans hsz (by decide)), fun t' k => h t' k⟩

set_option maxHeartbeats 1000000 in
theorem strip_call (hh : A.handled = none) (hd : A.depth + 3 < recursionLimit) (T : Top q loose mean mg mb s.heap) (hsz : x.length ≤ 1000)
    (ho : s.heap.get? f = some o) (hdat : o.data = .func (docDef rStrip.1.name rStrip.1.params rStrip.1.body rStrip.1.scope pm cd doc)) (hcd : s.heap.CodeRec cd rStrip.1.name)
    (hR : ∀ s' t', Kp s s' → R (.ok (.ret (.str (strip x) t'))) s') : codeAny (model pw w) A (.call (.ref f) ⟨[.str x t], []⟩) R s := by
  refine call_plain_ret (by omega) ho hdat T.nolimit hcd (binds := [("addr", .str x t)]) rfl (locs (by rfl)) ?_ (by rfl) (by rfl) (by rfl) (by decide)
  intro h₁ F
  dsimp only [rStrip]
  have K₁ : Kp s { s with heap := h₁, toks := s.toks + 1 } := (Kp.refl s).step fun b o y _ => F.keep b o y
  refine wpAny_execs_cons (wpAny_If (wpAny_isTrue_Compare1 ?_))
  refine Constant_str (ld (v := .str x t) F rfl (P.notIn_str (wpAny_truthy_bool ?_)))
  by_cases hq : noQ x = true
  · have hq' : (!(!(Builtin.Str.occurrences x (Str.ofString "\"") 0 x.length 1).isEmpty)) = true := hq
    rw [if_pos hq']
    refine wpAny_execs_cons (wpAny_Return_some (ld (v := .str x t) F rfl ?_))
    have : ∀ s' t', Kp s s' → R (.ok (.ret (.str x t'))) s' := by
      intro s' t' k; have := hR s' t' k; unfold strip at this; rw [if_pos hq] at this; exact this
    exact this _ _ (K₁.step fun b o _ y => y)
  have hR' : ∀ s' t', Kp s s' → R (.ok (.ret (.str (Txt.join sE (stripGo x (escOut false 0 x.cps.toList) 0 none [])) t'))) s' := by
    intro s' t' k; have := hR s' t' k; unfold strip at this; rw [if_neg hq] at this; exact this
  have hq' : ¬ (!(!(Builtin.Str.occurrences x (Str.ofString "\"") 0 x.length 1).isEmpty)) = true := hq
  rw [if_neg hq']
  refine wpAny_execs_nil ?_
  refine wpAny_execs_cons (wpAny_Assign_Name (wpAny_Constant_int ?_))
  refine st F fun h₂ F₂ => ?_
  refine wpAny_execs_cons (wpAny_Assign_Name (wpAny_Constant_none ?_))
  refine st F₂ fun h₃ F₃ => ?_
  refine wpAny_execs_cons (wpAny_Assign_Name (wpAny_List (spliced_none ?_)))
  refine ⟨by decide, ?_⟩
  -- the list of the results
  have hL₃ : s.heap.objs.size < h₃.objs.size := F₃.ns.lt
  have F₃' : Fr s.heap s.heap.objs.size (h₃.push { cls := .type "list", data := .seq [].toArray }) _ := ⟨F₃.ns.push _, fun b o y => Heap.get?_push_of_some _ (F₃.keep b o y), F₃.above⟩
  have hP₃ : PlainL (h₃.push { cls := .type "list", data := .seq [].toArray }) h₃.objs.size #[] := ⟨_, _, Heap.get?_push_size _ rfl, rfl, rfl, rfl⟩
  refine stB F₃' fun h₄ F₄ s₄ => ?_
  have hP₄ : PlainL h₄ h₃.objs.size #[] := hP₃.extBut s₄.extBut (Nat.ne_of_gt hL₃)
  have hz₄ : h₄.objs.size = h₃.objs.size + 1 := s₄.1.trans (Heap.size_push ..)
  obtain ⟨fi, oi, pmi, cdi, doci, hfi, hoi, hdi, hci⟩ := T.fn rIter.1 (List.mem_of_getElem? rIter.2)
  refine wpAny_execs_cons (wpAny_For ?_)
  refine Call_ (ld_global_at F₄ T.g hfi ?_)
  refine callWith_meth (h₀ := s.heap) (first := []) hdi hoi (spliced_more (ld (v := .str x t) F₄ (by rfl) (spliced_none ⟨F₄.keep, ?_⟩)))
  refine wpAny_call (esc_call (h₀ := s.heap) (by show A.depth + 1 < _; omega) (T.nolimit.keeps F₄.keep) (F₄.keep _ _ hoi) hdi (hci.keeps F₄.keep) F₄.keep (Nat.le_trans F₄.above (Nat.le_of_lt F₄.ns.lt)) fun h₅ tk₅ gs₅ k₅ hz₅ hgs₅ hE => ?_)
  dsimp only
  refine wpAny_pyIter_gen (hE A).2.2.1 ?_
  have K₅ : Kp s { s with heap := h₅, gens := gs₅, toks := tk₅ } := by
    subst hgs₅
    exact ⟨h₅, _, _, rfl, fun b o y => k₅ b o (F₄.keep b o y), GK.push _ rfl⟩
  have n₅ := F₄.ns.at fun o y => k₅ _ o y
  have hP₅ : PlainL h₅ h₃.objs.size #[] := hP₄.keeps k₅
  have hD : h₃.objs.size < h₄.objs.size := by omega
  have houts : (escOut false 0 x.cps.toList).length ≤ 1001 := by
    have := escOut_len x.cps.toList false 0
    have : x.cps.toList.length = x.length := by simp [Str.length]
    omega
  generalize houtsE : escOut false 0 x.cps.toList = outs at hE hR' houts
  refine codeAny_forLoop_any (fun n s' => ∃ r own m st op l tks tko, n = r.length ∧ Kp s s' ∧ EscAt w (A.deeper (envOf rStrip.1.name rStrip.1.scope s.heap.objs.size f cd)).in1 (h₄.objs.size + 1) fi s.gens.size s.heap own r s' ∧ s.heap.objs.size ∉ own ∧ h₃.objs.size ∉ own ∧
      s'.heap.Ns s.heap.objs.size m ∧ m "addr" = some (.str x t) ∧ m "start" = some (.int ((st : Nat) : Int) tks) ∧ m "open_pos" = some (opV op tko) ∧ m "result" = some (.ref h₃.objs.size) ∧
      PlainL s'.heap h₃.objs.size (strValues l).toArray ∧ l.length + r.length ≤ 1001 ∧ (∀ y ∈ l.map (·.1), y.length ≤ x.length) ∧ stripGo x r st op (l.map (·.1)) = stripGo x outs 0 none []) ?_ _
    ⟨_, _, _, 0, none, [], _, 0, rfl, K₅, hE _, by simpa using Nat.ne_of_lt (Nat.lt_trans hL₃ hD), by simpa using Nat.ne_of_lt hD, n₅, rfl, rfl, rfl, rfl, hP₅, by simpa using houts, by simp, rfl⟩
  rintro n s₆ ⟨r, own, m, sta, op, l, tks, tko, rfl, K₆, hE₆, hL₆, hD₆, n₆, hma, hms, hmo, hmr, hP₆, hlen, hbd, hgo⟩
  have hls : (strValues l).toArray.size ≤ sizeLine := by
    have : (strValues l).toArray.size = l.length := by simp [strValues]
    have h2 : l.length ≤ 1001 := by omega
    rw [this]; exact Nat.le_trans h2 (by decide)
  refine escTurn (env := envOf rStrip.1.name rStrip.1.scope s.heap.objs.size f cd) (by exact hh) T K₆.keep (Nat.le_of_lt n₆.lt) (by show A.depth + 1 < _; omega) hE₆ n₆ hL₆ (by show s.heap.objs.size ≠ h₄.objs.size + 1; exact Nat.ne_of_lt (Nat.lt_succ_of_lt (Nat.lt_trans hL₃ hD))) (Nat.le_refl _) rfl rfl rfl ?_ ?_
  · rintro rfl s₇ h₇
    have K₇ := K₆.since (Nat.le_refl _) hE₆.2.1 h₇
    have F₇ : Fr s.heap s.heap.objs.size s₇.heap m := ⟨n₆.at fun o y => h₇.keep hL₆ y, K₇.keep, Nat.le_refl _⟩
    have hP₇ : PlainL s₇.heap h₃.objs.size (strValues l).toArray := let ⟨ob, nn, ho, r⟩ := hP₆; ⟨ob, nn, h₇.keep hD₆ ho, r⟩
    refine wpAny_execs_nil ?_
    refine wpAny_execs_cons (wpAny_If (wpAny_isTrue_Compare1 ?_))
    refine ld F₇ hms ?_
    refine Call_ (tp_builtinK F₇ T (v := .builtin "len") (by rfl) ?_)
    refine callWith_builtin1 (spliced_more (ld F₇ hma (spliced_none (len_str (by have : x.length ≤ 1000 := hsz; omega) ?_))))
    refine lt_int (wpAny_truthy_bool ?_)
    -- the join at the end
    have fin : ∀ (s₈ : Shared) (l' : List (Str × Tok)) (m' : Str → Option Value), Kp s s₈ → Fr s.heap s.heap.objs.size s₈.heap m' → m' "result" = some (.ref h₃.objs.size) → PlainL s₈.heap h₃.objs.size (strValues l').toArray → l'.length ≤ 1002 →
        (∀ y ∈ l'.map (·.1), y.length ≤ x.length) → l'.map (·.1) = stripGo x outs 0 none [] →
        wpAny (model pw w) (A.deeper (envOf rStrip.1.name rStrip.1.scope s.heap.objs.size f cd)) (execs (rStrip.1.body.drop 6) (envOf rStrip.1.name rStrip.1.scope s.heap.objs.size f cd))
          (fun f s' => R (.ok (.ret (match f with | .ret v => v | _ => .none))) s') (fun _ _ => False) s₈ := by
      intro s₈ l' m' K₈ F₈ hmr₈ hP₈ hl₈ hb₈ he₈
      dsimp only [rStrip, List.drop]
      refine wpAny_execs_cons (wpAny_Return_some ?_)
      refine MethodCall_ (Constant_str (GM.join ?_))
      have F₉ : Fr s.heap s.heap.objs.size ({ s₈ with toks := s₈.toks + 1 } : Shared).heap m' := F₈
      refine callWith_method1 (spliced_more (ld F₉ hmr₈ (spliced_none ?_)))
      refine SC.join (l := l') (texts := stripGo x outs 0 none []) hP₈.isList he₈ ?_ fun t' k => ?_
      · unfold JoinOk
        rw [Bool.not_eq_true']
        refine StrLaws.joinFits (B := 1000) (fun y hy => Nat.le_trans (hb₈ y (he₈ ▸ hy)) hsz) ?_
        have : (stripGo x outs 0 none []).length ≤ 1002 := by rw [← he₈]; simpa using hl₈
        have e0 : (sE : Str).length = 0 := rfl
        show _ * 1000 + _ * (sE : Str).length ≤ _
        rw [e0]; omega
      · exact hR' _ t' (K₈.step fun b o _ y => y)
    by_cases h1 : (sta : Int) < (x.length : Int)
    · rw [if_pos (by simpa using h1)]
      simp only [stripGo, if_pos h1] at hgo
      refine wpAny_execs_cons (wpAny_Expr ?_)
      refine wpAny_Call_append rfl rfl rfl rfl ?_
      refine ld F₇ hmr ⟨_, _, rfl, hP₇, ?_⟩
      refine wpAny_Subscript_str_slice (ld F₇ hma (evalPart_some_step (ld F₇ hms (evalPart_none_step ⟨x, t, some (sta, tks), none, rfl, rfl, rfl, ?_⟩))))
      refine sliceGoes hsz fun t' k => ?_
      refine list_append_plainL (hP₇.keeps fun b o y => Heap.get?_push_of_some _ y) (fun h₈ hP₈ s₈ => ?_) hls
      rw [strValues_push] at hP₈
      have k₈ : ∀ b o, b ≠ h₃.objs.size → s₇.heap.get? b = some o → h₈.get? b = some o := fun b o hb y => s₈.extBut b o hb (Heap.get?_push_of_some _ y)
      refine wpAny_execs_nil ?_
      have F₈ : Fr s.heap s.heap.objs.size h₈ m := ⟨F₇.ns.at fun o y => k₈ _ o (Nat.ne_of_lt hL₃) y, fun b o y => k₈ b o (Nat.ne_of_lt (Nat.lt_trans (Heap.lt_size y) hL₃)) (F₇.keep b o y), Nat.le_refl _⟩
      refine fin _ (l ++ [(Txt.slice x (some (sta : Int)) none, t')]) m ?_ F₈ hmr hP₈ (by simp only [List.length_nil] at hlen; simp only [List.length_append, List.length_cons, List.length_nil]; omega) ?_ (by simpa using hgo)
      · exact K₇.step fun b o y _ => F₈.keep b o y
      · intro y hy
        rw [List.map_append] at hy
        rcases List.mem_append.mp hy with h | h
        · exact hbd y h
        · simp only [List.map_cons, List.map_nil, List.mem_singleton] at h
          subst h
          exact Txt.slice_le _ _ _
    · rw [if_neg (by simpa using h1)]
      simp only [stripGo, if_neg h1] at hgo
      refine wpAny_execs_nil ?_
      exact fin _ l m (K₇.step fun b o _ y => y) F₇ hmr hP₇ (by simp only [List.length_nil] at hlen; omega) hbd hgo
  · rintro p txt r' rfl own' s₇ tp tt hnew hE₇ n₇ h₇
    have K₇ : Kp s s₇ := K₆.since (Nat.le_refl _) (fun b hb => by rcases List.mem_cons.mp hb with rfl | hb; exact Nat.le_refl _; exact hE₆.2.1 b hb) h₇
    have F₇ : Fr s.heap s.heap.objs.size s₇.heap _ := ⟨n₇, K₇.keep, Nat.le_refl _⟩
    have hL₇ : s.heap.objs.size ∉ own' := fun h => by rcases hnew _ h with h | h; exact hL₆ h; exact Nat.lt_irrefl _ (Nat.lt_of_lt_of_le n₆.lt h)
    have hD' : h₃.objs.size < s₆.heap.objs.size := let ⟨ob, nn, ho, r⟩ := hP₆; Heap.lt_size ho
    have hD₇ : h₃.objs.size ∉ own' := fun h => by rcases hnew _ h with h | h; exact hD₆ h; exact Nat.lt_irrefl _ (Nat.lt_of_lt_of_le hD' h)
    have hP₇ : PlainL s₇.heap h₃.objs.size (strValues l).toArray := let ⟨ob, nn, ho, r⟩ := hP₆; ⟨ob, nn, h₇.keep (by simp only [List.mem_cons, not_or]; exact ⟨Nat.ne_of_gt hL₃, hD₆⟩) ho, r⟩
    have next : ∀ (s₈ : Shared) (st' : Nat) (op' : Option Nat) (l' : List (Str × Tok)) (tks' tko' : Tok) (m' : Str → Option Value), Kp s s₈ → s₈.gens = s₇.gens → (∀ b o, b ≠ s.heap.objs.size → b ≠ h₃.objs.size → s₇.heap.get? b = some o → s₈.heap.get? b = some o) →
        s₈.heap.Ns s.heap.objs.size m' → m' "addr" = some (.str x t) → m' "start" = some (.int ((st' : Nat) : Int) tks') → m' "open_pos" = some (opV op' tko') → m' "result" = some (.ref h₃.objs.size) → PlainL s₈.heap h₃.objs.size (strValues l').toArray →
        l'.length ≤ l.length + 1 → (∀ y ∈ l'.map (·.1), y.length ≤ x.length) → stripGo x r' st' op' (l'.map (·.1)) = stripGo x outs 0 none [] →
        ∃ mm, mm < ((p, txt) :: r').length ∧ ∃ r own m st op l tks tko, mm = r.length ∧ Kp s s₈ ∧ EscAt w (A.deeper (envOf rStrip.1.name rStrip.1.scope s.heap.objs.size f cd)).in1 (h₄.objs.size + 1) fi s.gens.size s.heap own r s₈ ∧ s.heap.objs.size ∉ own ∧ h₃.objs.size ∉ own ∧
      s₈.heap.Ns s.heap.objs.size m ∧ m "addr" = some (.str x t) ∧ m "start" = some (.int ((st : Nat) : Int) tks) ∧ m "open_pos" = some (opV op tko) ∧ m "result" = some (.ref h₃.objs.size) ∧
      PlainL s₈.heap h₃.objs.size (strValues l).toArray ∧ l.length + r.length ≤ 1001 ∧ (∀ y ∈ l.map (·.1), y.length ≤ x.length) ∧ stripGo x r st op (l.map (·.1)) = stripGo x outs 0 none [] := by
      intro s₈ st' op' l' tks' tko' m' K₈ hg₈ hk₈ n₈ e1 e2 e3 e4 hP₈ e5 e6 e7
      simp only [List.length_cons] at hlen
      refine ⟨r'.length, by simp, r', own', m', st', op', l', tks', tko', rfl, K₈, hE₇.frame (by rw [hg₈]) (fun b hb o y => hk₈ b o ?_ ?_ y) K₈.keep, hL₇, hD₇, n₈, e1, e2, e3, e4, hP₈, by omega, e6, e7⟩
      · rintro rfl
        rcases List.mem_cons.mp hb with h | h
        · exact Nat.lt_irrefl _ (h ▸ Nat.lt_succ_of_lt (Nat.lt_trans hL₃ hD))
        · exact hL₇ h
      · rintro rfl
        rcases List.mem_cons.mp hb with h | h
        · exact Nat.lt_irrefl _ (h ▸ Nat.lt_succ_of_lt hD)
        · exact hD₇ h
    simp only [stripGo] at hgo
    refine wpAny_execs_cons (wpAny_If (wpAny_isTrue_Compare1 ?_))
    refine ld F₇ (v := .str txt tt) rfl (Constant_str (eq_str (wpAny_truthy_bool ?_)))
    by_cases h1 : (txt == Str.ofString "\"") = true
    · rw [if_pos h1] at hgo ⊢
      refine wpAny_execs_cons (wpAny_If (wpAny_isTrue_Compare1 ?_))
      refine ld F₇ (v := opV op tko) hmo (wpAny_Constant_none (is_none (wpAny_truthy_bool ?_)))
      cases op with
      | none =>
        rw [if_pos (show (opV none tko == Value.none) = true from rfl)]
        refine wpAny_execs_cons (wpAny_Assign_Name (ld F₇ (v := .int ((p : Nat) : Int) tp) rfl ?_))
        refine stB F₇ fun h₈ F₈ s₈ => wpAny_execs_nil (wpAny_execs_nil (wpAny_execs_nil ?_))
        refine next _ sta (some p) l tks tp _ ?_ ?_ ?_ F₈.ns hma hms rfl hmr ?_ (by omega) hbd hgo
        · exact K₇.step fun b o y _ => F₈.keep b o y
        · rfl
        · exact fun b o hb _ y => s₈.extBut b o hb y
        · exact hP₇.extBut s₈.extBut (Nat.ne_of_gt hL₃)
      | some oo =>
        rw [if_neg (show ¬ (opV (some oo) tko == Value.none) = true from Bool.false_ne_true)]
        refine wpAny_execs_cons (wpAny_If (wpAny_isTrue_Compare1 ?_))
        refine ld F₇ hms (ld F₇ (v := .int ((oo : Nat) : Int) tko) hmo (ne_int (wpAny_truthy_bool ?_)))
        -- the two ends
        replace hgo : stripGo x r' (p + 1) none (if ((sta : Int) != (oo : Int)) = true then l.map (·.1) ++ [Txt.slice x (some (sta : Int)) (some (oo : Int))] else l.map (·.1)) = stripGo x outs 0 none [] := hgo
        by_cases h2 : ((sta : Int) != (oo : Int)) = true
        · rw [if_pos h2] at hgo ⊢
          refine wpAny_execs_cons (wpAny_Expr ?_)
          refine wpAny_Call_append rfl rfl rfl rfl ?_
          refine ld F₇ hmr ⟨_, _, rfl, hP₇, ?_⟩
          refine wpAny_Subscript_str_slice (ld F₇ hma (evalPart_some_step (ld F₇ hms (evalPart_some_step (ld F₇ (v := .int ((oo : Nat) : Int) tko) hmo ⟨x, t, some (sta, tks), some (oo, tko), rfl, rfl, rfl, ?_⟩)))))
          refine sliceGoes hsz fun t' k => ?_
          refine list_append_plainL (hP₇.keeps fun b o y => Heap.get?_push_of_some _ y) (fun h₈ hP₈ s₈ => ?_) hls
          rw [strValues_push] at hP₈
          have k₈ : ∀ b o, b ≠ h₃.objs.size → s₇.heap.get? b = some o → h₈.get? b = some o := fun b o hb y => s₈.extBut b o hb (Heap.get?_push_of_some _ y)
          have F₈ : Fr s.heap s.heap.objs.size h₈ _ := ⟨F₇.ns.at fun o y => k₈ _ o (Nat.ne_of_lt hL₃) y, fun b o y => k₈ b o (Nat.ne_of_lt (Nat.lt_trans (Heap.lt_size y) hL₃)) (F₇.keep b o y), Nat.le_refl _⟩
          refine wpAny_execs_nil ?_
          refine wpAny_execs_cons (wpAny_Assign_Name (wpAny_BinOp (ld (s := { s₇ with heap := h₈, toks := _ }) F₈ (v := .int ((p : Nat) : Int) tp) rfl (wpAny_Constant_int (add_int ?_)))))
          refine stB F₈ fun h₉ F₉ s₉ => ?_
          refine wpAny_execs_cons (wpAny_Assign_Name (wpAny_Constant_none ?_))
          refine stB F₉ fun h₁₀ F₁₀ s₁₀ => ?_
          refine wpAny_execs_nil (wpAny_execs_nil (wpAny_execs_nil ?_))
          refine next _ (p + 1) none (l ++ [(Txt.slice x (some (sta : Int)) (some (oo : Int)), t')]) _ 0 _ ?_ ?_ ?_ F₁₀.ns hma rfl rfl hmr ?_ (by simp) ?_ ?_
          · exact K₇.step fun b o y _ => F₁₀.keep b o y
          · rfl
          · exact fun b o hb hb' y => s₁₀.extBut b o hb (s₉.extBut b o hb (k₈ b o hb' y))
          · exact (hP₈.extBut s₉.extBut (Nat.ne_of_gt hL₃)).extBut s₁₀.extBut (Nat.ne_of_gt hL₃)
          · intro y hy
            rw [List.map_append] at hy
            rcases List.mem_append.mp hy with h | h
            · exact hbd y h
            · simp only [List.map_cons, List.map_nil, List.mem_singleton] at h
              subst h
              exact Txt.slice_le _ _ _
          · simpa using hgo
        · rw [if_neg h2] at hgo ⊢
          refine wpAny_execs_nil ?_
          refine wpAny_execs_cons (wpAny_Assign_Name (wpAny_BinOp (ld F₇ (v := .int ((p : Nat) : Int) tp) rfl (wpAny_Constant_int (add_int ?_)))))
          refine stB F₇ fun h₉ F₉ s₉ => ?_
          refine wpAny_execs_cons (wpAny_Assign_Name (wpAny_Constant_none ?_))
          refine stB F₉ fun h₁₀ F₁₀ s₁₀ => ?_
          refine wpAny_execs_nil (wpAny_execs_nil (wpAny_execs_nil ?_))
          refine next _ (p + 1) none l _ 0 _ ?_ ?_ ?_ F₁₀.ns hma rfl rfl hmr ?_ (by omega) hbd hgo
          · exact K₇.step fun b o y _ => F₁₀.keep b o y
          · rfl
          · exact fun b o hb hb' y => s₁₀.extBut b o hb (s₉.extBut b o hb y)
          · exact (hP₇.extBut s₉.extBut (Nat.ne_of_gt hL₃)).extBut s₁₀.extBut (Nat.ne_of_gt hL₃)
    · rw [if_neg h1] at hgo ⊢
      refine wpAny_execs_nil (wpAny_execs_nil ?_)
      refine next _ sta op l tks tko _ ?_ ?_ ?_ F₇.ns hma hms hmo hmr hP₇ (by omega) hbd hgo
      · exact K₇.step fun b o _ y => y
      · rfl
      · exact fun b o _ _ y => y
end
end Mine
/-! Tab -/
namespace Mine
open PySem PySem.W PySem.Spec PySem.Calls PyProof.Rows

/-- the numbers that the table holds -/
def b1s : List Nat := [173, 847, 6150, 6155, 6156, 6157, 8203, 8204, 8205, 8288, 65279] ++ (List.range 16).map (65024 + ·)
def isB1 (k : Int) : Bool := (b1s.map Int.ofNat).contains k

def B1 (w : World) (mg : Str → Option Value) (h : Heap) : Prop := ∃ a n, mg "b1_set" = some (.ref a) ∧ h.SetOf (intKind pw w) a isB1 n
theorem B1.keeps {w : World} {mg : Str → Option Value} {h h' : Heap} (x : B1 w mg h) (hk : ∀ b o, h.get? b = some o → h'.get? b = some o) : B1 w mg h' := by
  obtain ⟨a, n, hm, o, es, ep, t, ho, r⟩ := x
  exact ⟨a, n, hm, o, es, ep, t, hk _ _ ho, r⟩

section
variable {w : World} {A : Around} {mean : ExcName → Option Value} {mg mb : Str → Option Value} {s : Shared} {f : Addr} {o : Obj} {pm cd doc : Value} {R : Result → Shared → Prop} {t : Tok}

theorem tab_call {c : Nat} (hd : A.depth < recursionLimit) (T : Top q loose mean mg mb s.heap) (HB : B1 w mg s.heap)
    (ho : s.heap.get? f = some o) (hdat : o.data = .func (docDef rTab.1.name rTab.1.params rTab.1.body rTab.1.scope pm cd doc)) (hcd : s.heap.CodeRec cd rTab.1.name)
    (hR : ∀ s', Keeps s s' → R (.ok (.ret (.bool (isB1 c)))) s') : codeAny (model pw w) A (.call (.ref f) ⟨[.str ⟨#[c]⟩ t], []⟩) R s := by
  refine call_plain_ret hd ho hdat T.nolimit hcd (binds := [("code", .str ⟨#[c]⟩ t)]) rfl (locs (by rfl)) ?_ (by rfl) (by rfl) (by rfl) (by decide)
  intro h₁ F
  dsimp only [rTab]
  obtain ⟨a, n, hm, hS⟩ := HB.keeps F.keep
  refine wpAny_execs_cons (wpAny_Return_some (wpAny_Compare1 ?_))
  refine Call_ (tp_builtinK F T (v := .builtin "ord") (by rfl) ?_)
  refine callWith_builtin1 (spliced_more (ld (v := .str ⟨#[c]⟩ t) F rfl (spliced_none (P.ord_of_char ?_))))
  refine ld_global_at (s := { s with heap := h₁, toks := _ }) F T.g hm ?_
  refine wpAny_inSet_of (knd := intKind pw w) (k := (c : Int)) (S := isB1) (n := n) (by simp [intKind, Value.isInt]) rfl hS ?_
  exact hR _ ⟨_, _, rfl, F.keep⟩

def sMk (n : Int) : Str := if n = 0 then Str.ofString "­" else if n = 1 then Str.ofString "​" else Str.ofString "﻿"
def sHid (v : Int) : Str := Str.ofString "\\" ++ sMk (Int.fmod (Int.fdiv v 7) 3)
def pieceRaw (v : Int) : Str :=
  let r := Int.fmod v 7
  if r = 0 then Str.ofString "\\é(" else if r = 1 then sHid v ++ Str.ofString ")(" else if r = 2 then Str.ofString "(" ++ sHid v ++ Str.ofString "("
  else if r = 3 then sHid v ++ Str.ofString "(" else if r = 4 then Str.ofString "\"(\"" else if r = 5 then Str.ofString ")" ++ sHid v ++ Str.ofString ")" else Str.ofString ")" ++ sHid v ++ Str.ofString "()"

theorem Fr.pushed {h₀ h : Heap} {L : Addr} {m : Str → Option Value} (F : Fr h₀ L h m) (o : Obj) : Fr h₀ L (h.push o) m := ⟨F.ns.push _, fun b x y => Heap.get?_push_of_some _ (F.keep b x y), F.above⟩

theorem fmod_cases7 (v : Int) : 0 ≤ v.fmod 7 ∧ v.fmod 7 < 7 := ⟨Int.fmod_nonneg_of_pos _ (by decide), Int.fmod_lt_of_pos _ (by decide)⟩
theorem fmod_cases3 (v : Int) : 0 ≤ v.fmod 3 ∧ v.fmod 3 < 3 := ⟨Int.fmod_nonneg_of_pos _ (by decide), Int.fmod_lt_of_pos _ (by decide)⟩

set_option maxHeartbeats 1000000 in
theorem piece_call {v : Int} (hd : A.depth < recursionLimit) (T : Top q loose mean mg mb s.heap)
    (ho : s.heap.get? f = some o) (hdat : o.data = .func (docDef rPiece.1.name rPiece.1.params rPiece.1.body rPiece.1.scope pm cd doc)) (hcd : s.heap.CodeRec cd rPiece.1.name)
    (hR : ∀ s' t', Keeps s s' → R (.ok (.ret (.str (pieceRaw v) t'))) s') : codeAny (model pw w) A (.call (.ref f) ⟨[.int v t], []⟩) R s := by
  refine call_plain_ret hd ho hdat T.nolimit hcd (binds := [("v", .int v t)]) rfl (locs (by rfl)) ?_ (by rfl) (by rfl) (by rfl) (by decide)
  intro h₁ F
  dsimp only [rPiece]
  have hv3 := fmod_cases3 (v.fdiv 7)
  have hv7 := fmod_cases7 v
  refine wpAny_execs_cons (wpAny_Assign_Name ?_)
  refine Subscript_ (wpAny_List (spliced_more (Constant_str (spliced_more (Constant_str (spliced_more (Constant_str (spliced_none ⟨by show 3 ≤ sizeLine; decide, ?_⟩))))))))
  have F₁ := fun o => Fr.pushed F o
  refine wpAny_BinOp (wpAny_BinOp (ld (v := .int v t) (F₁ _) rfl (wpAny_Constant_int (floordiv_int (by decide) (wpAny_Constant_int (mod_int (by decide) ?_))))))
  refine item_strsT (l := [(Str.ofString "­", _), (Str.ofString "​", _), (Str.ofString "﻿", _)]) ⟨_, Heap.get?_push_size _ rfl, rfl, _, rfl⟩ hv3.1 (by show (v.fdiv 7).fmod 3 < ((3 : Nat) : Int); omega) (by omega) fun y t' hy => ?_
  have hy' : y = sMk (Int.fmod (Int.fdiv v 7) 3) := by
    have : (v.fdiv 7).fmod 3 = 0 ∨ (v.fdiv 7).fmod 3 = 1 ∨ (v.fdiv 7).fmod 3 = 2 := by omega
    rcases this with e | e | e <;> rw [e] at hy ⊢ <;> exact (Option.some.inj hy).symm
  subst hy'
  refine st (s := { s with heap := _, toks := _ }) (F₁ _) fun h₂ F₂ => ?_
  generalize hmk : sMk (Int.fmod (Int.fdiv v 7) 3) = mk at F₂
  have hmkl : mk.length = 1 := by rw [← hmk]; unfold sMk; split; exact rfl; split <;> rfl
  have hhid : sHid v = Str.ofString "\\" ++ mk := by unfold sHid; rw [hmk]
  refine wpAny_execs_cons (wpAny_Assign_Name (wpAny_BinOp (Constant_str (ld (s := { s with heap := h₂, toks := _ }) (v := .str mk t') F₂ rfl (add_str (fun t₁ k₁ => ?_) (by rw [hmkl]; show 2 ≤ sizeLine; decide))))))
  refine st (s := { s with heap := h₂, toks := _ }) F₂ fun h₃ F₃ => ?_
  rw [← hhid] at F₃
  have hl2 : (sHid v).length = 2 := by rw [hhid, PySem.Str.length_append, hmkl]; rfl
  generalize hhd : sHid v = hid at F₃ hl2
  have F₃' : ∀ tk : Nat, Fr s.heap s.heap.objs.size ({ s with heap := h₃, toks := tk } : Shared).heap _ := fun tk => F₃
  refine wpAny_execs_cons (wpAny_Return_some ?_)
  refine Subscript_ (wpAny_List (spliced_more (Constant_str (spliced_more ?_))))
  refine wpAny_BinOp (ld (F₃' _) (v := .str hid t₁) rfl (Constant_str (add_str (fun a₁ b₁ => spliced_more ?_) (by rw [hl2]; show 4 ≤ sizeLine; decide))))
  refine wpAny_BinOp (wpAny_BinOp (Constant_str (ld (F₃' _) (v := .str hid t₁) rfl (add_str (fun a₂ b₂ => Constant_str (add_str (fun a₃ b₃ => spliced_more ?_) ?_)) ?_))))
  rotate_left
  · rw [PySem.Str.length_append, hl2]; show 4 ≤ sizeLine; decide
  · rw [hl2]; show 3 ≤ sizeLine; decide
  refine wpAny_BinOp (ld (F₃' _) (v := .str hid t₁) rfl (Constant_str (add_str (fun a₄ b₄ => spliced_more (Constant_str (spliced_more ?_))) (by rw [hl2]; show 3 ≤ sizeLine; decide))))
  refine wpAny_BinOp (wpAny_BinOp (Constant_str (ld (F₃' _) (v := .str hid t₁) rfl (add_str (fun a₅ b₅ => Constant_str (add_str (fun a₆ b₆ => spliced_more ?_) ?_)) ?_))))
  rotate_left
  · rw [PySem.Str.length_append, hl2]; show 4 ≤ sizeLine; decide
  · rw [hl2]; show 3 ≤ sizeLine; decide
  refine wpAny_BinOp (wpAny_BinOp (Constant_str (ld (F₃' _) (v := .str hid t₁) rfl (add_str (fun a₇ b₇ => Constant_str (add_str (fun a₈ b₈ => spliced_none ⟨by show 7 ≤ sizeLine; decide, ?_⟩) ?_)) ?_))))
  rotate_left
  · rw [PySem.Str.length_append, hl2]; show 5 ≤ sizeLine; decide
  · rw [hl2]; show 3 ≤ sizeLine; decide
  have F₄ := fun o => Fr.pushed F₃ o
  refine wpAny_BinOp (ld (s := { s with heap := _, toks := _ }) (v := .int v t) (F₄ _) rfl (wpAny_Constant_int (mod_int (by decide) ?_)))
  refine item_strsT (l := [(Str.ofString "\\é(", _), (hid ++ Str.ofString ")(", _), (Str.ofString "(" ++ hid ++ Str.ofString "(", _), (hid ++ Str.ofString "(", _), (Str.ofString "\"(\"", _), (Str.ofString ")" ++ hid ++ Str.ofString ")", _), (Str.ofString ")" ++ hid ++ Str.ofString "()", _)])
    ⟨_, Heap.get?_push_size _ rfl, rfl, _, rfl⟩ hv7.1 (by show v.fmod 7 < ((7 : Nat) : Int); omega) (by omega) fun y t' hy => ?_
  have hy' : y = pieceRaw v := by
    unfold pieceRaw
    rw [hhd]
    have : v.fmod 7 = 0 ∨ v.fmod 7 = 1 ∨ v.fmod 7 = 2 ∨ v.fmod 7 = 3 ∨ v.fmod 7 = 4 ∨ v.fmod 7 = 5 ∨ v.fmod 7 = 6 := by omega
    rcases this with e | e | e | e | e | e | e <;> rw [e] at hy ⊢ <;> exact (Option.some.inj hy).symm
  subst hy'
  exact hR _ _ ⟨_, _, rfl, (F₄ _).keep⟩
end
end Mine
/-! Acc -/
namespace Mine
open PySem PySem.W PySem.Spec PySem.Calls PyProof.Rows

def clsOf : Stmt → Option (List Stmt)
  | .ClassDef _ _ _ b _ _ _ _ _ _ _ => some b
  | _ => none
def fnOf : Stmt → Option (Str × Arguments × List Stmt × Scope)
  | .FunctionDef n a b _ _ _ sc _ _ _ => some (n, a, b, sc)
  | _ => none
def methOf (i : Nat) : Option (Str × Arguments × List Stmt × Scope) := ((pw.main.body[3]?).bind clsOf).bind fun b => (b[i]?).bind fnOf
def mInit : { d : Str × Arguments × List Stmt × Scope // methOf 0 = some d } := ⟨_, rfl⟩
def mPush : { d : Str × Arguments × List Stmt × Scope // methOf 1 = some d } := ⟨_, rfl⟩
def mPop : { d : Str × Arguments × List Stmt × Scope // methOf 3 = some d } := ⟨_, rfl⟩
def mPart : { d : Str × Arguments × List Stmt × Scope // methOf 8 = some d } := ⟨_, rfl⟩

/-- a method of the class as an object -/
def fdOf (d : Str × Arguments × List Stmt × Scope) (qual : Str) (cl : List (Str × Addr)) (dflt pm code ct : Value) : FuncData :=
  { name := d.1, qualname := qual, params := d.2.1, body := .stmts d.2.2.1, scope := d.2.2.2, globals := mainGlobals, closure := cl, defaults := dflt, kwdefaults := .none, doc := .none, pyModule := pm, code := code, closureTuple := ct, builtins := builtinsNs }

abbrev cCell : List (Str × Addr) := [(Str.ofString "__class__", 25)]
abbrev qInit : Str := Str.ofString "_Accumulator.__init__"
abbrev qPush : Str := Str.ofString "_Accumulator.push"
abbrev qPop : Str := Str.ofString "_Accumulator.pop"
abbrev qPart : Str := Str.ofString "_Accumulator.part_count"

/-- the names of the class that the walk asks for -/
def mNs (y : Str) : Option Value :=
  if y = "__init__" then some (.ref 38) else if y = "push" then some (.ref 45) else if y = "pop" then some (.ref 61) else if y = "part_count" then some (.ref 98) else none

structure Cl (h : Heap) : Prop where
  cls : ∃ nm sub k0 k1 k2 k3 k5, h.get? 101 = some (excClassObj nm (Str.ofString "_Accumulator") 101 100 [.type "list"] [.type "list", .type "object"] true [] sub false none none k0 k1 k2 k3 k5 "list.__new__")
  ns : ∃ mN, h.Ns 100 mN ∧ mN "__init__" = some (.ref 38) ∧ mN "push" = some (.ref 45) ∧ mN "pop" = some (.ref 61) ∧ mN "part_count" = some (.ref 98) ∧
    (∀ y ∈ [Str.ofString "__getattribute__", "__getattr__", "__setattr__", "_initial_size", "append", "__new__", "__del__"], mN y = none)
  cell : h.IsCell 25 (some (.ref 101))
  fInit : ∃ o pm ct, h.get? 38 = some o ∧ o.cls = .type "function" ∧ o.data = .func (fdOf mInit.1 qInit cCell (.ref 30) pm (.ref 37) ct)
  fPush : ∃ o pm, h.get? 45 = some o ∧ o.cls = .type "function" ∧ o.data = .func (fdOf mPush.1 qPush [] .none pm (.ref 44) .none)
  fPop : ∃ o pm ct, h.get? 61 = some o ∧ o.cls = .type "function" ∧ o.data = .func (fdOf mPop.1 qPop cCell .none pm (.ref 60) ct)
  fPart : ∃ o pm ct, h.get? 98 = some o ∧ o.cls = .type "function" ∧ o.data = .func (fdOf mPart.1 qPart cCell .none pm (.ref 97) ct)
  dflt : ∃ o n u, h.get? 30 = some o ∧ o.data = .seq #[.int 0 u] n
  code : ∀ c ∈ [37, 44, 60, 97], ∃ o vs tf, h.get? c = some o ∧ o.data = .fields vs ∧ vs[2]? = some (.str pw.main.file tf)
  stat : ∃ mc, h.Ns cStatics mc ∧ mc "thirdparty.any" = none
  recs : h.CodeRec (.ref 37) qInit ∧ h.CodeRec (.ref 44) qPush ∧ h.CodeRec (.ref 60) qPop ∧ h.CodeRec (.ref 97) qPart

theorem Cl.keeps {h h' : Heap} (x : Cl h) (hk : ∀ b o, h.get? b = some o → h'.get? b = some o) : Cl h' where
  cls := let ⟨a, c, d, e, f, g, i, ho⟩ := x.cls; ⟨a, c, d, e, f, g, i, hk _ _ ho⟩
  ns := let ⟨m, hn, r⟩ := x.ns; ⟨m, hn.keeps hk, r⟩
  cell := let ⟨o, ho, r⟩ := x.cell; ⟨o, hk _ _ ho, r⟩
  fInit := let ⟨o, p, c, ho, r⟩ := x.fInit; ⟨o, p, c, hk _ _ ho, r⟩
  fPush := let ⟨o, p, ho, r⟩ := x.fPush; ⟨o, p, hk _ _ ho, r⟩
  fPop := let ⟨o, p, c, ho, r⟩ := x.fPop; ⟨o, p, c, hk _ _ ho, r⟩
  fPart := let ⟨o, p, c, ho, r⟩ := x.fPart; ⟨o, p, c, hk _ _ ho, r⟩
  dflt := let ⟨o, n, u, ho, r⟩ := x.dflt; ⟨o, n, u, hk _ _ ho, r⟩
  code := fun c hc => let ⟨o, v, t, ho, r⟩ := x.code c hc; ⟨o, v, t, hk _ _ ho, r⟩
  stat := let ⟨m, hn, r⟩ := x.stat; ⟨m, hn.keeps hk, r⟩
  recs := ⟨x.recs.1.keeps hk, x.recs.2.1.keeps hk, x.recs.2.2.1.keeps hk, x.recs.2.2.2.keeps hk⟩

namespace LF
def sigL : Manifest.Signature := ⟨.any, "list", "list", .cls, [⟨"args", .varPos, false⟩, ⟨"kwargs", .varKw, false⟩]⟩
theorem split : splitId "list.__new__" = some ("list", "__new__") := by decide +kernel
theorem kind : builtinKind "list.__new__" = some .builtinFn := by decide +kernel
theorem row : Manifest.signature? "list.__new__" = some sigL := by kernel_rfl
theorem args : Bind.checkArgs "list.__new__" sigL ⟨[.ref 101], []⟩ = pure () := by kernel_rfl
theorem quiet : "list.__new__".startsWith "lifetime." = false := by decide +kernel
theorem mro_list : mroOf (.type "list") = pure [.type "list", .type "object"] := PySem.F.mro_list
theorem store_list : StoreFacts "list" [.type "list", .type "object"] "object.__setattr__" "object" where
  mro := by kernel_rfl
  slot := .of (owner := "object") (n := "__setattr__") (by rw [typeLookup_type, builtinLookup_eq_fast]; kernel_rfl) (by decide +kernel) (by decide +kernel) (by decide +kernel)
    (by first | exact .inl (by decide +kernel) | exact .inr (by decide +kernel)) (by rw [isSubtype_type]; kernel_rfl)
  entry := PySem.F.entry_object_sa
  kind := by decide +kernel
  split := by decide +kernel
  hasOwner := by decide +kernel
  args := fun a b c => by unfold argsOk; kernel_rfl
  passes := fun self => by kernel_rfl
theorem lk_init : typeLookup (.type "list") "__init__" = pure (some (.builtin "list.__init__")) := by rw [typeLookup_type, builtinLookup_eq_fast]; kernel_rfl
theorem lk_ga : typeLookup (.type "list") "__getattribute__" = pure (some (.builtin "list.__getattribute__")) := by rw [typeLookup_type, builtinLookup_eq_fast]; kernel_rfl
theorem lk_getattr : typeLookup (.type "list") "__getattr__" = pure none := by rw [typeLookup_type, builtinLookup_eq_fast]; kernel_rfl
theorem lk_append : typeLookup (.type "list") "append" = pure (some (.builtin "list.append")) := by rw [typeLookup_type, builtinLookup_eq_fast]; kernel_rfl
theorem lk_is : typeLookup (.type "list") "_initial_size" = pure none := by rw [typeLookup_type, builtinLookup_eq_fast]; kernel_rfl
theorem lk_pop : typeLookup (.type "list") "pop" = pure (some (.builtin "list.pop")) := by rw [typeLookup_type, builtinLookup_eq_fast]; kernel_rfl
theorem lk_push : typeLookup (.type "list") "push" = pure none := by rw [typeLookup_type, builtinLookup_eq_fast]; kernel_rfl
theorem lk_part : typeLookup (.type "list") "part_count" = pure none := by rw [typeLookup_type, builtinLookup_eq_fast]; kernel_rfl
end LF

section
variable {prog : Program} {w : World} {A : Around} {E : Value → Shared → Prop} {h : Heap} {g : Array GenState} {d : Drawn} {t : Nat} {os : OsState}
variable {nm q : Str} {sub : List Value} {k0 k1 k2 k3 k5 : Option Value}

abbrev clsObj (nm q : Str) (sub : List Value) (k0 k1 k2 k3 k5 : Option Value) : Obj := excClassObj nm q 101 100 [.type "list"] [.type "list", .type "object"] true [] sub false none none k0 k1 k2 k3 k5 "list.__new__"

theorem check_new {M : Model} {Q : Unit → Shared → Prop} (hC : h.get? 101 = some (clsObj nm q sub k0 k1 k2 k3 k5)) (hq : Q () ⟨h, g, d, t, os⟩) :
    wpAny M A (checkBuiltinCall "list.__new__" ⟨[.ref 101], []⟩) Q E ⟨h, g, d, t, os⟩ := by
  have hcont : (Value.ref 101 :: [Value.type "list", Value.type "object"]).contains (.type "list") = true := by decide
  have hargs := LF.args
  simp only [checkBuiltinCall, LF.kind, LF.split, LF.row]
  repeat (first | refine wpAny_loadPart_at hC ?_ | (refine wpAny_isSubtype_exc hC ?_; rw [hcont]) | refine wpAny_staticBase_exc hC ?_ | refine wpAny_madeBy_exc hC ?_ | simp only [bne_self_eq_false, Bool.false_eq_true, if_false] | rw [hargs] | wp_step)
  exact hq

theorem code_new {R : Result → Shared → Prop} (hC : h.get? 101 = some (clsObj nm q sub k0 k1 k2 k3 k5))
    (hq : R (.ok (.ret (.ref (h.objs.size + 1)))) ⟨(h.push { cls := .type "dict", data := .dict #[] }).push { cls := .ref 101, dict := some h.objs.size, data := .seq #[] }, g, d, t, os⟩) :
    codeAny (model prog w) A (.builtin "list.__new__" ⟨[.ref 101], []⟩) R ⟨h, g, d, t, os⟩ := by
  refine codeAny_builtin_stack PySem.F.entry_list_new rfl fun p st => ?_
  rw [Around.under_plainId PySem.F.plain_list_new _]
  have hown := owner_list_new
  have hcont : (Value.ref 101 :: [Value.type "list", Value.type "object"]).contains (.type "list") = true := by decide
  simp only [hown]
  repeat (first | refine wpAny_loadPart_at hC ?_ | (refine wpAny_isSubtype_exc hC ?_; rw [hcont]) | wp_step)
  all_goals
    show R _ _
    rw [Heap.size_push]
    exact hq

theorem type_call_acc {mN : Str → Option Value} {oI : Obj} {Q : Fin → Shared → Prop}
    (hC : h.get? 101 = some (clsObj nm q sub k0 k1 k2 k3 k5)) (hn : h.Ns 100 mN) (hi : mN "__init__" = some (.ref 38)) (hfI : h.get? 38 = some oI) (hfc : oI.cls = .type "function")
    (hq : wpAny (model prog w) A (call (.ref 38) [.ref (h.objs.size + 1)]) (fun r s' => r = .none ∧ Q (.done (.ret (.ref (h.objs.size + 1)))) s') E
      ⟨(h.push { cls := .type "dict", data := .dict #[] }).push { cls := .ref 101, dict := some h.objs.size, data := .seq #[] }, g, d, t, os⟩) :
    wpAny (model prog w) A (Builtin.«type.__call__» ⟨[.ref 101], []⟩) Q E ⟨h, g, d, t, os⟩ := by
  repeat (first | with_reducible refine wpAny_loadPart_at hC ?_ | with_reducible refine wpAny_madeBy_exc hC ?_ | wp_step)
  refine codeAny_call_builtin_code (Code.quiet_builtin _ LF.quiet) (check_new hC ?_)
  refine code_new hC ?_
  show wpAny _ _ _ _ _ _
  have up : ∀ b o, h.get? b = some o → ((h.push { cls := .type "dict", data := .dict #[] }).push { cls := .ref 101, dict := some h.objs.size, data := .seq #[] }).get? b = some o := fun b o e => Heap.get?_push_of_some _ (Heap.get?_push_of_some _ e)
  have hC₁ := up _ _ hC
  have hfI₁ := up _ _ hfI
  have hn₁ : ((h.push { cls := .type "dict", data := .dict #[] }).push { cls := .ref 101, dict := some h.objs.size, data := .seq #[] }).Ns 100 mN := hn.keeps up
  have hget : ((h.push { cls := .type "dict", data := .dict #[] }).push { cls := .ref 101, dict := some h.objs.size, data := .seq #[] }).get? (h.objs.size + 1) = some { cls := .ref 101, dict := some h.objs.size, data := .seq #[] } := by heap_get
  have hcC : (Value.ref 101 :: [Value.type "list", Value.type "object"]).contains (.ref 101) = true := by decide
  unfold isInstance
  repeat (first | with_reducible refine wpAny_loadPart_at hget ?_ | (with_reducible refine wpAny_isSubtype_exc hC₁ ?_; rw [hcC]) | wp_step)
  show wpAny _ _ (typeLookup (.ref 101) _) _ _ _
  refine wpAny_typeLookup_exc hC₁ hn₁ LF.mro_list LF.lk_init ?_
  rw [hi]
  refine wpAny_holding (wpAny_bind ?_)
  unfold bindSpecial
  refine wpAny_bind (wpAny_typeOf (T := "function") ⟨_, hfI₁, hfc⟩ ?_)
  rw [if_pos (by decide)]
  refine wpAny_pure (wpAny_bind (wpAny_mono hq (fun r s' hr => ?_) fun _ _ x => x))
  obtain ⟨rfl, hQ⟩ := hr
  wp_walk
  exact hQ

theorem call_acc {mN : Str → Option Value} {oI : Obj} {Q : Value → Shared → Prop}
    (hC : h.get? 101 = some (clsObj nm q sub k0 k1 k2 k3 k5)) (hn : h.Ns 100 mN) (hi : mN "__init__" = some (.ref 38)) (hfI : h.get? 38 = some oI) (hfc : oI.cls = .type "function")
    (hq : wpAny (model prog w) (A.under (.builtin "type.__call__" ⟨[.ref 101], []⟩)) (call (.ref 38) [.ref (h.objs.size + 1)]) (fun r s' => r = .none ∧ Q (.ref (h.objs.size + 1)) s') E
      ⟨(h.push { cls := .type "dict", data := .dict #[] }).push { cls := .ref 101, dict := some h.objs.size, data := .seq #[] }, g, d, t, os⟩) :
    wpAny (model prog w) A (call (.ref 101) []) Q E ⟨h, g, d, t, os⟩ := by
  have f1 := tc_lookup
  have f2 := tc_bind (.ref 101)
  have hT : (⟨h, g, d, t, os⟩ : Shared).TypeIs (.ref 101) "type" := ⟨_, hC, rfl⟩
  refine wpAny_call (codeAny_of_tree ?_)
  show wpAny _ _ (callAny (.ref 101) _) _ _ _
  repeat (any_goals (first | assumption | with_reducible refine wpAny_loadPart_at hC ?_ | wp_step))
  refine ⟨rfl, ?_⟩
  refine codeAny_call_builtin_at (Code.quiet_builtin _ (by decide +kernel)) entry_typeCall (wpAny_check_type_call_sub hC (type_call_acc hC hn hi hfI hfc ?_))
  exact hq
end
end Mine
/-! Acc2 -/
namespace Mine
open PySem PySem.W PySem.Spec PySem.Calls PyProof.Rows

namespace LF
theorem type_init : typeOf (.builtin "list.__init__") = pure (.type "wrapper_descriptor") := by show builtinType _ = _; rw [builtinType_eq_fast]; kernel_rfl
theorem type_len : typeOf (.builtin "list.__len__") = pure (.type "wrapper_descriptor") := by show builtinType _ = _; rw [builtinType_eq_fast]; kernel_rfl
theorem type_pop : typeOf (.builtin "list.pop") = pure (.type "method_descriptor") := by show builtinType _ = _; rw [builtinType_eq_fast]; kernel_rfl
theorem slot_wget : Slot "wrapper_descriptor" "__get__" "wrapper_descriptor.__get__" :=
  .of (owner := "wrapper_descriptor") (n := "__get__") (by rw [typeLookup_type, builtinLookup_eq_fast]; kernel_rfl) (by decide +kernel) (by decide +kernel) (by decide +kernel)
    (by first | exact .inl (by decide +kernel) | exact .inr (by decide +kernel)) (by rw [isSubtype_type]; kernel_rfl)
theorem slot_mget : Slot "method_descriptor" "__get__" "method_descriptor.__get__" :=
  .of (owner := "method_descriptor") (n := "__get__") (by rw [typeLookup_type, builtinLookup_eq_fast]; kernel_rfl) (by decide +kernel) (by decide +kernel) (by decide +kernel)
    (by first | exact .inl (by decide +kernel) | exact .inr (by decide +kernel)) (by rw [isSubtype_type]; kernel_rfl)
theorem entry_wget : entryFor table "wrapper_descriptor.__get__" = some Builtin.«wrapper_descriptor.__get__» := entryFor_of_tree (by kernel_rfl)
theorem entry_mget : entryFor table "method_descriptor.__get__" = some Builtin.«method_descriptor.__get__» := entryFor_of_tree (by kernel_rfl)
theorem args_wget (a b c : Value) : argsOk "wrapper_descriptor.__get__" ⟨[a, b, c], []⟩ := by unfold argsOk; kernel_rfl
theorem args_mget (a b c : Value) : argsOk "method_descriptor.__get__" ⟨[a, b, c], []⟩ := by unfold argsOk; kernel_rfl
theorem own_init : classOwn (.type "list") "__init__" = pure (some (.builtin "list.__init__")) := by kernel_rfl
theorem own_len : classOwn (.type "list") "__len__" = pure (some (.builtin "list.__len__")) := by kernel_rfl
theorem own_pop : classOwn (.type "list") "pop" = pure (some (.builtin "list.pop")) := by kernel_rfl
theorem owner_init : (kfb_private% "nameAndClass") (.builtin "list.__init__") = pure (("__init__" : Str), .type "list") := by first | rfl | kernel_rfl
theorem owner_len : (kfb_private% "nameAndClass") (.builtin "list.__len__") = pure (("__len__" : Str), .type "list") := by first | rfl | kernel_rfl
theorem owner_pop : (kfb_private% "nameAndClass") (.builtin "list.pop") = pure (("pop" : Str), .type "list") := by first | rfl | kernel_rfl
theorem told_pop : Manifest.toldItsClass.contains "list.pop" = false := by decide +kernel
end LF

section
variable {prog : Program} {w : World} {M : Model} {A : Around} {E : Value → Shared → Prop} {h : Heap} {g : Array GenState} {d : Drawn} {t : Nat} {os : OsState}
variable {nm q : Str} {sub : List Value} {k0 k1 k2 k3 k5 : Option Value} {x : Addr} {ox : Obj}

theorem isInst_acc {T : Value} {b : Bool} {Q : Bool → Shared → Prop} (hC : h.get? 101 = some (clsObj nm q sub k0 k1 k2 k3 k5)) (hx : h.get? x = some ox) (hxc : ox.cls = .ref 101)
    (hb : (Value.ref 101 :: [Value.type "list", Value.type "object"]).contains T = b) (hq : Q b ⟨h, g, d, t, os⟩) : wpAny M A (isInstance (.ref x) T) Q E ⟨h, g, d, t, os⟩ := by
  unfold isInstance
  repeat (first | (with_reducible refine wpAny_loadPart_at hx ?_; rw [hxc]) | (with_reducible refine wpAny_isSubtype_exc hC ?_; rw [hb]) | wp_step)
  all_goals exact hq

theorem run_check {id : String} {nmx : Str} {P : Unit → Shared → Prop} (ho : (kfb_private% "nameAndClass") (.builtin id) = pure (nmx, .type "list")) (hC : h.get? 101 = some (clsObj nm q sub k0 k1 k2 k3 k5)) (hx : h.get? x = some ox) (hxc : ox.cls = .ref 101)
    (hq : P () ⟨h, g, d, t, os⟩) : wpAny M A ((kfb_private% "checkInstance") (.builtin id) (.ref x)) P E ⟨h, g, d, t, os⟩ := by
  show wpAny _ _ ((kfb_private% "nameAndClass") (.builtin id) >>= _) _ _ _
  refine wpAny_bind (wpAny_of_eq ho ?_)
  refine wpAny_bind (isInst_acc hC hx hxc (b := true) (by decide) ?_)
  exact wpAny_pure hq

theorem run_wget {id : String} {nmx : Str} {P : Fin → Shared → Prop} (ho : (kfb_private% "nameAndClass") (.builtin id) = pure (nmx, .type "list")) (hC : h.get? 101 = some (clsObj nm q sub k0 k1 k2 k3 k5)) (hx : h.get? x = some ox) (hxc : ox.cls = .ref 101)
    (hq : P (.done (.ret (.ref h.objs.size))) ⟨h.push { cls := .type "method-wrapper", data := .fields #[.builtin id, .ref x] }, g, d, t, os⟩) :
    wpAny M A (Builtin.«wrapper_descriptor.__get__» ⟨[.builtin id, .ref x, .ref 101], []⟩) P E ⟨h, g, d, t, os⟩ := by
  unfold Builtin.«wrapper_descriptor.__get__»
  refine wpAny_bind (wpAny_of_eq (a := (.builtin id, some (.ref x), some (.ref 101))) (by first | rfl | kernel_rfl) ?_)
  show wpAny _ _ ((kfb_private% "checkInstance") (.builtin id) (.ref x) >>= _) _ _ _
  refine wpAny_bind (run_check ho hC hx hxc ?_)
  exact wpAny_bind (wpAny_newObj_type (wpAny_pure hq))

theorem run_mget {P : Fin → Shared → Prop} (hC : h.get? 101 = some (clsObj nm q sub k0 k1 k2 k3 k5)) (hx : h.get? x = some ox) (hxc : ox.cls = .ref 101)
    (hq : P (.done (.ret (.ref h.objs.size))) ⟨h.push { cls := .type "builtin_function_or_method", data := .fields #[.builtin "list.pop", .ref x] }, g, d, t, os⟩) :
    wpAny M A (Builtin.«method_descriptor.__get__» ⟨[.builtin "list.pop", .ref x, .ref 101], []⟩) P E ⟨h, g, d, t, os⟩ := by
  unfold Builtin.«method_descriptor.__get__»
  refine wpAny_bind (wpAny_of_eq (a := (.builtin "list.pop", some (.ref x), some (.ref 101))) (by first | rfl | kernel_rfl) ?_)
  simp only [LF.told_pop, Bool.false_eq_true, if_false]
  show wpAny _ _ ((kfb_private% "checkInstance") (.builtin "list.pop") (.ref x) >>= _) _ _ _
  refine wpAny_bind (run_check LF.owner_pop hC hx hxc ?_)
  exact wpAny_bind (wpAny_newObj_type (wpAny_pure hq))
end

section
variable {prog : Program} {w : World} {A : Around} {E : Value → Shared → Prop} {h : Heap} {g : Array GenState} {d : Drawn} {t : Nat} {os : OsState}
variable {nm q : Str} {sub : List Value} {k0 k1 k2 k3 k5 : Option Value} {x so : Addr} {ox : Obj}

theorem super_ga {id T gid bt : String} {G : Builtin} {name : Str} {tk : Tok} {Q : Fin → Shared → Prop} (hC : h.get? 101 = some (clsObj nm q sub k0 k1 k2 k3 k5))
    (hso : h.get? so = some { cls := .type "super", dict := none, data := .fields #[.ref 101, .ref x, .ref 101], slots := #[] }) (hno : Looks (model prog w) h (opaqueClassAbove (.ref 101)) none)
    (hx101 : x ≠ 101) (hn : (name == ("__class__" : Str)) = false)
    (hown : classOwn (.type "list") name = pure (some (.builtin id))) (hty : typeOf (.builtin id) = pure (.type T)) (hslot : Slot T "__get__" gid) (hentry : entryFor table gid = some G) (hargs : argsOk gid ⟨[.builtin id, .ref x, .ref 101], []⟩)
    (hrun : ∀ (A' : Around) (P : Fin → Shared → Prop) (E' : Value → Shared → Prop), P (.done (.ret (.ref h.objs.size))) ⟨h.push { cls := .type bt, data := .fields #[.builtin id, .ref x] }, g, d, t, os⟩ → wpAny (model prog w) A' (G ⟨[.builtin id, .ref x, .ref 101], []⟩) P E' ⟨h, g, d, t, os⟩)
    (hq : Q (.done (.ret (.ref h.objs.size))) ⟨h.push { cls := .type bt, data := .fields #[.builtin id, .ref x] }, g, d, t, os⟩) :
    wpAny (model prog w) A (Builtin.«super.__getattribute__» ⟨[.ref so, .str name tk], []⟩) Q E ⟨h, g, d, t, os⟩ := by
  have hlk := hslot.lookup
  have hne : (Value.ref x == Value.ref 101) = false := by simp [hx101]
  have hTf : (⟨h, g, d, t, os⟩ : Shared).TypeIs (.builtin id) T := hty
  have hdt : ({ cls := .type "super", dict := none, data := .fields #[.ref 101, .ref x, .ref 101], slots := #[] } : Obj).data = .fields #[.ref 101, .ref x, .ref 101] := rfl
  have f0 : (#[.ref 101, .ref x, .ref 101] : Array Value)[0]? = some (.ref 101) := rfl
  have f1 : (#[.ref 101, .ref x, .ref 101] : Array Value)[1]? = some (.ref x) := rfl
  have f2 : (#[.ref 101, .ref x, .ref 101] : Array Value)[2]? = some (.ref 101) := rfl
  have hl : (((.ref 101 : Value) :: [.type "list", .type "object"]).dropWhile (· != .ref 101)).drop 1 = [.type "list", .type "object"] := by decide
  unfold Builtin.«super.__getattribute__»
  repeat (first
    | (with_reducible refine wpAny_field hso hdt f0 ?_) | (with_reducible refine wpAny_field hso hdt f1 ?_) | (with_reducible refine wpAny_field hso hdt f2 ?_)
    | (with_reducible refine ks_wpAny_notOpaque hno ?_)
    | (with_reducible refine wpAny_mroOf_exc hC ?_; rw [hl])
    | (with_reducible refine wpAny_call_entry hslot hTf hentry ?_ hargs)
    | (with_reducible refine hrun _ _ _ ?_)
    | (with_reducible refine ⟨_, rfl, ?_⟩)
    | (simp only [hn, hne, Bool.or_false, Bool.false_eq_true, if_false])
    | wp_step
    | dsimp only)
  all_goals exact hq

theorem super_getm {id T gid bt : String} {G : Builtin} {name : Str} {pl : Sem Bool} {Q : Value × List Value → Shared → Prop} (hC : h.get? 101 = some (clsObj nm q sub k0 k1 k2 k3 k5))
    (hso : h.get? so = some { cls := .type "super", dict := none, data := .fields #[.ref 101, .ref x, .ref 101], slots := #[] }) (hno : Looks (model prog w) h (opaqueClassAbove (.ref 101)) none)
    (hx101 : x ≠ 101) (hn : (name == ("__class__" : Str)) = false)
    (hown : classOwn (.type "list") name = pure (some (.builtin id))) (hty : typeOf (.builtin id) = pure (.type T)) (hslot : Slot T "__get__" gid) (hentry : entryFor table gid = some G) (hargs : argsOk gid ⟨[.builtin id, .ref x, .ref 101], []⟩)
    (hrun : ∀ (A' : Around) (P : Fin → Shared → Prop) (E' : Value → Shared → Prop), P (.done (.ret (.ref h.objs.size))) ⟨h.push { cls := .type bt, data := .fields #[.builtin id, .ref x] }, g, d, t + 1, os⟩ → wpAny (model prog w) A' (G ⟨[.builtin id, .ref x, .ref 101], []⟩) P E' ⟨h, g, d, t + 1, os⟩)
    (hq : Q (.ref h.objs.size, []) ⟨h.push { cls := .type bt, data := .fields #[.builtin id, .ref x] }, g, d, t + 1, os⟩) :
    wpAny (model prog w) A (getMethod (.ref so) name pl) Q E ⟨h, g, d, t, os⟩ := by
  have hlk := PySem.F.ks_slot_super_ga.lookup
  have hcan := PySem.F.ks_canon_super_ga
  have hT : ∀ t', (⟨h, g, d, t', os⟩ : Shared).TypeIs (.ref so) "super" := fun _ => ⟨_, hso, rfl⟩
  unfold getMethod
  refine wpAny_bind (wpAny_specialOf (hT _) hlk ?_)
  show wpAny _ _ (if (Manifest.canonical "super.__getattribute__" != "object.__getattribute__") = true then _ else _) _ _ _
  rw [if_pos hcan]
  unfold getAttr getAttrBy
  refine wpAny_bind (wpAny_bind (wpAny_mkText (wpAny_holding (wpAny_bind (wpAny_typeOf (hT _) (wpAny_bind (wpAny_of_eq hlk ?_)))))))
  show wpAny _ _ (getAttrByItsOwn (.ref so) (.str name t) (.type "super") (.builtin "super.__getattribute__") true false) _ _ _
  unfold getAttrByItsOwn hookBefore callGetattribute boundAndCalled
  refine wpAny_bind (wpAny_of_eq (show (if onTheHeap (.type "super") then typeLookup (.type "super") "__getattr__" else pure none) = pure none from rfl) ?_)
  refine wpAny_bind (wpAny_attempt (wpAny_holding ?_))
  show wpAny _ _ (bindSpecial (.builtin "super.__getattribute__") (.ref so) >>= _) _ _ _
  refine wpAny_bind (wpAny_of_eq (PySem.F.ks_slot_super_ga.bind _) ?_)
  refine wpAny_mono (Q := fun v s' => v = .ref h.objs.size ∧ s' = ⟨h.push { cls := .type bt, data := .fields #[.builtin id, .ref x] }, g, d, t + 1, os⟩) (E := fun _ _ => False)
    (wpAny_call_entry PySem.F.ks_slot_super_ga (hT _) PySem.F.ks_entry_super_ga (super_ga hC hso hno hx101 hn hown hty hslot hentry hargs hrun ⟨_, rfl, rfl, rfl⟩) (PySem.F.ks_gaArgs_super _ _)) (fun v s' hv => ?_) fun _ _ z => z.elim
  obtain ⟨rfl, rfl⟩ := hv
  exact wpAny_pure (wpAny_pure hq)

/-- the call of a bound builtin -/
def Bnd (h : Heap) (u : Addr) (bt id : String) (x : Addr) : Prop := h.get? u = some { cls := .type bt, data := .fields #[.builtin id, .ref x] }

theorem callWith_bnd {s : Shared} {u : Addr} {bt id : String} {pos : Pos} {env : Env} {Q : Value → Shared → Prop} (hbt : bt = "method-wrapper" ∨ bt = "builtin_function_or_method") (hb : Bnd s.heap u bt id x)
    (h : wpAny (model prog w) A (call (.ref u) []) Q E s) : wpAny (model prog w) A (callWith pos (.ref u) [] (backTo pos (starEach [] env)) []) Q E s := by
  unfold callWith
  refine wpAny_bind (wpAny_holding (PyProof.Rows.evalArgs_none (wpAny_bind (wpAny_standAt ?_))))
  refine wpAny_bind (m := keeperOf (.ref u)) ?_
  unfold keeperOf
  refine wpAny_bind (wpAny_load hb ?_)
  rcases hbt with rfl | rfl
  all_goals
    simp only []
    refine wpAny_pure ?_
    exact wpAny_bind (wpAny_mono h (fun r s₂ hr => wpAny_bind (wpAny_holding (wpAny_point (wpAny_pure hr)))) fun _ _ x => x)

theorem call_bnd {s : Shared} {u : Addr} {bt id : String} {B : Builtin} {Q : Value → Shared → Prop} (hbt : bt = "method-wrapper" ∨ bt = "builtin_function_or_method") (hb : Bnd s.heap u bt id x)
    (hchk : ∀ (Q' : Unit → Shared → Prop) (E' : Value → Shared → Prop), Q' () s → wpAny (model prog w) A.in1 (checkBoundCall id ⟨[.ref x], []⟩) Q' E' s)
    (hcode : codeAny (model prog w) A (.builtin id ⟨[.ref x], []⟩) (fun r s' => match r with | .ok (.ret v) => Q v s' | .ok _ => False | .error e => E e s') s) (hquiet : ∀ as, (Code.builtin id as).quiet = true) :
    wpAny (model prog w) A (call (.ref u) []) Q E s := by
  refine wpAny_call (codeAny_of_tree ?_)
  show wpAny _ A.in1 (callAny (.ref u) ⟨[], []⟩) _ _ s
  simp only [callAny]
  refine wpAny_bind (wpAny_load hb ?_)
  rcases hbt with rfl | rfl
  all_goals
    refine KFB.if_so (by rfl) ?_
    show wpAny _ _ (if (_ != _) = true then _ else _) _ _ _
    refine KFB.if_so (by rfl) ?_
    exact wpAny_bind (hchk _ _ (wpAny_pure ⟨hquiet _, hcode⟩))
end
end Mine
/-! Acc3 -/
namespace Mine
open PySem PySem.W PySem.Spec PySem.Calls PyProof.Rows

def AccO (h : Heap) (x dx : Addr) (items : Array Value) : Prop := ∃ n, h.get? x = some { cls := .ref 101, dict := some dx, data := .seq items n }
theorem AccO.at {h h' : Heap} {x dx : Addr} {items : Array Value} (a : AccO h x dx items) (hk : ∀ o, h.get? x = some o → h'.get? x = some o) : AccO h' x dx items := let ⟨n, e⟩ := a; ⟨n, hk _ e⟩

namespace LF
theorem entry_init : entryFor table "list.__init__" = some Builtin.«list.__init__» := entryFor_of_tree (by kernel_rfl)
theorem entry_len : entryFor table "list.__len__" = some Builtin.«list.__len__» := entryFor_of_tree (by kernel_rfl)
theorem entry_pop : entryFor table "list.pop" = some Builtin.«list.pop» := entryFor_of_tree (by kernel_rfl)
theorem entry_append : entryFor table "list.append" = some Builtin.«list.append» := entryFor_of_tree (by kernel_rfl)
theorem chk_init (x : Addr) : checkBoundCall "list.__init__" ⟨[.ref x], []⟩ = pure () := by first | kernel_rfl | rfl
theorem chk_len (x : Addr) : checkBoundCall "list.__len__" ⟨[.ref x], []⟩ = pure () := by first | kernel_rfl | rfl
theorem quiet_init (as : Args) : (Code.builtin "list.__init__" as).quiet = true := Code.quiet_builtin _ (by decide +kernel)
theorem quiet_len (as : Args) : (Code.builtin "list.__len__" as).quiet = true := Code.quiet_builtin _ (by decide +kernel)
theorem quiet_pop (as : Args) : (Code.builtin "list.pop" as).quiet = true := Code.quiet_builtin _ (by decide +kernel)
theorem quiet_append (as : Args) : (Code.builtin "list.append" as).quiet = true := Code.quiet_builtin _ (by decide +kernel)
end LF

section
variable {prog : Program} {w : World} {A : Around} {s : Shared} {x dx : Addr} {items : Array Value} {R : Result → Shared → Prop}

theorem upd {h : Heap} {n : Nat} {f : Array Value → Array Value} (e : h.get? x = some { cls := .ref 101, dict := some dx, data := .seq items n }) : AccO (h.update x (Obj.mapSeq f)) x dx (f items) := by
  have hm : Obj.mapSeq f { cls := .ref 101, dict := some dx, data := .seq items n } = { cls := .ref 101, dict := some dx, data := .seq (f items) (if (f items).size == items.size then n else n + 1) } := rfl
  exact ⟨_, (Heap.get?_update_self _ e (by rw [hm]; rfl)).trans (congrArg some hm)⟩

theorem code_init (a : AccO s.heap x dx #[]) (hR : ∀ h', AccO h' x dx #[] → Heap.SameBut x s.heap h' → R (.ok (.ret .none)) { s with heap := h' }) :
    codeAny (model prog w) A (.builtin "list.__init__" ⟨[.ref x], []⟩) R s := by
  obtain ⟨n, e⟩ := a
  refine codeAny_builtin LF.entry_init ?_
  unfold Builtin.«list.__init__» Builtin.List.listItems Builtin.List.listUpdate
  refine wpAny_bind (wpAny_bind (wpAny_seqItems e rfl (wpAny_pure ?_)))
  refine wpAny_bind (wpAny_updateSeq e rfl ?_ (by decide) (by decide))
  exact wpAny_bind (wpAny_pure (wpAny_pure (hR _ (upd e) (Heap.SameBut.update ..))))

theorem code_len (a : AccO s.heap x dx items) (hR : R (.ok (.ret (.int items.size s.toks))) { s with toks := s.toks + 1 }) :
    codeAny (model prog w) A (.builtin "list.__len__" ⟨[.ref x], []⟩) R s := by
  obtain ⟨n, e⟩ := a
  refine codeAny_builtin LF.entry_len ?_
  unfold Builtin.«list.__len__»
  refine wpAny_bind (wpAny_of_eq (a := ((.ref x : Value), ([] : List Value))) rfl ?_)
  show wpAny _ _ (do retInt (← seqSize x)) _ _ s
  unfold seqSize
  refine wpAny_bind (wpAny_bind (wpAny_loadPart e (wpAny_pure ?_)))
  exact wpAny_bind (wpAny_mkInt (wpAny_pure hR))

theorem code_pop {v : Value} (a : AccO s.heap x dx (items.push v)) (hz : items.size ≤ 1000) (hR : ∀ h', AccO h' x dx items → Heap.SameBut x s.heap h' → R (.ok (.ret v)) { s with heap := h' }) :
    codeAny (model prog w) A (.builtin "list.pop" ⟨[.ref x], []⟩) R s := by
  obtain ⟨n, e⟩ := a
  refine codeAny_builtin LF.entry_pop ?_
  unfold Builtin.«list.pop»
  refine wpAny_bind (wpAny_of_eq (a := ((.ref x : Value), ([] : List Value))) rfl ?_)
  refine wpAny_bind (wpAny_pure ?_)
  refine KFB.if_not (by decide) ?_
  unfold Builtin.List.listItems Builtin.List.listUpdate
  refine wpAny_bind (wpAny_bind (wpAny_seqItems e rfl (wpAny_pure ?_)))
  refine KFB.if_not (by simp) ?_
  have hsi : seqIndex? (-1) (items.push v).size = some items.size := by
    rw [Array.size_push]
    unfold seqIndex?
    have e1 : ¬ (0 : Int) ≤ -1 := by decide
    simp
    try omega
  rw [hsi]
  simp only [Option.bind_some, Array.getElem?_push_size, Option.map_some]
  refine wpAny_bind (wpAny_updateSeq e rfl ?_ ?_ ?_)
  · have he : (items.push v).eraseIdxIfInBounds items.size = items := by
      apply Array.toList_inj.mp
      simp [Array.eraseIdxIfInBounds, Array.toList_eraseIdx, List.eraseIdx_append_of_length_le]
    have hu := upd (f := fun a => a.eraseIdxIfInBounds items.size) e
    rw [he] at hu
    exact wpAny_pure (hR _ hu (Heap.SameBut.update ..))
  · rw [Array.size_push]; exact Nat.le_trans (Nat.succ_le_succ hz) (by decide)
  · have he : ((items.push v).eraseIdxIfInBounds items.size).size ≤ items.size + 1 := by
      unfold Array.eraseIdxIfInBounds
      split <;> simp
    exact Nat.le_trans he (Nat.le_trans (Nat.succ_le_succ hz) (by decide))

def sigP : Manifest.Signature := ⟨.positional, "list.pop", "pop", .self, [⟨"index", .posOnly, false⟩]⟩
theorem rowP : Manifest.signature? "list.pop" = some sigP := by kernel_rfl
theorem kindP : builtinKind "list.pop" = some .method := by decide +kernel
theorem varP : Manifest.varargsMethods.contains "list.pop" = false := by decide +kernel

theorem chk_pop {nm : Str} {sub : List Value} {k0 k1 k2 k3 k5 : Option Value} {Q' : Unit → Shared → Prop} {E' : Value → Shared → Prop} (hC : s.heap.get? 101 = some (clsObj nm (Str.ofString "_Accumulator") sub k0 k1 k2 k3 k5)) (a : AccO s.heap x dx items) (hq : Q' () s) :
    wpAny (model prog w) A (checkBoundCall "list.pop" ⟨[.ref x], []⟩) Q' E' s := by
  obtain ⟨n, e⟩ := a
  obtain ⟨h, g, d, t, os⟩ := s
  have hcM : (Value.ref 101 :: [Value.type "list", Value.type "object"]).contains (.type "module") = false := by decide
  have hTC : (⟨h, g, d, t, os⟩ : Shared).TypeIs (.ref 101) "type" := ⟨_, hC, rfl⟩
  simp only [checkBoundCall, rowP, kindP]
  repeat (first | (with_reducible refine isInst_acc hC e rfl hcM ?_) | (with_reducible refine ks_wpAny_isType_inst e (by intro c; simp) ?_) | (with_reducible refine wpAny_loadPart_at e ?_) | (with_reducible refine wpAny_loadPart_at hC ?_) | (with_reducible refine wpAny_typeOf hTC ?_) | simp only [varP, Bool.or_false, Bool.false_eq_true, if_false] | wp_step)
  all_goals exact hq

def sigA : Manifest.Signature := ⟨.exact, "list.append", "append", .self, [⟨"object", .posOnly, true⟩]⟩
theorem kindA : builtinKind "list.append" = some .method := by decide +kernel
theorem splitA : splitId "list.append" = some ("list", "append") := by decide +kernel
theorem call_append {v : Value} {nm q : Str} {sub : List Value} {k0 k1 k2 k3 k5 : Option Value} {Q E : Value → Shared → Prop} (hC : s.heap.get? 101 = some (clsObj nm q sub k0 k1 k2 k3 k5)) (a : AccO s.heap x dx items) (hz : items.size ≤ 1000)
    (hQ : ∀ h', AccO h' x dx (items.push v) → Heap.SameBut x s.heap h' → Q .none { s with heap := h' }) : wpAny (model prog w) A (call (.builtin "list.append") [.ref x, v]) Q E s := by
  obtain ⟨n, e⟩ := a
  obtain ⟨h, g, d, t, os⟩ := s
  have hargs : argsOk "list.append" ⟨[.ref x, v], []⟩ := args_list_append _ _
  have hcL : (Value.ref 101 :: [Value.type "list", Value.type "object"]).contains (.type "list") = true := by decide
  refine wpAny_call (codeAny_call_builtin_code (LF.quiet_append _) ?_)
  simp only [checkBuiltinCall, kindA, splitA]
  refine wpAny_bind (isInst_acc hC e rfl hcL ?_)
  simp only [Bool.not_true, Bool.false_eq_true, if_false]
  have hargs' : wpAny (model prog w) A.in1 (match Manifest.signature? "list.append" with | some sig => Bind.checkArgs "list.append" sig ⟨[.ref x, v], []⟩ | none => pure ())
      (fun _ s₁ => codeAny (model prog w) A (.builtin "list.append" ⟨[.ref x, v], []⟩) (fun r s' => match r with | .ok (.ret v) => Q v s' | .ok _ => False | .error e => E e s') s₁) (fun e s' => E e s') ⟨h, g, d, t, os⟩ := by
    refine wpAny_of_eq hargs (codeAny_builtin LF.entry_append ?_)
    unfold Builtin.«list.append» Builtin.List.listUpdate
    refine wpAny_bind (wpAny_of_eq (a := ((.ref x : Value), v)) rfl ?_)
    refine wpAny_bind (wpAny_updateSeq e rfl ?_ (Nat.le_trans hz (by decide)) (by rw [Array.size_push]; exact Nat.le_trans (Nat.succ_le_succ hz) (by decide)))
    exact wpAny_pure (hQ _ (upd e) (Heap.SameBut.update ..))
  exact hargs'
end
end Mine
/-! Acc4 -/
namespace Mine
open PySem PySem.W PySem.Spec PySem.Calls PyProof.Rows

/-- a pile with its one field -/
def AccS (h : Heap) (x dx : Addr) (items : Array Value) : Prop := AccO h x dx items ∧ ∃ u, h.Ns1 dx (fun y => if y = "_initial_size" then some (.int 0 u) else none)
theorem AccS.at {h h' : Heap} {x dx : Addr} {items : Array Value} (a : AccS h x dx items) (hk : ∀ b o, b = x ∨ b = dx → h.get? b = some o → h'.get? b = some o) : AccS h' x dx items := by
  obtain ⟨a, u, o, es, ep, e, r⟩ := a
  exact ⟨a.at fun o y => hk _ _ (.inl rfl) y, u, o, es, ep, hk _ _ (.inr rfl) e, r⟩

section
variable {prog : Program} {w : World} {A : Around} {E : Value → Shared → Prop} {h : Heap} {g : Array GenState} {d : Drawn} {t : Nat} {os : OsState}
variable {nm q : Str} {sub : List Value} {k0 k1 k2 k3 k5 : Option Value} {x dx : Addr} {mN : Str → Option Value} {name : Str} {items : Array Value}

set_option maxHeartbeats 1000000 in
theorem acc_method {pl : Sem Bool} {f : Addr} {of : Obj} {Q : Value × List Value → Shared → Prop}
    (hC : h.get? 101 = some (clsObj nm q sub k0 k1 k2 k3 k5)) (hn : h.Ns 100 mN) (hng : mN "__getattribute__" = none) (hnh : mN "__getattr__" = none)
    (hf : mN name = some (.ref f)) (hfo : h.get? f = some of) (hfc : of.cls = .type "function") {y : Option Value} (hB : typeLookup (.type "list") name = pure y)
    (a : AccS h x dx items) (hsh : name ≠ "_initial_size") (hq : Q (.ref f, [.ref x]) ⟨h, g, d, t, os⟩) :
    wpAny (model prog w) A (getMethod (.ref x) name pl) Q E ⟨h, g, d, t, os⟩ := by
  obtain ⟨⟨n, hx⟩, u, hns⟩ := a
  have hcan : (Manifest.canonical "list.__getattribute__" != "object.__getattribute__") = false := by decide +kernel
  unfold getMethod specialOf
  repeat (first | (with_reducible refine wpAny_nsGet hns.ns ?_; rw [if_neg hsh]) | (with_reducible refine wpAny_loadPart_at hx ?_) | (with_reducible refine wpAny_typeLookup_exc hC hn LF.mro_list LF.lk_ga ?_; rw [hng]) | (with_reducible refine wpAny_typeLookup_exc hC hn LF.mro_list LF.lk_getattr ?_; rw [hnh]) | (with_reducible refine wpAny_typeLookup_exc hC hn LF.mro_list hB ?_; rw [hf]) | (with_reducible refine wpAny_typeOf (T := "function") ⟨_, hfo, hfc⟩ ?_) | simp only [hcan, Bool.false_eq_true, if_false] | wp_step)
  all_goals exact hq

set_option maxHeartbeats 1000000 in
theorem acc_append {pl : Sem Bool} {Q : Value × List Value → Shared → Prop}
    (hC : h.get? 101 = some (clsObj nm q sub k0 k1 k2 k3 k5)) (hn : h.Ns 100 mN) (hng : mN "__getattribute__" = none) (hnh : mN "__getattr__" = none)
    (hf : mN "append" = none) (a : AccS h x dx items) (hq : Q (.builtin "list.append", [.ref x]) ⟨h, g, d, t, os⟩) :
    wpAny (model prog w) A (getMethod (.ref x) "append" pl) Q E ⟨h, g, d, t, os⟩ := by
  obtain ⟨⟨n, hx⟩, u, hns⟩ := a
  have hcan : (Manifest.canonical "list.__getattribute__" != "object.__getattribute__") = false := by decide +kernel
  have hty := type_list_append
  have hsh : Str.ofString "append" ≠ Str.ofString "_initial_size" := by decide
  unfold getMethod specialOf
  repeat (first | (with_reducible refine wpAny_nsGet hns.ns ?_; rw [if_neg hsh]) | (with_reducible refine wpAny_loadPart_at hx ?_) | (with_reducible refine wpAny_typeLookup_exc hC hn LF.mro_list LF.lk_ga ?_; rw [hng]) | (with_reducible refine wpAny_typeLookup_exc hC hn LF.mro_list LF.lk_getattr ?_; rw [hnh]) | (with_reducible refine wpAny_typeLookup_exc hC hn LF.mro_list LF.lk_append ?_; rw [hf]) | (with_reducible refine wpAny_of_eq hty ?_) | simp only [hcan, Bool.false_eq_true, if_false] | wp_step)
  all_goals exact hq
end
end Mine
/-! Acc5 -/
namespace Mine
open PySem PySem.W PySem.Spec PySem.Calls PyProof.Rows

theorem no_opaque {M : Model} {h : Heap} {C : Addr} (c : ∃ mc, h.Ns cStatics mc ∧ mc "thirdparty.any" = none) : Looks M h (opaqueClassAbove (.ref C)) none := by
  intro A Q E s hk hq
  obtain ⟨mc, hn, hm⟩ := c
  unfold opaqueClassAbove anyOpaqueLoaded
  refine wpAny_bind (wpAny_bind (wpAny_nsGet (hn.keeps hk) ?_))
  rw [hm]
  exact wpAny_pure (KFB.if_so rfl (wpAny_pure hq))

theorem sub_self {M : Model} {h : Heap} (x : Cl h) : Looks M h (isSubtype (.ref 101) (.ref 101)) true := by
  intro A Q E s hk hq
  obtain ⟨nm, sub, k0, k1, k2, k3, k5, hC⟩ := x.cls
  obtain ⟨hh, g, d, t, os⟩ := s
  exact wpAny_isSubtype_exc (hk _ _ hC) hq

section
variable {w : World} {A : Around} {E : Value → Shared → Prop} {s : Shared} {x dx L f : Addr} {items : Array Value} {mean : ExcName → Option Value} {mg mb : Str → Option Value} {h₀ : Heap} {m : Str → Option Value}
variable {d : Str × Arguments × List Stmt × Scope} {qual : Str} {dflt pm ct : Value} {cc : Addr}

theorem top_super (T : Top q loose mean mg mb h₀) : mg "super" = none ∧ mb "super" = some (.type "super") :=
  ⟨T.free _ (by decide +kernel) (by decide +kernel) (by decide +kernel) (by decide +kernel) (by decide +kernel), (T.builtins _ (by decide +kernel)).trans (by rfl)⟩

theorem sup_call {id Ty gid bt : String} {G : Builtin} {attr : Str} {p0 p1 apos pos : Pos} {pl : Sem Bool} {Q : Value → Shared → Prop} {body : List Stmt} {ar : Arg} {of : Obj}
    (T : Top q loose mean mg mb s.heap) (K : Cl s.heap) (a : AccO s.heap x dx items) (hx : x ≠ 101)
    (hn : s.heap.Ns L m) (hself : m ar.arg = some (.ref x))
    (hfo : s.heap.get? f = some of) (hfd : of.data = .func (fdOf d qual cCell dflt pm (.ref cc) ct)) (hcc : cc ∈ [37, 44, 60, 97])
    (hks : (callEnv (fdOf d qual cCell dflt pm (.ref cc) ct) L f).kindOf "super" = some .globalImplicit) (hkc : (callEnv (fdOf d qual cCell dflt pm (.ref cc) ct) L f).kindOf "__class__" = some .free)
    (hka : (callEnv (fdOf d qual cCell dflt pm (.ref cc) ct) L f).kindOf ar.arg = some .local) (hsk : d.2.2.2.kind = .function)
    (hp : (d.2.1.posonlyargs ++ d.2.1.args).head? = some ar)
    (hat : (attr == ("__class__" : Str)) = false)
    (hown : classOwn (.type "list") attr = pure (some (.builtin id))) (hty : typeOf (.builtin id) = pure (.type Ty)) (hslot : Slot Ty "__get__" gid) (hentry : entryFor table gid = some G) (hargs : argsOk gid ⟨[.builtin id, .ref x, .ref 101], []⟩)
    (hrun : ∀ (h : Heap) (g : Array GenState) (dr : Drawn) (t : Nat) (os : OsState) (nm : Str) (sub : List Value) (k0 k1 k2 k3 k5 : Option Value), h.get? 101 = some (clsObj nm (Str.ofString "_Accumulator") sub k0 k1 k2 k3 k5) → (∃ ox, h.get? x = some ox ∧ ox.cls = .ref 101) → ∀ (A' : Around) (P : Fin → Shared → Prop) (E' : Value → Shared → Prop),
      P (.done (.ret (.ref h.objs.size))) ⟨h.push { cls := .type bt, data := .fields #[.builtin id, .ref x] }, g, dr, t, os⟩ → wpAny (model pw w) A' (G ⟨[.builtin id, .ref x, .ref 101], []⟩) P E' ⟨h, g, dr, t, os⟩)
    (hbt : bt = "method-wrapper" ∨ bt = "builtin_function_or_method")
    (hfin : ∀ h' tk u, (∀ b o, s.heap.get? b = some o → h'.get? b = some o) → Bnd h' u bt id x → wpAny (model pw w) A (call (.ref u) []) Q E { s with heap := h', toks := tk })
    (he : eval (.Call (.Attribute (.Call (.Name "super" p0) [] [] p1) attr apos) [] [] pos) (callEnv (fdOf d qual cCell dflt pm (.ref cc) ct) L f) = (do
      let ov ← attributeBase (.Call (.Name "super" p0) [] [] p1) attr (callEnv (fdOf d qual cCell dflt pm (.ref cc) ct) L f) (eval (.Call (.Name "super" p0) [] [] p1) (callEnv (fdOf d qual cCell dflt pm (.ref cc) ct) L f))
      standAt apos.atName
      let (fn, first) ← holding [ov] (getMethod ov attr pl)
      callWith pos fn first (backTo pos (starEach [] (callEnv (fdOf d qual cCell dflt pm (.ref cc) ct) L f))) []) := by rfl) :
    PySem.wpAt (model pw w) A (.func body (callEnv (fdOf d qual cCell dflt pm (.ref cc) ct) L f)) (eval (.Call (.Attribute (.Call (.Name "super" p0) [] [] p1) attr apos) [] [] pos) (callEnv (fdOf d qual cCell dflt pm (.ref cc) ct) L f)) Q E s := by
  refine ks_wpAt_MethodCall (pl := pl) ?_ he
  obtain ⟨oc, vs, tf, hoc, hocd, hvs⟩ := K.code cc hcc
  have a' := a; obtain ⟨n, e⟩ := a'
  refine ks_wpAt_super_base (f := f) (cc := cc) (ar := ar) hks hkc hat rfl hfo hfd hp rfl hoc hocd hvs (by decide +kernel) (by decide +kernel) ?_
  have hload : ∀ {Q : Value → Shared → Prop}, Q (.type "super") s → wpAny (model pw w) A (loadName (callEnv (fdOf d qual cCell dflt pm (.ref cc) ct) L f) "super") Q E s := by
    intro Q hq
    have hk : (callEnv (fdOf d qual cCell dflt pm (.ref cc) ct) L f).scope.kind = .function := hsk
    unfold loadName
    simp only [Env.blockKind, hk, hks, ScopeKind.isAnnotationScope, Bool.false_and, Bool.false_eq_true, if_false]
    exact loadGlobal_builtin (env := callEnv (fdOf d qual cCell dflt pm (.ref cc) ct) L f) T.g (top_super T).1 T.b (top_super T).2 hq
  refine hload ⟨rfl, ?_⟩
  refine wpAny_loadName_free (c := 25) (v := .ref 101) hsk hkc rfl K.cell ?_
  refine wpAny_loadName_local hsk hka hn hself ?_
  obtain ⟨nm, sub, k0, k1, k2, k3, k5, hC⟩ := K.cls
  obtain ⟨hh, g, dr, t, os⟩ := s
  refine ks_wpAny_isType_cls hC rfl ⟨rfl, ?_⟩
  refine ks_wpAny_call_super hC rfl e rfl (by intro c; simp) (sub_self K) fun h₁ hso k₁ => ?_
  have K₁ := K.keeps k₁
  refine super_getm (k₁ _ _ hC) hso (no_opaque K₁.stat) hx hat hown hty hslot hentry hargs (hrun h₁ g dr (t + 1) os nm sub k0 k1 k2 k3 k5 (k₁ _ _ hC) ⟨_, k₁ _ _ e, rfl⟩) ?_
  have hb : Bnd (h₁.push { cls := .type bt, data := .fields #[.builtin id, .ref x] }) h₁.objs.size bt id x := Heap.get?_push_size _ rfl
  exact callWith_bnd hbt hb (hfin _ _ _ (fun b o y => Heap.get?_push_of_some _ (k₁ b o y)) hb)
end
end Mine
/-! Acc6 -/
namespace Mine
open PySem PySem.W PySem.Spec PySem.Calls PyProof.Rows

section
variable {w : World} {A : Around} {E : Value → Shared → Prop} {s : Shared} {x dx : Addr} {items : Array Value} {mean : ExcName → Option Value} {mg mb : Str → Option Value} {R : Result → Shared → Prop}

set_option maxHeartbeats 1000000 in
theorem part_call (hd : A.depth + 1 < recursionLimit) (T : Top q loose mean mg mb s.heap) (K : Cl s.heap) (a : AccO s.heap x dx items) (hx : x ≠ 101)
    (hR : ∀ s' t', Kp s s' → s'.gens = s.gens → R (.ok (.ret (.int items.size t'))) s') : codeAny (model pw w) A (.call (.ref 98) ⟨[.ref x], []⟩) R s := by
  obtain ⟨of, pm, ct, hof, hofc, hofd⟩ := K.fPart
  refine ks_codeAny_call_defAt (fd := fdOf mPart.1 qPart cCell .none pm (.ref 97) ct) (body := mPart.1.2.2.1) (binds := [("self", .ref x)]) (by omega) hof hofd T.nolimit K.recs.2.2.2 rfl (.of_eq rfl) (show ∀ x ∈ mPart.1.2.2.2.names, x.2 ≠ .cell by decide) (locs (by rfl)) (fun h₁ hn k₁ => ?_) rfl rfl rfl
  refine PySem.wpAt_mono (E := fun _ _ => False) ?_ (fun _ _ y => y) (fun _ _ y => y.elim)
  have K₁ := K.keeps k₁
  have a₁ : AccO h₁ x dx items := a.at fun o y => k₁ _ _ y
  show PySem.wpAt _ _ _ (execs mPart.1.2.2.1 _) _ _ _
  dsimp only [mPart]
  refine ks_wpAt_execs_cons (ks_wpAt_Return_some ?_)
  refine sup_call (s := { s with heap := h₁, toks := s.toks + 1 }) (x := x) (ar := _) (T.keeps k₁) K₁ a₁ hx hn (by rfl) (k₁ _ _ hof) hofd (by decide) rfl rfl rfl rfl rfl (by decide) LF.own_len LF.type_len LF.slot_wget LF.entry_wget (LF.args_wget _ _ _)
    (fun h g dr t os nm sub k0 k1 k2 k3 k5 hC hx => ?_) (.inl rfl) (fun h₂ tk u k₂ hb => ?_)
  · obtain ⟨ox, hox, hxc⟩ := hx
    exact fun A' P E' hP => run_wget LF.owner_len hC hox hxc hP
  · refine call_bnd (B := Builtin.«list.__len__») (.inl rfl) hb (fun Q' E' hq => wpAny_of_eq (LF.chk_len x) hq) ?_ LF.quiet_len
    refine code_len (s := { s with heap := h₂, toks := tk }) (dx := dx) (a₁.at fun o y => k₂ _ _ y) ?_
    exact hR _ _ ((Kp.refl s).step fun b o y _ => k₂ _ _ (k₁ _ _ y)) rfl

set_option maxHeartbeats 1000000 in
theorem init_call {h₀ : Heap} (hd : A.depth + 1 < recursionLimit) (T : Top q loose mean mg mb h₀) (K : Cl h₀) (hk₀ : ∀ b o, h₀.get? b = some o → s.heap.get? b = some o) (a : AccO s.heap x dx #[]) (hx : x ≠ 101) (hdx : dx ≠ x) (hdd : s.heap.Ns1 dx fun _ => none)
    (hxb : h₀.objs.size ≤ x) (hdxb : h₀.objs.size ≤ dx)
    (hR : ∀ h' tk, (∀ b o, b ≠ x → b ≠ dx → s.heap.get? b = some o → h'.get? b = some o) → AccS h' x dx #[] → R (.ok (.ret .none)) { s with heap := h', toks := tk }) : codeAny (model pw w) A (.call (.ref 38) ⟨[.ref x], []⟩) R s := by
  have Ks := K.keeps hk₀
  obtain ⟨of, pm, ct, hof, hofc, hofd⟩ := Ks.fInit
  obtain ⟨od, nd, u, hod, hodd⟩ := Ks.dflt
  refine ks_codeAny_call_defAt (fd := fdOf mInit.1 qInit cCell (.ref 30) pm (.ref 37) ct) (body := mInit.1.2.2.1) (binds := [("self", .ref x), ("initial_size", .int 0 u)]) (by omega) hof hofd (T.keeps hk₀).nolimit Ks.recs.1 rfl (.of_defaults rfl hod hodd rfl rfl)
    (show ∀ x ∈ mInit.1.2.2.2.names, x.2 ≠ .cell by decide) (locs (by rfl)) (fun h₁ hn k₁ => ?_) rfl rfl rfl
  refine PySem.wpAt_mono (E := fun _ _ => False) ?_ (fun _ _ y => y) (fun _ _ y => y.elim)
  have K₁ := Ks.keeps k₁
  obtain ⟨n, e⟩ := a
  have e₁ := k₁ _ _ e
  have hd₁ : h₁.Ns1 dx fun _ => none := hdd.keeps k₁
  have hxs : x < s.heap.objs.size := Heap.lt_size e
  have hdxs : dx < s.heap.objs.size := let ⟨o, _, _, y, _⟩ := hdd; Heap.lt_size y
  show PySem.wpAt _ _ _ (execs mInit.1.2.2.1 _) _ _ _
  dsimp only [mInit]
  refine ks_wpAt_execs_cons (ks_wpAt_Assign_Attr (PySem.wpAt_of_wpAny (wpAny_Name (wpAny_loadName_local rfl rfl hn (v := .int 0 u) (by rfl) ?_))))
  refine wpAny_Name (wpAny_loadName_local rfl rfl hn (v := .ref x) (by rfl) ?_)
  obtain ⟨nm, sub, k0, k1, k2, k3, k5, hC⟩ := K₁.cls
  obtain ⟨mN, hmN, _, _, _, _, hno⟩ := K₁.ns
  have I₁ : h₁.Inst x 101 fun _ => none := ⟨_, e₁, rfl, by intro c; simp, .inr ⟨dx, rfl, hdx, hd₁⟩⟩
  refine store_attr LF.store_list hC hmN (hno _ (by simp)) (hno _ (by simp)) LF.lk_is hx I₁ (fun h₂ tk₂ I₂ hk₂ hsame => ?_) Within.nil (by decide)
  have k₂ : ∀ b o, b ≠ x → b ≠ dx → h₁.get? b = some o → h₂.get? b = some o := fun b o hb hb' y => hk₂ b o hb (fun o₀ d' e₀ ed => by
    obtain rfl := Option.some.inj (e₁.symm.trans e₀); obtain rfl := Option.some.inj ed; exact hb') y
  obtain ⟨o₂, e₂, c₂, d₂, sl₂, dk₂⟩ := hsame _ e₁
  have dk₂ := dk₂ dx rfl
  have k₀₂ : ∀ b o, h₀.get? b = some o → h₂.get? b = some o := fun b o y => k₂ b o (Nat.ne_of_lt (Nat.lt_of_lt_of_le (Heap.lt_size y) hxb)) (Nat.ne_of_lt (Nat.lt_of_lt_of_le (Heap.lt_size y) hdxb)) (k₁ _ _ (hk₀ _ _ y))
  have ho₂ : o₂ = { cls := .ref 101, dict := some dx, data := .seq #[] n } := by
    rcases o₂ with ⟨c', d', dt', sl'⟩
    have h1 : c' = .ref 101 := c₂
    have h2 : d' = some dx := dk₂
    have h3 : dt' = .seq #[] n := d₂
    have h4 : sl' = #[] := sl₂
    rw [h1, h2, h3, h4]
  have a₂ : AccO h₂ x dx #[] := ⟨n, ho₂ ▸ e₂⟩
  have s₂ : h₂.Ns1 dx (fun y => if y = "_initial_size" then some (.int 0 u) else none) := by
    obtain ⟨o', e', _, _, hd'⟩ := I₂
    obtain rfl := Option.some.inj (e₂.symm.trans e')
    rcases hd' with ⟨hn0, _⟩ | ⟨d', hd', _, hns'⟩
    · rw [dk₂] at hn0; cases hn0
    · obtain rfl := Option.some.inj (dk₂.symm.trans hd'); exact hns'
  have hn₂ : h₂.Ns s.heap.objs.size _ := hn.at fun o y => k₂ _ o (Nat.ne_of_gt hxs) (Nat.ne_of_gt hdxs) y
  refine ks_wpAt_execs_cons (ks_wpAt_Expr_any ?_)
  have K₂ := K.keeps k₀₂
  obtain ⟨of', pm', ct', hof', _, hofd'⟩ := K₂.fInit
  have hofe : of' = of := by
    have h1 := k₀₂
    have h2 : h₂.get? 38 = some of := by
      obtain ⟨o3, _, _, h3, _⟩ := K.fInit
      have h4 := k₀₂ _ _ h3
      have h5 := hk₀ _ _ h3
      rw [hof] at h5; cases h5; exact h4
    rw [h2] at hof'; cases hof'; rfl
  subst hofe
  refine sup_call (s := { s with heap := h₂, toks := tk₂ }) (x := x) (dx := dx) (items := #[]) (ar := _) (T.keeps k₀₂) K₂ a₂ hx hn₂ (by rfl) hof' hofd (by decide) rfl rfl rfl rfl rfl (by decide) LF.own_init LF.type_init LF.slot_wget LF.entry_wget (LF.args_wget _ _ _)
    (fun h g dr t os nm sub k0 k1 k2 k3 k5 hC hx => ?_) (.inl rfl) (fun h₃ tk u' k₃ hb => ?_)
  · obtain ⟨ox, hox, hxc⟩ := hx
    exact fun A' P E' hP => run_wget LF.owner_init hC hox hxc hP
  · refine call_bnd (B := Builtin.«list.__init__») (.inl rfl) hb (fun Q' E' hq => wpAny_of_eq (LF.chk_init x) hq) ?_ LF.quiet_init
    refine code_init (s := { s with heap := h₃, toks := tk }) (dx := dx) (a₂.at fun o y => k₃ _ _ y) fun h₄ a₄ s₄ => ?_
    refine PySem.wpAt_of_wpAny (wpAny_execs_nil ?_)
    refine hR _ _ (fun b o hb hb' y => s₄.extBut b o hb (k₃ _ _ (k₂ b o hb hb' (k₁ _ _ y)))) ⟨a₄, u, ?_⟩
    obtain ⟨o5, es, ep, e5, r5⟩ := s₂
    exact ⟨o5, es, ep, s₄.extBut _ _ hdx (k₃ _ _ e5), r5⟩

/-- making one -/
theorem acc_make {h₀ : Heap} {Q : Value → Shared → Prop} (hd : A.depth + 3 < recursionLimit) (T : Top q loose mean mg mb h₀) (K : Cl h₀) (hk₀ : ∀ b o, h₀.get? b = some o → s.heap.get? b = some o) (hz₀ : h₀.objs.size ≤ s.heap.objs.size)
    (hQ : ∀ h' tk, (∀ b o, s.heap.get? b = some o → h'.get? b = some o) → AccS h' (s.heap.objs.size + 1) s.heap.objs.size #[] → Q (.ref (s.heap.objs.size + 1)) { s with heap := h', toks := tk }) :
    wpAny (model pw w) A (call (.ref 101) []) Q E s := by
  have Ks := K.keeps hk₀
  obtain ⟨nm, sub, k0, k1, k2, k3, k5, hC⟩ := Ks.cls
  obtain ⟨mN, hmN, hi, _⟩ := Ks.ns
  obtain ⟨of, pm, ct, hof, hofc, hofd⟩ := Ks.fInit
  obtain ⟨hh, g, dr, t, os⟩ := s
  have hlt : 101 < hh.objs.size := Heap.lt_size hC
  have up : ∀ b o, hh.get? b = some o → ((hh.push { cls := .type "dict", data := .dict #[] }).push { cls := .ref 101, dict := some hh.objs.size, data := .seq #[] }).get? b = some o := fun b o e => Heap.get?_push_of_some _ (Heap.get?_push_of_some _ e)
  have hget : ((hh.push { cls := .type "dict", data := .dict #[] }).push { cls := .ref 101, dict := some hh.objs.size, data := .seq #[] }).get? (hh.objs.size + 1) = some { cls := .ref 101, dict := some hh.objs.size, data := .seq #[] } := by heap_get
  have hgd : ((hh.push { cls := .type "dict", data := .dict #[] }).push { cls := .ref 101, dict := some hh.objs.size, data := .seq #[] }).get? hh.objs.size = some { cls := .type "dict", data := .dict #[] } :=
    Heap.get?_push_of_some _ (Heap.get?_push_at rfl rfl)
  refine call_acc hC hmN hi hof hofc (wpAny_call (init_call (x := hh.objs.size + 1) (dx := hh.objs.size) (h₀ := h₀) (by show A.depth + 1 + 1 < _; omega) T K (fun b o y => up _ _ (hk₀ _ _ y)) ⟨0, hget⟩ (Nat.ne_of_gt (Nat.lt_succ_of_lt hlt)) (Nat.ne_of_lt (Nat.lt_succ_self _))
    (Heap.Ns1.of_empty ⟨_, #[], _, hgd, rfl, fun e he => absurd he (by simp), fun _ => rfl⟩) (Nat.le_succ_of_le hz₀) hz₀ fun h' tk k' a' => ?_))
  exact ⟨rfl, hQ h' tk (fun b o y => k' b o (Nat.ne_of_lt (Nat.lt_succ_of_lt (Heap.lt_size y))) (Nat.ne_of_lt (Heap.lt_size y)) (up _ _ y)) a'⟩
end
end Mine
/-! Acc7 -/
namespace Mine
open PySem PySem.W PySem.Spec PySem.Calls PyProof.Rows

section
variable {w : World} {A : Around} {E : Value → Shared → Prop} {s : Shared} {x dx : Addr} {items : Array Value} {mean : ExcName → Option Value} {mg mb : Str → Option Value} {R : Result → Shared → Prop} {h₀ : Heap}

set_option maxHeartbeats 1000000 in
theorem push_call {a b : Str} {ta tb : Tok} (hd : A.depth + 1 < recursionLimit) (T : Top q loose mean mg mb h₀) (K : Cl h₀) (hk₀ : ∀ b o, h₀.get? b = some o → s.heap.get? b = some o) (c : AccS s.heap x dx items) (hx : h₀.objs.size ≤ x) (hdx : dx ≠ x) (hz : items.size ≤ 1000)
    (hR : ∀ h' tk v, (∀ b o, b ≠ x → s.heap.get? b = some o → h'.get? b = some o) → AccS h' x dx (items.push v) → R (.ok (.ret .none)) { s with heap := h', toks := tk }) :
    codeAny (model pw w) A (.call (.ref 45) ⟨[.ref x, .str a ta, .str b tb], []⟩) R s := by
  have Ks := K.keeps hk₀
  obtain ⟨of, pm, hof, hofc, hofd⟩ := Ks.fPush
  refine ks_codeAny_call_defAt (fd := fdOf mPush.1 qPush [] .none pm (.ref 44) .none) (body := mPush.1.2.2.1) (binds := [("self", .ref x), ("fws", .str a ta), ("string", .str b tb)]) (by omega) hof hofd (T.keeps hk₀).nolimit Ks.recs.2.1 rfl (.of_eq rfl)
    (show ∀ x ∈ mPush.1.2.2.2.names, x.2 ≠ .cell by decide) (locs (by rfl)) (fun h₁ hn k₁ => ?_) rfl rfl rfl
  refine PySem.wpAt_mono (E := fun _ _ => False) ?_ (fun _ _ y => y) (fun _ _ y => y.elim)
  refine PySem.wpAt_of_wpAny ?_
  have K₁ := Ks.keeps k₁
  have c₁ : AccS h₁ x dx items := c.at fun b o _ y => k₁ _ _ y
  obtain ⟨nm, sub, k0, k1, k2, k3, k5, hC⟩ := K₁.cls
  obtain ⟨mN, hmN, _, _, _, _, hno⟩ := K₁.ns
  show wpAny _ _ (execs mPush.1.2.2.1 _) _ _ _
  dsimp only [mPush]
  refine wpAny_execs_cons (wpAny_Expr ?_)
  refine MethodCall_ (wpAny_Name (wpAny_loadName_local rfl rfl hn (v := .ref x) (by rfl) ?_))
  refine acc_append hC hmN (hno _ (by simp)) (hno _ (by simp)) (hno _ (by simp)) c₁ ?_
  refine callWith_method1 (spliced_more (wpAny_Tuple (spliced_more (wpAny_Name (wpAny_loadName_local rfl rfl hn (v := .str a ta) (by rfl) (spliced_more (wpAny_Name (wpAny_loadName_local rfl rfl hn (v := .str b tb) (by rfl) (spliced_none ⟨by show 2 ≤ sizeLine; decide, spliced_none ?_⟩)))))))))
  have c₂ : AccS (h₁.push { cls := .type "tuple", data := .seq [Value.str a ta, Value.str b tb].toArray }) x dx items := c₁.at fun b o _ y => Heap.get?_push_of_some _ y
  refine call_append (Heap.get?_push_of_some _ hC) c₂.1 hz fun h₃ a₃ s₃ => ?_
  refine wpAny_execs_nil ?_
  refine hR _ _ _ (fun b o hb y => s₃.extBut b o hb (Heap.get?_push_of_some _ (k₁ _ _ y))) ⟨a₃, ?_⟩
  obtain ⟨_, u, o5, es, ep, e5, r5⟩ := c₂
  exact ⟨u, o5, es, ep, s₃.extBut _ _ hdx e5, r5⟩

set_option maxHeartbeats 1000000 in
theorem pop_call (hd : A.depth + 2 < recursionLimit) (T : Top q loose mean mg mb h₀) (K : Cl h₀) (hk₀ : ∀ b o, h₀.get? b = some o → s.heap.get? b = some o) (c : AccS s.heap x dx items) (hx : h₀.objs.size ≤ x) (hdx : dx ≠ x) (hz : items.size ≤ 1000)
    (hR : ∀ h' tk v, (∀ b o, b ≠ x → s.heap.get? b = some o → h'.get? b = some o) → AccS h' x dx items.pop → R (.ok (.ret v)) { s with heap := h', toks := tk }) :
    codeAny (model pw w) A (.call (.ref 61) ⟨[.ref x], []⟩) R s := by
  have Ks := K.keeps hk₀
  have hx101 : x ≠ 101 := by
    obtain ⟨nm, sub, k0, k1, k2, k3, k5, hC⟩ := K.cls
    exact Nat.ne_of_gt (Nat.lt_of_lt_of_le (Heap.lt_size hC) hx)
  obtain ⟨of, pm, ct, hof, hofc, hofd⟩ := Ks.fPop
  refine ks_codeAny_call_defAt (fd := fdOf mPop.1 qPop cCell .none pm (.ref 60) ct) (body := mPop.1.2.2.1) (binds := [("self", .ref x)]) (by omega) hof hofd (T.keeps hk₀).nolimit Ks.recs.2.2.1 rfl (.of_eq rfl)
    (show ∀ x ∈ mPop.1.2.2.2.names, x.2 ≠ .cell by decide) (locs (by rfl)) (fun h₁ hn k₁ => ?_) rfl rfl rfl
  refine PySem.wpAt_mono (E := fun _ _ => False) ?_ (fun _ _ y => y) (fun _ _ y => y.elim)
  have K₁ := Ks.keeps k₁
  have c₁ : AccS h₁ x dx items := c.at fun b o _ y => k₁ _ _ y
  obtain ⟨nm, sub, k0, k1, k2, k3, k5, hC⟩ := K₁.cls
  obtain ⟨mN, hmN, _, _, _, hpc, hno⟩ := K₁.ns
  obtain ⟨o98, pm98, ct98, h98, hc98, hd98⟩ := K₁.fPart
  show PySem.wpAt _ _ _ (execs mPop.1.2.2.1 _) _ _ _
  dsimp only [mPop]
  refine ks_wpAt_execs_cons (ks_wpAt_If (PySem.wpAt_of_wpAny (wpAny_isTrue_Compare1 ?_)))
  refine MethodCall_ (wpAny_Name (wpAny_loadName_local rfl rfl hn (v := .ref x) (by rfl) ?_))
  refine acc_method hC hmN (hno _ (by simp)) (hno _ (by simp)) hpc h98 hc98 LF.lk_part c₁ (by decide) ?_
  refine callWith_meth0 hd98 h98 (wpAny_call (part_call (s := { s with heap := h₁, toks := _ }) (by show A.depth + 1 + 1 < _; omega) (T.keeps fun b o y => k₁ _ _ (hk₀ _ _ y)) K₁ c₁.1 hx101 fun s₂ t₂ k₂ hg₂ => ?_))
  dsimp only
  refine wpAny_Constant_int (eq_int (wpAny_truthy_bool ?_))
  by_cases h0 : items.size = 0
  · rw [if_pos (by simp [h0])]
    have hit : items = #[] := by simpa using h0
    refine ks_wpAt_execs_cons (ks_wpAt_Return_some (PySem.wpAt_of_wpAny (wpAny_Tuple (spliced_more (Constant_str (spliced_more (Constant_str (spliced_none ⟨by show 2 ≤ sizeLine; decide, ?_⟩))))))))
    obtain ⟨h₂, tk₂, gs₂, rfl, kk₂, _⟩ := k₂
    have hg₂ : gs₂ = s.gens := hg₂
    subst hg₂
    refine hR _ _ _ (fun b o _ y => Heap.get?_push_of_some _ (kk₂ _ _ (k₁ _ _ y))) ?_
    have hpop : items.pop = items := by rw [hit]; rfl
    rw [hpop]
    exact c₁.at fun b o _ y => Heap.get?_push_of_some _ (kk₂ _ _ y)
  · rw [if_neg (by simpa using h0)]
    obtain ⟨h₂, tk₂, gs₂, rfl, kk₂, _⟩ := k₂
    have hg₂ : gs₂ = s.gens := hg₂
    subst hg₂
    refine PySem.wpAt_of_wpAny (wpAny_execs_nil ?_)
    have hlt : items.size - 1 < items.size := by omega
    have hpush : items = items.pop.push (items[items.size - 1]'hlt) := by
      apply Array.ext
      · rw [Array.size_push, Array.size_pop]; omega
      · intro i hi1 hi2
        rw [Array.getElem_push]
        split
        · simp
        · rename_i hni
          rw [Array.size_pop] at hni
          have : i = items.size - 1 := by omega
          subst this
          rfl
    have hn₂ := hn.at fun o y => kk₂ _ o y
    have c₂ : AccS h₂ x dx items := c₁.at fun b o _ y => kk₂ _ _ y
    refine ks_wpAt_execs_cons (ks_wpAt_Return_some ?_)
    refine sup_call (s := { s with heap := h₂, toks := _ }) (x := x) (dx := dx) (items := items) (ar := _) (T.keeps fun b o y => kk₂ _ _ (k₁ _ _ (hk₀ _ _ y))) (K₁.keeps kk₂) c₂.1 hx101 hn₂ (by rfl) (kk₂ _ _ (k₁ _ _ hof)) hofd (by decide) rfl rfl rfl rfl rfl (by decide) LF.own_pop LF.type_pop LF.slot_mget LF.entry_mget (LF.args_mget _ _ _)
      (fun h g dr t os nm sub k0 k1 k2 k3 k5 hC hx => ?_) (.inr rfl) (fun h₃ tk u' k₃ hb => ?_)
    · obtain ⟨ox, hox, hxc⟩ := hx
      exact fun A' P E' hP => run_mget hC hox hxc hP
    · have c₃ : AccS h₃ x dx items := c₂.at fun b o _ y => k₃ _ _ y
      refine call_bnd (B := Builtin.«list.pop») (.inr rfl) hb (fun Q' E' hq => chk_pop (k₃ _ _ (kk₂ _ _ hC)) c₃.1 hq) ?_ LF.quiet_pop
      refine code_pop (s := { s with heap := h₃, toks := tk }) (dx := dx) (items := items.pop) (v := items[items.size - 1]'hlt) (by rw [← hpush]; exact c₃.1) (by rw [Array.size_pop]; omega) fun h₄ a₄ s₄ => ?_
      refine hR _ _ _ (fun b o hb y => s₄.extBut b o hb (k₃ _ _ (kk₂ _ _ (k₁ _ _ y)))) ⟨a₄, ?_⟩
      obtain ⟨_, u, o5, es, ep, e5, r5⟩ := c₃
      exact ⟨u, o5, es, ep, s₄.extBut _ _ hdx e5, r5⟩
end
end Mine
/-! Opn -/
namespace Mine
open PySem PySem.W PySem.Spec PySem.Calls PyProof.Rows

def pileGo : List Str → Nat → Nat
  | [], n => n
  | t :: r, n => if (t == Str.ofString "(") = true then pileGo r (n + 1) else if (t == Str.ofString ")") = true then pileGo r (n - 1) else pileGo r n
def openCounts : Nat → List (List Str) → List Nat
  | _, [] => []
  | n, l :: r => pileGo l n :: openCounts (pileGo l n) r
def intVs (l : List (Int × Tok)) : List Value := l.map fun p => .int p.1 p.2
theorem intVs_push (l : List (Int × Tok)) (y : Int) (u : Tok) : (intVs l).toArray.push (.int y u) = (intVs (l ++ [(y, u)])).toArray := by simp [intVs]

section
variable {prog : Program} {w : World} {A : Around} {E E₂ E₃ : Value → Shared → Prop} {s : Shared} {Zn Zc : Shared → Prop} {env : Env} {m : Str → Option Value} {I ax : Addr} {i : Nat} {items : Array Value} {xv : Str} {pt : Pos}

/-- one turn of a loop over a list, with one name -/
theorem listTurn (hh : A.handled = none) (hit : s.heap.IsListIter I ax i) (hl : s.heap.IsList ax items) (hn : s.heap.Ns env.locals m) (hIL : I ≠ env.locals)
    (hxv : env.kindOf xv = some .local) (hp : (env.scope.kind == .class || (env.scope.kind == .module && env.locals != env.globals)) = false)
    (hnil : items[i]? = none → ∀ h', (∀ b o, b ≠ I → s.heap.get? b = some o → h'.get? b = some o) → Zn { s with heap := h' })
    (hcons : ∀ v, items[i]? = some v → ∀ h' tk, h'.IsListIter I ax (i + 1) → h'.Ns env.locals (fun y => if y = xv then some v else m y) → (∀ b o, b ≠ I → b ≠ env.locals → s.heap.get? b = some o → h'.get? b = some o) → Zc { s with heap := h', toks := tk }) :
    wpAny (model prog w) A (pyNext (.ref I)) (fun r s₁ => match r with
      | none => Zn s₁
      | some v => wpAny (model prog w) A (letOwnedTupleGo (.Name xv pt) (.ref I) v) (fun _ s₂ =>
          wpAny (model prog w) A (assign (.Name xv pt) env v) (fun _ s₃ => Zc s₃) E₃ s₂) E₂ s₁) E s := by
  cases hv : items[i]? with
  | none => exact wpAny_pyNext_list_end hh hit hl hv fun h' he => hnil hv h' fun b o hb y => he b o hb y
  | some v =>
    refine wpAny_pyNext_list_item hit hl hv fun h₁ hit₁ s₁ => ?_
    show wpAny _ _ (pure ()) _ _ _
    refine wpAny_pure (wpAny_assign_Name (wpAny_storeName_local hxv (hn.at fun o y => s₁.extBut _ o (Ne.symm hIL) y) (fun h₂ hn₂ s₂ => ?_) hp))
    refine hcons v hv h₂ _ ?_ hn₂ fun b o hb hb' y => s₂.extBut b o hb' (s₁.extBut b o hb y)
    exact hit₁.at fun o y => s₂.extBut I o hIL y

theorem callWith_acc {pos : Pos} {nm q : Str} {sub : List Value} {k0 k1 k2 k3 k5 : Option Value} {Q : Value → Shared → Prop} (hC : s.heap.get? 101 = some (clsObj nm q sub k0 k1 k2 k3 k5))
    (h : wpAny (model prog w) A (call (.ref 101) []) Q E s) : wpAny (model prog w) A (callWith pos (.ref 101) [] (backTo pos (starEach [] env)) []) Q E s := by
  have hk : ∀ {Q' : Keeper → Shared → Prop}, Q' .machine s → wpAny (model prog w) A (keeperOf (.ref 101)) Q' E s := by
    intro Q' hq
    obtain ⟨hh, g, d, t, os⟩ := s
    have f1 := tc_lookup
    have hT : (⟨hh, g, d, t, os⟩ : Shared).TypeIs (.ref 101) "type" := ⟨_, hC, rfl⟩
    unfold keeperOf specialOf
    repeat (any_goals (first | assumption | with_reducible refine wpAny_loadPart_at hC ?_ | with_reducible refine wpAny_load' hC ?_ | wp_step))
  unfold callWith
  refine wpAny_bind (wpAny_holding (PyProof.Rows.evalArgs_none (wpAny_bind (wpAny_standAt ?_))))
  refine wpAny_bind (m := keeperOf (.ref 101)) (hk ?_)
  show wpAny _ _ (call (.ref 101) [] [] >>= fun r => do holding [r] point; pure r) _ _ _
  exact wpAny_bind (wpAny_mono h (fun r s' hr => wpAny_bind (wpAny_holding (wpAny_point (wpAny_pure hr)))) fun _ _ x => x)

theorem Expr_any {e : Expr} {pos : Pos} {Q : Flow → Shared → Prop} (h : wpAny (model prog w) A (eval e env) (fun _ => Q .next) E s)
    (hi : interactive env = false := by rfl) (hs : swapsWith e none pos.line env = pure false := by rfl) : wpAny (model prog w) A (exec (.Expr e pos) env) Q E s := by
  rw [exec_Expr env e pos hi hs]
  exact wpAny_bind (wpAny_standAt (wpAny_bind (wpAny_mono h (fun v s' h' => wpAny_dropValue h') fun _ _ x => x)))
end

section
variable {w : World} {A : Around} {mean : ExcName → Option Value} {mg mb : Str → Option Value} {s : Shared} {f D : Addr} {o : Obj} {pm cd doc : Value} {R : Result → Shared → Prop} {lists : List (Addr × List (Str × Tok))}

set_option maxHeartbeats 2000000 in
theorem open_call (hh : A.handled = none) (hd : A.depth + 6 < recursionLimit) (T : Top q loose mean mg mb s.heap) (K : Cl s.heap) (hmg : mg "_Accumulator" = some (.ref 101))
    (hD : s.heap.IsList D (lists.map fun p => Value.ref p.1).toArray) (hl : ∀ p ∈ lists, s.heap.IsList p.1 (strValues p.2).toArray) (hz : (lists.map (·.2.length)).sum ≤ 1000) (hz2 : lists.length ≤ 1000)
    (ho : s.heap.get? f = some o) (hdat : o.data = .func (docDef rOpen.1.name rOpen.1.params rOpen.1.body rOpen.1.scope pm cd doc)) (hcd : s.heap.CodeRec cd rOpen.1.name)
    (hR : ∀ h' tk a l, (∀ b o, s.heap.get? b = some o → h'.get? b = some o) → h'.IsList a (intVs l).toArray → l.map (·.1) = (openCounts 0 (lists.map fun p => p.2.map (·.1))).map Int.ofNat → R (.ok (.ret (.ref a))) { s with heap := h', toks := tk }) :
    codeAny (model pw w) A (.call (.ref f) ⟨[.ref D], []⟩) R s := by
  refine call_plain_ret (by omega) ho hdat T.nolimit hcd (binds := [("lists", .ref D)]) rfl (locs (by rfl)) ?_ (by rfl) (by rfl) (by rfl) (by decide)
  intro h₁ F
  dsimp only [rOpen]
  have hL₁ : s.heap.objs.size < h₁.objs.size := F.ns.lt
  obtain ⟨nm, sub, k0, k1, k2, k3, k5, hC⟩ := K.cls
  refine wpAny_execs_cons (wpAny_Assign_Name ?_)
  refine Call_ (ld_global_at F T.g hmg ?_)
  refine callWith_acc (F.keep _ _ hC) ?_
  refine acc_make (h₀ := s.heap) (by show A.depth + 1 + 3 < _; omega) T K F.keep (Nat.le_of_lt hL₁) fun h₂ tk₂ k₂ a₂ => ?_
  dsimp only at a₂ k₂ ⊢
  have F₂ : Fr s.heap s.heap.objs.size h₂ _ := ⟨F.ns.at fun o y => k₂ _ _ y, fun b o y => k₂ _ _ (F.keep b o y), Nat.le_refl _⟩
  refine stB F₂ fun h₃ F₃ s₃ => ?_
  have a₃ : AccS h₃ (h₁.objs.size + 1) h₁.objs.size #[] := a₂.at fun b o hb y => s₃.extBut b o (by rcases hb with rfl | rfl; exact Nat.ne_of_gt (Nat.lt_succ_of_lt hL₁); exact Nat.ne_of_gt hL₁) y
  generalize hxd : h₁.objs.size = dx at *
  have hx0 : s.heap.objs.size < dx + 1 := Nat.lt_succ_of_lt hL₁
  have hx3 : dx + 1 < h₃.objs.size := let ⟨_, e⟩ := a₃.1; Heap.lt_size e
  -- the list of the counts
  refine wpAny_execs_cons (wpAny_Assign_Name (wpAny_List (spliced_none ⟨by decide, ?_⟩)))
  have F₃' := Fr.pushed F₃ { cls := .type "list", data := .seq ([] : List Value).toArray }
  have hP₃ : PlainL (h₃.push { cls := .type "list", data := .seq ([] : List Value).toArray }) h₃.objs.size #[] := ⟨_, _, Heap.get?_push_size _ rfl, rfl, rfl, rfl⟩
  refine stB F₃' fun h₄ F₄ s₄ => ?_
  have hDc : s.heap.objs.size < h₃.objs.size := Nat.lt_trans hx0 hx3
  have hP₄ : PlainL h₄ h₃.objs.size #[] := hP₃.extBut s₄.extBut (Nat.ne_of_gt hDc)
  have a₄ : AccS h₄ (dx + 1) dx #[] := a₃.at fun b o hb y => s₄.extBut b o (by rcases hb with rfl | rfl; exact Nat.ne_of_gt hx0; exact Nat.ne_of_gt hL₁) (Heap.get?_push_of_some _ y)
  have hz₄ : h₄.objs.size = h₃.objs.size + 1 := s₄.1.trans (Heap.size_push ..)
  refine wpAny_execs_cons (wpAny_For ?_)
  refine ld (s := { s with heap := h₄, toks := _ }) F₄ (v := .ref D) rfl (wpAny_pyIter_list (hD.at fun o y => F₄.keep _ _ y) ?_)
  dsimp only
  have F₅ := Fr.pushed F₄ { cls := .type "list_iterator", data := .fields #[.ref D, .int 0 0] }
  have it₅ : (h₄.push { cls := .type "list_iterator", data := .fields #[.ref D, .int 0 0] }).IsListIter h₄.objs.size D 0 := ⟨_, Heap.get?_push_size _ rfl, rfl, rfl⟩
  generalize hI : h₄.objs.size = I at *
  have hDI : h₃.objs.size < I := by rw [hz₄]; exact Nat.lt_succ_self _
  generalize hDcE : h₃.objs.size = Dc at *
  refine codeAny_forLoop_any (fun n s' => ∃ i m items l h' tk, n = lists.length - i ∧ i ≤ lists.length ∧ s' = { s with heap := h', toks := tk } ∧ Fr s.heap s.heap.objs.size h' m ∧ m "pile" = some (.ref (dx + 1)) ∧ m "counts" = some (.ref Dc) ∧
      h'.IsListIter I D i ∧ AccS h' (dx + 1) dx items ∧ PlainL h' Dc (intVs l).toArray ∧ l.length = i ∧ items.size + ((lists.drop i).map (·.2.length)).sum ≤ 1000 ∧
      l.map (·.1) ++ (openCounts items.size ((lists.drop i).map fun p => p.2.map (·.1))).map Int.ofNat = (openCounts 0 (lists.map fun p => p.2.map (·.1))).map Int.ofNat) ?_ _
    ⟨0, _, #[], [], _, _, rfl, Nat.zero_le _, rfl, F₅, rfl, rfl, it₅, a₄.at fun b o _ y => Heap.get?_push_of_some _ y, hP₄.keeps fun b o y => Heap.get?_push_of_some _ y, rfl, by simpa using hz, by simp⟩
  rintro n s₆ ⟨i, m, items, l, h₆, tk₆, rfl, hi, rfl, F₆, hmp, hmc, it₆, a₆, hP₆, hli, hz₆, hgo⟩
  refine listTurn (env := envOf rOpen.1.name rOpen.1.scope s.heap.objs.size f cd) (by exact hh) it₆ (hD.at fun o y => F₆.keep _ _ y) F₆.ns (by show I ≠ s.heap.objs.size; exact Nat.ne_of_gt (Nat.lt_trans hDc hDI)) rfl rfl ?_ ?_
  · intro hnone h₇ k₇
    have hin : i = lists.length := by
      have : lists.length ≤ i := by simpa using hnone
      omega
    subst hin
    rw [List.drop_length] at hgo
    simp only [List.map_nil, openCounts, List.append_nil] at hgo
    refine wpAny_execs_nil ?_
    have F₇ : Fr s.heap s.heap.objs.size h₇ m := ⟨F₆.ns.at fun o y => k₇ _ o (Nat.ne_of_lt (Nat.lt_trans hDc hDI)) y, fun b o y => k₇ b o (Nat.ne_of_lt (Nat.lt_trans (Nat.lt_trans (Heap.lt_size y) hDc) hDI)) (F₆.keep b o y), Nat.le_refl _⟩
    refine wpAny_execs_cons (wpAny_Return_some (ld (s := { s with heap := h₇, toks := tk₆ }) F₇ hmc ?_))
    exact hR _ _ _ _ F₇.keep ((hP₆.isList).at fun o y => k₇ _ o (Nat.ne_of_lt hDI) y) hgo
  · intro v hv h₇ tk₇ it₇ n₇ k₇
    have hlt : i < lists.length := by
      rcases Nat.lt_or_ge i lists.length with h | h
      · exact h
      · rw [show (lists.map fun p => Value.ref p.1).toArray[i]? = none by simpa using h] at hv; cases hv
    have hve : v = .ref (lists[i]'hlt).1 := by
      have : (lists.map fun p => Value.ref p.1).toArray[i]? = some (.ref (lists[i]'hlt).1) := by simp [hlt]
      rw [this] at hv; exact (Option.some.inj hv).symm
    subst hve
    have hpl := hl _ (List.getElem_mem hlt)
    have hdrop : lists.drop i = lists[i]'hlt :: lists.drop (i + 1) := List.drop_eq_getElem_cons hlt
    generalize lists[i]'hlt = pr at *
    obtain ⟨ap, sg⟩ := pr
    rw [hdrop] at hgo hz₆
    simp only [List.map_cons, List.sum_cons, openCounts] at hgo hz₆
    have F₇ : Fr s.heap s.heap.objs.size h₇ _ := ⟨n₇, fun b o y => k₇ b o (Nat.ne_of_lt (Nat.lt_trans (Nat.lt_trans (Heap.lt_size y) hDc) hDI)) (Nat.ne_of_lt (Heap.lt_size y)) (F₆.keep b o y), Nat.le_refl _⟩
    have a₇ : AccS h₇ (dx + 1) dx items := a₆.at fun b o hb y => k₇ b o (by rcases hb with rfl | rfl; exact Nat.ne_of_lt (Nat.lt_trans hx3 hDI); exact Nat.ne_of_lt (Nat.lt_trans (Nat.lt_trans (Nat.lt_succ_self _) hx3) hDI)) (by rcases hb with rfl | rfl; exact Nat.ne_of_gt hx0; exact Nat.ne_of_gt hL₁) y
    have hP₇ : PlainL h₇ Dc (intVs l).toArray := let ⟨ob, nn, ho, r⟩ := hP₆; ⟨ob, nn, k₇ _ _ (Nat.ne_of_lt hDI) (Nat.ne_of_gt hDc) ho, r⟩
    refine wpAny_execs_cons (wpAny_For ?_)
    refine ld (s := { s with heap := h₇, toks := _ }) F₇ (v := .ref ap) rfl (wpAny_pyIter_list (hpl.at fun o y => F₇.keep _ _ y) ?_)
    dsimp only
    have hIJ : I < h₇.objs.size := let ⟨ob, ho, _⟩ := it₇; Heap.lt_size ho
    have hLJ : s.heap.objs.size < h₇.objs.size := Nat.lt_trans (Nat.lt_trans hDc hDI) hIJ
    have hxJ : dx + 1 < h₇.objs.size := Nat.lt_trans (Nat.lt_trans hx3 hDI) hIJ
    have F₈ := Fr.pushed F₇ { cls := .type "list_iterator", data := .fields #[.ref ap, .int 0 0] }
    have it₈ : (h₇.push { cls := .type "list_iterator", data := .fields #[.ref ap, .int 0 0] }).IsListIter h₇.objs.size ap 0 := ⟨_, Heap.get?_push_size _ rfl, rfl, rfl⟩
    have up₈ : ∀ b o, h₇.get? b = some o → (h₇.push { cls := .type "list_iterator", data := .fields #[.ref ap, .int 0 0] }).get? b = some o := fun b o y => Heap.get?_push_of_some _ y
    generalize hJ : h₇.objs.size = J at *
    refine codeAny_forLoop_any (fun n s' => ∃ j m' items' h' tk, n = sg.length - j ∧ j ≤ sg.length ∧ s' = { s with heap := h', toks := tk } ∧ Fr s.heap s.heap.objs.size h' m' ∧ m' "pile" = some (.ref (dx + 1)) ∧ m' "counts" = some (.ref Dc) ∧
        h'.IsListIter J ap j ∧ h'.IsListIter I D (i + 1) ∧ AccS h' (dx + 1) dx items' ∧ PlainL h' Dc (intVs l).toArray ∧ items'.size + (sg.length - j) ≤ items.size + sg.length ∧
        pileGo ((sg.drop j).map (·.1)) items'.size = pileGo (sg.map (·.1)) items.size) ?_ _
      ⟨0, _, items, _, _, rfl, Nat.zero_le _, rfl, F₈, hmp, hmc, it₈, it₇.at fun o y => up₈ _ _ y, a₇.at fun b o _ y => up₈ _ _ y, hP₇.keeps fun b o y => up₈ _ _ y, Nat.le_refl _, rfl⟩
    rintro n s₈ ⟨j, m', items', h₈, tk₈, rfl, hj, rfl, F₈', hmp', hmc', it₈', itI₈, a₈, hP₈, hz₈, hpg⟩
    refine listTurn (env := envOf rOpen.1.name rOpen.1.scope s.heap.objs.size f cd) (by exact hh) it₈' (hpl.at fun o y => F₈'.keep _ _ y) F₈'.ns (by show J ≠ s.heap.objs.size; exact Nat.ne_of_gt hLJ) rfl rfl ?_ ?_
    · intro hnone h₉ k₉
      have hin : j = sg.length := by
        have : sg.length ≤ j := by simpa [strValues] using hnone
        omega
      subst hin
      rw [List.drop_length] at hpg
      simp only [List.map_nil, pileGo] at hpg
      refine wpAny_execs_nil ?_
      have F₉ : Fr s.heap s.heap.objs.size h₉ m' := ⟨F₈'.ns.at fun o y => k₉ _ o (Nat.ne_of_lt hLJ) y, fun b o y => k₉ b o (Nat.ne_of_lt (Nat.lt_trans (Heap.lt_size y) hLJ)) (F₈'.keep b o y), Nat.le_refl _⟩
      have a₉ : AccS h₉ (dx + 1) dx items' := a₈.at fun b o hb y => k₉ b o (by rcases hb with rfl | rfl; exact Nat.ne_of_lt hxJ; exact Nat.ne_of_lt (Nat.lt_trans (Nat.lt_succ_self _) hxJ)) y
      have hP₉ : PlainL h₉ Dc (intVs l).toArray := let ⟨ob, nn, ho, r⟩ := hP₈; ⟨ob, nn, k₉ _ _ (Nat.ne_of_lt (Nat.lt_trans hDI hIJ)) ho, r⟩
      have itI₉ : h₉.IsListIter I D (i + 1) := itI₈.at fun o y => k₉ _ o (Nat.ne_of_lt hIJ) y
      have hls : (intVs l).toArray.size ≤ sizeLine := by
        have : (intVs l).toArray.size = l.length := by simp [intVs]
        have h3 : l.length ≤ 1000 := by omega
        rw [this]; exact Nat.le_trans h3 (by decide)
      have K₉ := K.keeps F₉.keep
      obtain ⟨nm, sub, k0, k1, k2, k3, k5, hC⟩ := K₉.cls
      obtain ⟨mN, hmN, _, _, _, hpc, hno⟩ := K₉.ns
      obtain ⟨o98, pm98, ct98, h98, hc98, hd98⟩ := K₉.fPart
      refine wpAny_execs_cons (wpAny_Expr ?_)
      refine wpAny_Call_append rfl rfl rfl rfl ?_
      refine ld (s := { s with heap := h₉, toks := tk₈ }) F₉ hmc' ⟨_, _, rfl, hP₉, ?_⟩
      refine MethodCall_ (ld (s := { s with heap := h₉, toks := tk₈ }) F₉ hmp' ?_)
      refine acc_method hC hmN (hno _ (by simp)) (hno _ (by simp)) hpc h98 hc98 LF.lk_part a₉ (by decide) ?_
      refine callWith_meth0 hd98 h98 (wpAny_call (part_call (s := { s with heap := h₉, toks := tk₈ }) (by show A.depth + 1 + 1 < _; omega) (T.keeps F₉.keep) K₉ a₉.1 (by obtain ⟨_, _, _, _, _, _, _, hC'⟩ := K.cls; exact Nat.ne_of_gt (Nat.lt_trans (Heap.lt_size hC') hx0)) fun s₁₀ t₁₀ k₁₀ hg₁₀ => ?_))
      obtain ⟨h₁₀, tk₁₀, gs₁₀, rfl, kk, _⟩ := k₁₀
      have hg₁₀ : gs₁₀ = s.gens := hg₁₀
      subst hg₁₀
      dsimp only
      refine list_append_plainL (s := { s with heap := h₁₀, toks := tk₁₀ }) (hP₉.keeps kk) (fun h₁₁ hP₁₁ s₁₁ => ?_) hls
      rw [intVs_push] at hP₁₁
      have k₁₁ : ∀ b o, b ≠ Dc → h₉.get? b = some o → h₁₁.get? b = some o := fun b o hb y => s₁₁.extBut b o hb (kk _ _ y)
      refine wpAny_execs_nil ⟨lists.length - (i + 1), by omega, i + 1, m', items', l ++ [(_, t₁₀)], h₁₁, _, rfl, hlt, rfl, ?_, hmp', hmc', itI₉.at fun o y => k₁₁ _ o (Nat.ne_of_gt hDI) y,
        a₉.at fun b o hb y => k₁₁ b o (by rcases hb with rfl | rfl; exact Nat.ne_of_lt hx3; exact Nat.ne_of_lt (Nat.lt_trans (Nat.lt_succ_self _) hx3)) y, hP₁₁, by simp [hli], by omega, ?_⟩
      · exact ⟨F₉.ns.at fun o y => k₁₁ _ o (Nat.ne_of_lt hDc) y, fun b o y => k₁₁ b o (Nat.ne_of_lt (Nat.lt_trans (Heap.lt_size y) hDc)) (F₉.keep b o y), Nat.le_refl _⟩
      · rw [← hgo, List.map_append, List.append_assoc, hpg]
        rfl
    · intro v hv h₉ tk₉ it₉ n₉ k₉
      have hlt' : j < sg.length := by
        rcases Nat.lt_or_ge j sg.length with h | h
        · exact h
        · rw [show (strValues sg).toArray[j]? = none by simpa [strValues] using h] at hv; cases hv
      have hve : v = .str (sg[j]'hlt').1 (sg[j]'hlt').2 := by
        have : (strValues sg).toArray[j]? = some (.str (sg[j]'hlt').1 (sg[j]'hlt').2) := by simp [strValues, hlt']
        rw [this] at hv; exact (Option.some.inj hv).symm
      subst hve
      have hdrop' : sg.drop j = sg[j]'hlt' :: sg.drop (j + 1) := List.drop_eq_getElem_cons hlt'
      generalize sg[j]'hlt' = pr at *
      obtain ⟨y₀, u₀⟩ := pr
      rw [hdrop'] at hpg
      simp only [List.map_cons, pileGo] at hpg
      have F₉ : Fr s.heap s.heap.objs.size h₉ _ := ⟨n₉, fun b o y => k₉ b o (Nat.ne_of_lt (Nat.lt_trans (Heap.lt_size y) hLJ)) (Nat.ne_of_lt (Heap.lt_size y)) (F₈'.keep b o y), Nat.le_refl _⟩
      have a₉ : AccS h₉ (dx + 1) dx items' := a₈.at fun b o hb y => k₉ b o (by rcases hb with rfl | rfl; exact Nat.ne_of_lt hxJ; exact Nat.ne_of_lt (Nat.lt_trans (Nat.lt_succ_self _) hxJ)) (by rcases hb with rfl | rfl; exact Nat.ne_of_gt hx0; exact Nat.ne_of_gt hL₁) y
      have hP₉ : PlainL h₉ Dc (intVs l).toArray := let ⟨ob, nn, ho, r⟩ := hP₈; ⟨ob, nn, k₉ _ _ (Nat.ne_of_lt (Nat.lt_trans hDI hIJ)) (Nat.ne_of_gt hDc) ho, r⟩
      have itI₉ : h₉.IsListIter I D (i + 1) := itI₈.at fun o y => k₉ _ o (Nat.ne_of_lt hIJ) (Nat.ne_of_gt (Nat.lt_trans hDc hDI)) y
      have K₉ := K.keeps F₉.keep
      obtain ⟨nm, sub, k0, k1, k2, k3, k5, hC⟩ := K₉.cls
      obtain ⟨mN, hmN, _, hpush, hpop, _, hno⟩ := K₉.ns
      obtain ⟨o45, pm45, h45, hc45, hd45⟩ := K₉.fPush
      obtain ⟨o61, pm61, ct61, h61, hc61, hd61⟩ := K₉.fPop
      have hzi : items'.size ≤ 1000 := by omega
      -- the next turn
      have next : ∀ (h' : Heap) (tk : Nat) (its : Array Value), (∀ b o, b ≠ dx + 1 → h₉.get? b = some o → h'.get? b = some o) → AccS h' (dx + 1) dx its → its.size ≤ items'.size + 1 → pileGo ((sg.drop (j + 1)).map (·.1)) its.size = pileGo (sg.map (·.1)) items.size →
          ∃ mm, mm < sg.length - j ∧ ∃ j m' items' h₀' tk', mm = sg.length - j ∧ j ≤ sg.length ∧ ({ s with heap := h', toks := tk } : Shared) = { s with heap := h₀', toks := tk' } ∧ Fr s.heap s.heap.objs.size h₀' m' ∧ m' "pile" = some (.ref (dx + 1)) ∧ m' "counts" = some (.ref Dc) ∧
        h₀'.IsListIter J ap j ∧ h₀'.IsListIter I D (i + 1) ∧ AccS h₀' (dx + 1) dx items' ∧ PlainL h₀' Dc (intVs l).toArray ∧ items'.size + (sg.length - j) ≤ items.size + sg.length ∧
        pileGo ((sg.drop j).map (·.1)) items'.size = pileGo (sg.map (·.1)) items.size := by
        intro h' tk its k' a' hsz' hpg'
        refine ⟨sg.length - (j + 1), by omega, j + 1, _, its, h', tk, rfl, hlt', rfl, ⟨F₉.ns.at fun o y => k' _ o (Nat.ne_of_lt hx0) y, fun b o y => k' b o (Nat.ne_of_lt (Nat.lt_trans (Heap.lt_size y) hx0)) (F₉.keep b o y), Nat.le_refl _⟩, hmp', hmc',
          it₉.at fun o y => k' _ o (Nat.ne_of_gt hxJ) y, itI₉.at fun o y => k' _ o (Nat.ne_of_gt (Nat.lt_trans hx3 hDI)) y, a', ?_, by omega, hpg'⟩
        obtain ⟨ob, nn, ho, r⟩ := hP₉
        exact ⟨ob, nn, k' _ _ (Nat.ne_of_gt hx3) ho, r⟩
      refine wpAny_execs_cons (wpAny_If (wpAny_isTrue_Compare1 ?_))
      refine ld (s := { s with heap := h₉, toks := _ }) F₉ (v := .str y₀ u₀) rfl (Constant_str (eq_str (wpAny_truthy_bool ?_)))
      by_cases h1 : (y₀ == Str.ofString "(") = true
      · rw [if_pos h1] at hpg ⊢
        refine wpAny_execs_cons (Expr_any ?_)
        refine MethodCall_ (ld (s := { s with heap := h₉, toks := _ }) F₉ (v := .ref (dx + 1)) hmp' ?_)
        refine acc_method hC hmN (hno _ (by simp)) (hno _ (by simp)) hpush h45 hc45 LF.lk_push a₉ (by decide) ?_
        refine callWith_meth (h₀ := h₉) hd45 h45 (spliced_more (Constant_str (spliced_more (ld (s := { s with heap := h₉, toks := _ }) F₉ (v := .str y₀ u₀) rfl (spliced_none ⟨fun _ _ y => y, ?_⟩)))))
        refine wpAny_call (push_call (h₀ := s.heap) (s := { s with heap := h₉, toks := _ }) (by show A.depth + 1 + 1 < _; omega) T K F₉.keep a₉ (Nat.le_of_lt hx0) (Nat.ne_of_lt (Nat.lt_succ_self _)) hzi fun h' tk v' k' a' => ?_)
        refine wpAny_execs_nil (wpAny_execs_nil ?_)
        exact next h' tk _ k' a' (by rw [Array.size_push]; exact Nat.le_refl _) (by rw [Array.size_push]; exact hpg)
      · rw [if_neg h1] at hpg ⊢
        refine wpAny_execs_cons (wpAny_If (wpAny_isTrue_Compare1 ?_))
        refine ld (s := { s with heap := h₉, toks := _ }) F₉ (v := .str y₀ u₀) rfl (Constant_str (eq_str (wpAny_truthy_bool ?_)))
        by_cases h2 : (y₀ == Str.ofString ")") = true
        · rw [if_pos h2] at hpg ⊢
          refine wpAny_execs_cons (Expr_any ?_)
          refine MethodCall_ (ld (s := { s with heap := h₉, toks := _ }) F₉ (v := .ref (dx + 1)) hmp' ?_)
          refine acc_method hC hmN (hno _ (by simp)) (hno _ (by simp)) hpop h61 hc61 LF.lk_pop a₉ (by decide) ?_
          refine callWith_meth0 hd61 h61 (wpAny_call (pop_call (h₀ := s.heap) (s := { s with heap := h₉, toks := _ }) (by show A.depth + 1 + 2 < _; omega) T K F₉.keep a₉ (Nat.le_of_lt hx0) (Nat.ne_of_lt (Nat.lt_succ_self _)) hzi fun h' tk v' k' a' => ?_))
          refine wpAny_execs_nil (wpAny_execs_nil (wpAny_execs_nil ?_))
          exact next h' tk _ k' a' (by rw [Array.size_pop]; omega) (by rw [Array.size_pop]; exact hpg)
        · rw [if_neg h2] at hpg ⊢
          refine wpAny_execs_nil (wpAny_execs_nil (wpAny_execs_nil ?_))
          exact next h₉ _ _ (fun _ _ _ y => y) a₉ (Nat.le_succ _) hpg
end
end Mine
/-! Law1 -/
namespace Mine
open PySem PySem.W PySem.Spec PySem.Calls PyProof.Rows

theorem aN {a b : Addr} (h : @Ne Nat a b) : a ≠ b := h
theorem aL {a b : Addr} (h : @LT.lt Nat _ a b) : a < b := h

abbrev fdLaw (pm cd doc : Value) : FuncData := docDef rLaw.1.name rLaw.1.params rLaw.1.body rLaw.1.scope pm cd doc
abbrev envL (pm cd doc : Value) (L f : Addr) : Env := callEnvC (fdLaw pm cd doc) L f

theorem cells_law (pm cd doc : Value) (L f : Addr) : (envL pm cd doc L f).cells = [(Str.ofString "order", L + 1 + 1 + 1 + 1), (Str.ofString "lists", L + 1 + 1 + 1), (Str.ofString "pieces", L + 1 + 1), (Str.ofString "steps", L + 1)] := rfl

/-- the frame of law: its names, its four cells -/
structure LSt (s₀ : Shared) (m : Str → Option Value) (c1 c2 c3 c4 : Option Value) (s : Shared) : Prop where
  kp : Kp s₀ s
  ns : s.heap.Ns s₀.heap.objs.size m
  steps : s.heap.IsCell (s₀.heap.objs.size + 1) c1
  pieces : s.heap.IsCell (s₀.heap.objs.size + 1 + 1) c2
  lists : s.heap.IsCell (s₀.heap.objs.size + 1 + 1 + 1) c3
  order : s.heap.IsCell (s₀.heap.objs.size + 1 + 1 + 1 + 1) c4

section
variable {s₀ s : Shared} {m : Str → Option Value} {c1 c2 c3 c4 : Option Value}
theorem LSt.low (x : LSt s₀ m c1 c2 c3 c4 s) : s₀.heap.objs.size + 4 < s.heap.objs.size := x.order.lt
theorem LSt.to (x : LSt s₀ m c1 c2 c3 c4 s) {s' : Shared} (k : Kp s s') : LSt s₀ m c1 c2 c3 c4 s' :=
  ⟨x.kp.trans k, x.ns.at fun o y => k.keep _ o y, x.steps.keeps k.keep, x.pieces.keeps k.keep, x.lists.keeps k.keep, x.order.keeps k.keep⟩
theorem LSt.tk (x : LSt s₀ m c1 c2 c3 c4 s) {h' : Heap} {tk : Nat} (k : ∀ b o, s.heap.get? b = some o → h'.get? b = some o) : LSt s₀ m c1 c2 c3 c4 { s with heap := h', toks := tk } :=
  x.to ((Kp.refl s).step fun b o y _ => k b o y)
end

/-- not a part of law's frame -/
structure Off (s₀ : Shared) (S : Addr) : Prop where
  l : S ≠ s₀.heap.objs.size
  c1 : S ≠ s₀.heap.objs.size + 1
  c2 : S ≠ s₀.heap.objs.size + 1 + 1
  c3 : S ≠ s₀.heap.objs.size + 1 + 1 + 1
  c4 : S ≠ s₀.heap.objs.size + 1 + 1 + 1 + 1
theorem LSt.off {s₀ s : Shared} {m : Str → Option Value} {c1 c2 c3 c4 : Option Value} (x : LSt s₀ m c1 c2 c3 c4 s) {D : Addr} (h : s.heap.get? D = none) : Off s₀ D := by
  constructor
  · rintro rfl; obtain ⟨o, _, _, e, _⟩ := x.ns; rw [h] at e; cases e
  · rintro rfl; obtain ⟨o, e, _⟩ := x.steps; rw [h] at e; cases e
  · rintro rfl; obtain ⟨o, e, _⟩ := x.pieces; rw [h] at e; cases e
  · rintro rfl; obtain ⟨o, e, _⟩ := x.lists; rw [h] at e; cases e
  · rintro rfl; obtain ⟨o, e, _⟩ := x.order; rw [h] at e; cases e
theorem Off.of_lt {s₀ : Shared} {S : Addr} (h : s₀.heap.objs.size + 4 < S) : Off s₀ S :=
  ⟨Nat.ne_of_gt (Nat.lt_of_le_of_lt (Nat.le_add_right _ 4) h), Nat.ne_of_gt (Nat.lt_of_le_of_lt (Nat.le_add_right _ 3) h), Nat.ne_of_gt (Nat.lt_of_le_of_lt (Nat.le_add_right _ 2) h), Nat.ne_of_gt (Nat.lt_of_le_of_lt (Nat.le_add_right _ 1) h), Nat.ne_of_gt h⟩

section
variable {M : Model} {A : Around} {E : Value → Shared → Prop} {s₀ s : Shared} {m : Str → Option Value} {c1 c2 c3 c4 : Option Value} {pm cd doc : Value} {f : Addr} {x : Str} {v : Value}

theorem ldLw {pos : Pos} {Q : Value → Shared → Prop} (F : LSt s₀ m c1 c2 c3 c4 s) (hv : m x = some v) (h : Q v s) (hl : (envL pm cd doc s₀.heap.objs.size f).kindOf x = some .local := by rfl) (hd : (x == ("__debug__" : Str)) = false := by decide) :
    wpAny M A (eval (.Name x pos) (envL pm cd doc s₀.heap.objs.size f)) Q E s := wpAny_Name (wpAny_loadName_local rfl hl F.ns hv h) hd
theorem ldCell {pos : Pos} {c : Addr} {Q : Value → Shared → Prop} (hc : s.heap.IsCell c (some v)) (h : Q v s) (hcl : (envL pm cd doc s₀.heap.objs.size f).cells.lookup x = some c := by rfl) (hl : (envL pm cd doc s₀.heap.objs.size f).kindOf x = some .cell := by rfl) (hd : (x == ("__debug__" : Str)) = false := by decide) :
    wpAny M A (eval (.Name x pos) (envL pm cd doc s₀.heap.objs.size f)) Q E s := wpAny_Name (wpAny_loadName_cell rfl hl hcl hc h) hd
theorem ldGlob {pos : Pos} {Q : Value → Shared → Prop} {mg : Str → Option Value} (hg : s.heap.Ns mainGlobals mg) (hv : mg x = some v) (h : Q v s) (hl : (envL pm cd doc s₀.heap.objs.size f).kindOf x = some .globalImplicit := by rfl) (hd : (x == ("__debug__" : Str)) = false := by decide) :
    wpAny M A (eval (.Name x pos) (envL pm cd doc s₀.heap.objs.size f)) Q E s := Name_function_global rfl hl (loadGlobal_global (env := envL pm cd doc s₀.heap.objs.size f) hg hv h) hd
theorem ldBuil {pos : Pos} {Q : Value → Shared → Prop} {mean : ExcName → Option Value} {mg mb : Str → Option Value} (T : Top q loose mean mg mb s.heap) (hv : bootBuiltins x = some v) (h : Q v s)
    (h1 : x ∉ startupNames := by decide +kernel) (h2 : x ∉ loose := by decide +kernel) (h3 : x ∉ (recsOf q).map (·.name) := by decide +kernel)
    (h4 : x ∉ (litsOf q).map (·.1) := by decide +kernel) (h4c : x ∉ (clssOf q loose).map (·.name) := by decide +kernel) (hn : x ≠ "__name__" := by decide +kernel)
    (hl : (envL pm cd doc s₀.heap.objs.size f).kindOf x = some .globalImplicit := by rfl) (hd : (x == ("__debug__" : Str)) = false := by decide +kernel) :
    wpAny M A (eval (.Name x pos) (envL pm cd doc s₀.heap.objs.size f)) Q E s :=
  Name_function_global rfl hl (loadGlobal_builtin (env := envL pm cd doc s₀.heap.objs.size f) T.g (T.free x h1 h2 h3 h4 h4c) T.b ((T.builtins x hn).trans hv) h) hd

theorem stLw {Q : Unit → Shared → Prop} (F : LSt s₀ m c1 c2 c3 c4 s)
    (h : ∀ h', LSt s₀ (fun y => if y = x then some v else m y) c1 c2 c3 c4 { s with heap := h', toks := s.toks + 1 } → (∀ b o, b ≠ s₀.heap.objs.size → s.heap.get? b = some o → h'.get? b = some o) → Q () { s with heap := h', toks := s.toks + 1 })
    (hl : (envL pm cd doc s₀.heap.objs.size f).kindOf x = some .local := by rfl) :
    wpAny M A (storeName (envL pm cd doc s₀.heap.objs.size f) x v) Q E s := by
  refine wpAny_storeName_local hl F.ns (fun h' hn hs => h h' ?_ fun b o hb y => hs.extBut b o hb y) rfl
  have k : ∀ b o, b ≠ s₀.heap.objs.size → s.heap.get? b = some o → h'.get? b = some o := fun b o hb y => hs.extBut b o hb y
  have cc : ∀ {c v}, s₀.heap.objs.size < c → s.heap.IsCell c v → h'.IsCell c v := fun hc ⟨o, ho, r⟩ => ⟨o, k _ _ (Nat.ne_of_gt hc) ho, r⟩
  exact ⟨F.kp.step fun b o y z => k b o (Nat.ne_of_lt (Heap.lt_size y)) z, hn, cc (by omega) F.steps, cc (by omega) F.pieces, cc (by omega) F.lists, cc (by omega) F.order⟩

theorem stCellG {c : Addr} {Q : Unit → Shared → Prop} {old : Option Value} (hcl : (envL pm cd doc s₀.heap.objs.size f).cells.lookup x = some c) (hl : (envL pm cd doc s₀.heap.objs.size f).kindOf x = some .cell) (ho : s.heap.IsCell c old)
    (h : ∀ h', h'.IsCell c (some v) → (∀ b o, b ≠ c → s.heap.get? b = some o → h'.get? b = some o) → Q () { s with heap := h' }) :
    wpAny M A (storeName (envL pm cd doc s₀.heap.objs.size f) x v) Q E s :=
  wpAny_storeName_cell rfl hl hcl ho fun h' hc' hs' => h h' hc' fun b o hb y => hs'.extBut b o hb y

theorem LSt.other (F : LSt s₀ m c1 c2 c3 c4 s) {h' : Heap} {c : Addr} (hc : s₀.heap.objs.size < c) (k : ∀ b o, b ≠ c → s.heap.get? b = some o → h'.get? b = some o) :
    Kp s₀ { s with heap := h' } ∧ h'.Ns s₀.heap.objs.size m ∧ ∀ {c' v}, c' ≠ c → s.heap.IsCell c' v → h'.IsCell c' v :=
  ⟨F.kp.step fun b o y z => k b o (Nat.ne_of_lt (Nat.lt_trans (Heap.lt_size y) hc)) z, F.ns.at fun o y => k _ o (Nat.ne_of_lt hc) y, fun hne ⟨o, ho, r⟩ => ⟨o, k _ _ hne ho, r⟩⟩

theorem stSteps {Q : Unit → Shared → Prop} (F : LSt s₀ m c1 c2 c3 c4 s)
    (h : ∀ h', LSt s₀ m (some v) c2 c3 c4 { s with heap := h' } → (∀ b o, b ≠ s₀.heap.objs.size + 1 → s.heap.get? b = some o → h'.get? b = some o) → Q () { s with heap := h' }) :
    wpAny M A (storeName (envL pm cd doc s₀.heap.objs.size f) "steps" v) Q E s := by
  refine stCellG (by rfl) (by rfl) F.steps fun h' hc k => h h' ?_ k
  obtain ⟨a, b, cc⟩ := F.other (aL (by omega)) k
  exact ⟨a, b, hc, cc (aN (by omega)) F.pieces, cc (aN (by omega)) F.lists, cc (aN (by omega)) F.order⟩
theorem stPieces {Q : Unit → Shared → Prop} (F : LSt s₀ m c1 c2 c3 c4 s)
    (h : ∀ h', LSt s₀ m c1 (some v) c3 c4 { s with heap := h' } → (∀ b o, b ≠ s₀.heap.objs.size + 1 + 1 → s.heap.get? b = some o → h'.get? b = some o) → Q () { s with heap := h' }) :
    wpAny M A (storeName (envL pm cd doc s₀.heap.objs.size f) "pieces" v) Q E s := by
  refine stCellG (by rfl) (by rfl) F.pieces fun h' hc k => h h' ?_ k
  obtain ⟨a, b, cc⟩ := F.other (aL (by omega)) k
  exact ⟨a, b, cc (aN (by omega)) F.steps, hc, cc (aN (by omega)) F.lists, cc (aN (by omega)) F.order⟩
theorem stLists {Q : Unit → Shared → Prop} (F : LSt s₀ m c1 c2 c3 c4 s)
    (h : ∀ h', LSt s₀ m c1 c2 (some v) c4 { s with heap := h' } → (∀ b o, b ≠ s₀.heap.objs.size + 1 + 1 + 1 → s.heap.get? b = some o → h'.get? b = some o) → Q () { s with heap := h' }) :
    wpAny M A (storeName (envL pm cd doc s₀.heap.objs.size f) "lists" v) Q E s := by
  refine stCellG (by rfl) (by rfl) F.lists fun h' hc k => h h' ?_ k
  obtain ⟨a, b, cc⟩ := F.other (aL (by omega)) k
  exact ⟨a, b, cc (aN (by omega)) F.steps, cc (aN (by omega)) F.pieces, hc, cc (aN (by omega)) F.order⟩
theorem stOrder {Q : Unit → Shared → Prop} (F : LSt s₀ m c1 c2 c3 c4 s)
    (h : ∀ h', LSt s₀ m c1 c2 c3 (some v) { s with heap := h' } → (∀ b o, b ≠ s₀.heap.objs.size + 1 + 1 + 1 + 1 → s.heap.get? b = some o → h'.get? b = some o) → Q () { s with heap := h' }) :
    wpAny M A (storeName (envL pm cd doc s₀.heap.objs.size f) "order" v) Q E s := by
  refine stCellG (by rfl) (by rfl) F.order fun h' hc k => h h' ?_ k
  obtain ⟨a, b, cc⟩ := F.other (aL (by omega)) k
  exact ⟨a, b, cc (aN (by omega)) F.steps, cc (aN (by omega)) F.pieces, cc (aN (by omega)) F.lists, hc⟩
end

/-! lists cut -/
theorem pick_take (items : Array Value) (b : Nat) : slicePick items none (some (b : Int)) none = (items.toList.take b).toArray := by
  by_cases h : b ≤ items.size
  · exact slicePick_upto items b h
  · have e : sliceBounds none (some (b : Int)) none items.size = sliceBounds none none none items.size := by
      simp only [sliceBounds, Option.getD_none]
      have h1 : ¬ ((b : Int) < 0) := by omega
      simp only [h1, if_false, show (1 : Int) > 0 by decide, if_true]
      congr 1
      congr 1; omega
    have : slicePick items none (some (b : Int)) none = slicePick items none none none := by unfold slicePick; rw [e]
    rw [this, slicePick_all, List.take_of_length_le (by simp; omega)]
theorem pick_drop (items : Array Value) (a : Nat) : slicePick items (some (a : Int)) none none = (items.toList.drop a).toArray := by
  by_cases h : a ≤ items.size
  · exact slicePick_from items a h
  · have e : sliceBounds (some (a : Int)) none none items.size = sliceBounds (some (items.size : Int)) none none items.size := by
      simp only [sliceBounds, Option.getD_none]
      have h1 : ¬ ((a : Int) < 0) := by omega
      have h2 : ¬ ((items.size : Int) < 0) := by omega
      simp only [h1, h2, if_false, show (1 : Int) > 0 by decide, if_true]
      congr 1; omega
    have : slicePick items (some (a : Int)) none none = slicePick items (some (items.size : Int)) none none := by unfold slicePick; rw [e]
    rw [this, slicePick_from items items.size (Nat.le_refl _), List.drop_of_length_le (by simp), List.drop_of_length_le (by simp; omega)]
end Mine
/-! Law2 -/
namespace Mine
open PySem PySem.W PySem.Spec PySem.Calls PyProof.Rows

def numsOf4 (l : List Int) : List Int := l.take 4 ++ ([1, 0, 3, 5] : List Int).drop l.length
theorem numsOf4_len (l : List Int) : (numsOf4 l).length = 4 := by
  unfold numsOf4
  simp only [List.length_append, List.length_take, List.length_drop, List.length_cons, List.length_nil]
  omega

theorem spliced_ints {M : Model} {A : Around} {E : Value → Shared → Prop} {env : Env} {pos : Pos} : ∀ (ks : List (Int × Nat × Pos)) (s : Shared) (Q : List Value → Shared → Prop),
    (∀ l tk, l.map (·.1) = ks.map (·.1) → Q (intVs l) { s with toks := tk }) → wpAny M A (spliced (backTo pos (starEach (ks.map fun k => .Constant (.int k.1) k.2.1 k.2.2) env))) Q E s
  | [], s, Q, h => spliced_none (h [] s.toks rfl)
  | k :: r, s, Q, h => spliced_more (wpAny_Constant_int (spliced_ints r _ _ fun l tk hl => h ((k.1, s.toks) :: l) tk (by rw [List.map_cons, hl, List.map_cons])))

section
variable {w : World} {A : Around} {E : Value → Shared → Prop} {s₀ s : Shared} {m : Str → Option Value} {c1 c2 c3 c4 : Option Value} {pm cd doc : Value} {f a : Addr} {mean : ExcName → Option Value} {mg mb : Str → Option Value}
variable {l : List (Int × Tok)} {Q : Flow → Shared → Prop}

theorem intVs_len (l : List (Int × Tok)) : (intVs l).length = l.length := by simp [intVs]

def st0 : { d : Stmt // rLaw.1.body[0]? = some d } := ⟨_, rfl⟩

set_option maxHeartbeats 1000000 in
theorem law_numbers (T : Top q loose mean mg mb s₀.heap) (F : LSt s₀ m c1 c2 c3 c4 s) (hm : m "script" = some (.ref a)) (hl : s₀.heap.IsList a (intVs l).toArray) (hz : l.length ≤ 63)
    (hQ : ∀ h' tk N l', LSt s₀ (fun y => if y = "numbers" then some (.ref N) else m y) c1 c2 c3 c4 { s with heap := h', toks := tk } → Off s₀ N → h'.IsList N (intVs l').toArray → l'.map (·.1) = numsOf4 (l.map (·.1)) →
      Q .next { s with heap := h', toks := tk }) :
    wpAny (model pw w) A (exec st0.1 (envL pm cd doc s₀.heap.objs.size f)) Q E s := by
  dsimp only [st0]
  have hz' : (intVs l).toArray.size ≤ sizeLine := by
    have : (intVs l).toArray.size = l.length := by simp [intVs]
    rw [this]; exact Nat.le_trans hz (by decide)
  have hsl : (intVs l).toArray.size = l.length := by simp [intVs]
  refine wpAny_Assign_Name (wpAny_BinOp ?_)
  refine wpAny_Subscript_list_slice (ldLw F hm (evalPart_none_step (evalPart_some_step (wpAny_Constant_int ⟨a, (intVs l).toArray, none, some 4, rfl, hl.at fun o y => F.kp.keep _ _ y, hz', .none, .int _ _, ?_⟩))))
  generalize hh₁ : (s.heap.push { cls := .type "slice", data := .fields #[.none, .int 4 s.toks, .none] }).push { cls := .type "list", data := .seq (slicePick (intVs l).toArray none (some 4) none) } = h₁
  have k₁ : ∀ b o, s.heap.get? b = some o → h₁.get? b = some o := fun b o y => hh₁ ▸ Heap.get?_push_of_some _ (Heap.get?_push_of_some _ y)
  have e₁ : IsL h₁ (s.heap.objs.size + 1) (slicePick (intVs l).toArray none (some 4) none) 0 := by
    have := Heap.get?_push_size (s.heap.push { cls := .type "slice", data := .fields #[.none, .int 4 s.toks, .none] }) (o := { cls := .type "list", data := .seq (slicePick (intVs l).toArray none (some 4) none) }) rfl
    rw [Heap.size_push] at this
    exact hh₁ ▸ this
  have F₁ := fun tk => F.tk (tk := tk) k₁
  show wpAny _ _ _ _ _ { s with heap := h₁, toks := s.toks + 1 }
  refine Subscript_ (wpAny_List (spliced_ints [(1, _, _), (0, _, _), (3, _, _), (5, _, _)] _ _ fun lc tkc hlc => ?_))
  have hlcl : lc.length = 4 := by have := congrArg List.length hlc; simpa using this
  refine ⟨by rw [intVs_len, hlcl]; decide, ?_⟩
  generalize hh₂ : h₁.push { cls := .type "list", data := .seq (intVs lc).toArray } = h₂
  have k₂ : ∀ b o, h₁.get? b = some o → h₂.get? b = some o := fun b o y => hh₂ ▸ Heap.get?_push_of_some _ y
  have e₂ : IsL h₂ h₁.objs.size _ 0 := hh₂ ▸ Heap.get?_push_size h₁ rfl
  have F₂ := fun tk => F.tk (tk := tk) fun b o y => k₂ _ _ (k₁ b o y)
  have T₂ : Top q loose mean mg mb h₂ := T.keeps fun b o y => k₂ _ _ (k₁ _ _ (F.kp.keep _ _ y))
  show wpAny _ _ _ _ _ { s with heap := h₂, toks := _ }
  refine wpAny_Slice (evalPart_some_step ?_)
  refine Call_ (ldBuil (s := { s with heap := h₂, toks := _ }) T₂ (v := .builtin "len") (by rfl) ?_)
  refine callWith_builtin1 (spliced_more (ldLw (F₂ _) hm (spliced_none ?_)))
  refine call_len_list (s := { s with heap := h₂, toks := _ }) (hl.at fun o y => k₂ _ _ (k₁ _ _ (F.kp.keep _ _ y))) (by rw [hsl]; omega) ?_
  refine evalPart_none_step (evalPart_none_step ?_)
  rw [hsl]
  refine tail_any (Heap.IsList.typeIs ⟨_, Heap.get?_push_of_some _ e₂, rfl, 0, rfl⟩) slot_list_getitem.lookup (wpAny_getItem_list_slice (lo := some (l.length : Int)) (hi := none) (st := none) ⟨_, Heap.get?_push_of_some _ e₂, rfl, 0, rfl⟩ (Heap.IsSliceOf.new ..) (.int _ _) .none .none (by simp) ?_ (by rw [List.size_toArray, intVs_len, hlcl]; decide)) (by with_unfolding_all rfl)
  generalize hh₃ : h₂.push { cls := .type "slice", data := .fields #[.int (l.length : Int) _, .none, .none] } = h₃
  have k₃ : ∀ b o, h₂.get? b = some o → h₃.get? b = some o := fun b o y => hh₃ ▸ Heap.get?_push_of_some _ y
  have up₃ : ∀ x b o, h₃.get? b = some o → (h₃.push x).get? b = some o := fun x b o y => Heap.get?_push_of_some _ y
  have e₃ : ∀ xs, IsL (h₃.push { cls := .type "list", data := .seq xs }) h₃.objs.size xs 0 := fun xs => Heap.get?_push_size h₃ rfl
  rw [pick_drop]
  have e₁' := e₁
  rw [show (some 4 : Option Int) = some ((4 : Nat) : Int) from rfl, pick_take] at e₁'
  show wpAny _ _ (binaryOp .Add (.ref (s.heap.objs.size + 1)) (.ref h₃.objs.size)) _ _ _
  refine P.add_list (up₃ _ _ _ (k₃ _ _ (k₂ _ _ e₁'))) (e₃ _) ?_ ?_
  · have kk : ∀ x y b o, s.heap.get? b = some o → ((h₃.push x).push y).get? b = some o := fun x y b o z => Heap.get?_push_of_some _ (up₃ x _ _ (k₃ _ _ (k₂ _ _ (k₁ _ _ z))))
    have hlow := F.low
    have hlt : s₀.heap.objs.size + 4 < h₃.objs.size := by
      have : s.heap.objs.size + 1 < h₃.objs.size := Heap.lt_size (k₃ _ _ (k₂ _ _ e₁'))
      omega
    refine stLw (s := { s with heap := _, toks := _ }) (F.tk (kk _ _)) fun h' F' k' => ?_
    have hN : ∀ x, s₀.heap.objs.size + 4 < (h₃.push x).objs.size := fun x => by rw [Heap.size_push]; omega
    refine hQ h' _ _ (l.take 4 ++ lc.drop l.length) F' (Off.of_lt (hN _)) (Heap.IsList.at ⟨_, Heap.get?_push_size _ rfl, rfl, 0, ?_⟩ fun o y => k' _ o (Nat.ne_of_gt (Nat.lt_of_le_of_lt (Nat.le_add_right _ 4) (hN _))) y) ?_
    · simp [intVs]
    · rw [List.map_append, List.map_take, List.map_drop, hlc]
      simp [numsOf4]
  · show (((intVs l).toArray.toList.take 4).toArray).size + ((intVs lc).toArray.toList.drop l.length).toArray.size ≤ sizeLine
    have h1 : ((intVs l).toArray.toList.take 4).toArray.size ≤ 4 := by simp; omega
    have h2 : ((intVs lc).toArray.toList.drop l.length).toArray.size ≤ 4 := by simp [intVs_len, hlcl]
    exact Nat.le_trans (Nat.add_le_add h1 h2) (by decide)
end
end Mine
/-! Law3 -/
namespace Mine
open PySem PySem.W PySem.Spec PySem.Calls PyProof.Rows

def stepOf (a : Int) : Int :=
  let r := a.fmod 7
  if r = 0 then 1 else if r = 1 then 1 else if r = 2 then 1 else if r = 3 then 0 else if r = 4 then 0 else if r = 5 then -1 else -2

theorem paired_map {α β : Type} {F : α → β → Prop} {g : α → β → Prop} (h : ∀ a b, F a b → g a b) : ∀ {l₁ : List α} {l₂ : List β}, Paired F l₁ l₂ → Paired g l₁ l₂
  | _, _, .nil => .nil
  | _, _, .cons x r => .cons (h _ _ x) (paired_map h r)

/-- a list of values that are ints, and what was made of them -/
theorem ints_of_paired {G : Int → Int} : ∀ (l : List (Int × Tok)) (ys : List Value), Paired (fun v y => ∃ a t t', v = Value.int a t ∧ y = .int (G a) t') (intVs l) ys → ∃ l', ys = intVs l' ∧ l'.map (·.1) = (l.map (·.1)).map G
  | [], ys, h => by cases h; exact ⟨[], rfl, rfl⟩
  | (a, t) :: r, ys, h => by
    cases h with
    | cons x h =>
      obtain ⟨l', rfl, e⟩ := ints_of_paired r _ h
      obtain ⟨a', t₁, t', e1, rfl⟩ := x
      cases e1
      exact ⟨(G a, t') :: l', rfl, by rw [List.map_cons, e]; rfl⟩
theorem strs_of_paired {G : Int → Str} : ∀ (l : List (Int × Tok)) (ys : List Value), Paired (fun v y => ∃ a t t', v = Value.int a t ∧ y = .str (G a) t') (intVs l) ys → ∃ l', ys = strValues l' ∧ l'.map (·.1) = (l.map (·.1)).map G
  | [], ys, h => by cases h; exact ⟨[], rfl, rfl⟩
  | (a, t) :: r, ys, h => by
    cases h with
    | cons x h =>
      obtain ⟨l', rfl, e⟩ := strs_of_paired r _ h
      obtain ⟨a', t₁, t', e1, rfl⟩ := x
      cases e1
      exact ⟨(G a, t') :: l', rfl, by rw [List.map_cons, e]; rfl⟩
theorem list_of_nth {vs : List Value} {items : Array Value} (hl : vs.length = items.size) (h : ∀ (j : Nat) (v : Value), vs[j]? = some v → items[j]? = some v) : vs = items.toList := by
  apply List.ext_getElem?
  intro j
  cases hv : vs[j]? with
  | some v => rw [Array.getElem?_toList, h j v hv]
  | none =>
    have : vs.length ≤ j := by simpa using hv
    rw [Array.getElem?_toList, Array.getElem?_eq_none (by omega)]

section
variable {w : World} {A : Around} {E : Value → Shared → Prop} {s₀ s : Shared} {m : Str → Option Value} {c1 c2 c3 c4 : Option Value} {pm cd doc : Value} {f N : Addr} {mean : ExcName → Option Value} {mg mb : Str → Option Value}
variable {l : List (Int × Tok)} {Q : Flow → Shared → Prop}

theorem spliced_steps {A : Around} {E : Value → Shared → Prop} {env : Env} {pos : Pos} {prog : Program} {w : World} {k1 k2 k3 k4 k5 k6 k7 : Nat} {p1 p2 p3 p4 p5 p6 p7 q6 q7 : Pos} {s : Shared} {Q : List Value → Shared → Prop}
    (h : ∀ l tk, l.map (·.1) = [1, 1, 1, 0, 0, -1, -2] → Q (intVs l) { s with toks := tk }) :
    wpAny (model prog w) A (spliced (backTo pos (starEach [.Constant (.int 1) k1 p1, .Constant (.int 1) k2 p2, .Constant (.int 1) k3 p3, .Constant (.int 0) k4 p4, .Constant (.int 0) k5 p5, .UnaryOp .USub (.Constant (.int 1) k6 p6) q6, .UnaryOp .USub (.Constant (.int 2) k7 p7) q7] env))) Q E s := by
  refine spliced_more (wpAny_Constant_int (spliced_more (wpAny_Constant_int (spliced_more (wpAny_Constant_int (spliced_more (wpAny_Constant_int (spliced_more (wpAny_Constant_int ?_)))))))))
  refine spliced_more (wpAny_UnaryOp (wpAny_Constant_int (neg_int (spliced_more (wpAny_UnaryOp (wpAny_Constant_int (neg_int (spliced_none ?_))))))))
  exact h [(1, _), (1, _), (1, _), (0, _), (0, _), (-1, _), (-2, _)] _ rfl

def st1 : { d : Stmt // rLaw.1.body[1]? = some d } := ⟨_, rfl⟩

theorem Keeps.refl (s : Shared) : Keeps s s := ⟨s.heap, s.toks, rfl, fun _ _ y => y⟩

set_option maxHeartbeats 1000000 in
theorem law_steps (hh : A.handled = none) (F : LSt s₀ m c1 c2 c3 c4 s) (hm : m "numbers" = some (.ref N)) (hl : s.heap.IsList N (intVs l).toArray) (hz : l.length = 4)
    (hQ : ∀ h' tk S l', LSt s₀ m (some (.ref S)) c2 c3 c4 { s with heap := h', toks := tk } → Off s₀ S → (∀ b o, b ≠ s₀.heap.objs.size + 1 → s.heap.get? b = some o → h'.get? b = some o) →
      h'.IsList S (intVs l').toArray → l'.map (·.1) = (l.map (·.1)).map stepOf → Q .next { s with heap := h', toks := tk }) :
    wpAny (model pw w) A (exec st1.1 (envL pm cd doc s₀.heap.objs.size f)) Q E s := by
  dsimp only [st1]
  have hsl : (intVs l).toArray.size = 4 := by simp [intVs, hz]
  have hNlt : N < s.heap.objs.size := let ⟨_, ho, _⟩ := hl; Heap.lt_size ho
  refine wpAny_Assign_Name (wpAny_ListComp_free (fun _ => true) (fun v y => ∃ a t t', v = Value.int a t ∧ y = .int (stepOf a) t') (cl := []) (closureFor_none (by decide)) (by decide) rfl (by decide) (by rfl) (ldLw F hm (wpAny_pyIter_list hl ?_)))
  have up : ∀ b o, s.heap.get? b = some o → (s.heap.push { cls := .type "list_iterator", data := .fields #[.ref N, .int 0 0] }).get? b = some o := fun b o y => Heap.get?_push_of_some _ y
  refine ⟨s.heap.objs.size, _, _, _, _, _, rfl, Walks.list hh _ N (Nat.ne_of_lt hNlt) (intVs l).toArray, by rw [hsl]; decide, ⟨⟨_, Heap.get?_push_size _ rfl, rfl, rfl⟩, hl.push _⟩, ?_, ⟨?_, ?_⟩, ?_⟩
  · intro b hb
    show b < (s.heap.push _).objs.size
    rw [Heap.size_push]
    rcases List.mem_cons.mp hb with rfl | hb
    · exact Nat.lt_succ_self _
    · rw [List.mem_singleton.mp hb]; exact Nat.lt_succ_of_lt hNlt
  · intro C i v s₃ m₃ E' _ _ _ _ _ _
    exact wpAny_pure ⟨rfl, Keeps.refl _⟩
  · intro C i v s₃ m₃ E' hC hv _ hn hm₃ hk _
    obtain ⟨a, t, rfl⟩ : ∃ a t, v = .int a t := by
      have : v ∈ intVs l := by
        have := Array.mem_of_getElem? hv
        simpa using this
      obtain ⟨p, _, rfl⟩ := List.mem_map.mp this
      exact ⟨_, _, rfl⟩
    refine Subscript_ (wpAny_List (spliced_steps fun lc tkc hlc => ?_))
    have hlcl : lc.length = 7 := by have := congrArg List.length hlc; simpa using this
    refine ⟨by rw [intVs_len, hlcl]; decide, ?_⟩
    have n₄ := hn.push { cls := .type "list", data := .seq (intVs lc).toArray }
    have e₄ : IsL (s₃.heap.push { cls := .type "list", data := .seq (intVs lc).toArray }) s₃.heap.objs.size (intVs lc).toArray 0 := Heap.get?_push_size _ rfl
    refine wpAny_BinOp (wpAny_Name (wpAny_loadName_local rfl (by rfl) n₄ (v := .int a t) hm₃ (wpAny_Constant_int (mod_int (by decide) ?_))))
    have hr := fmod_cases7 a
    have hx : ∃ t', (intVs lc).toArray[(a.fmod 7).toNat]? = some (.int (stepOf a) t') := by
      have h1 : (lc.map (·.1))[(a.fmod 7).toNat]? = some (stepOf a) := by
        rw [hlc]
        unfold stepOf
        have : a.fmod 7 = 0 ∨ a.fmod 7 = 1 ∨ a.fmod 7 = 2 ∨ a.fmod 7 = 3 ∨ a.fmod 7 = 4 ∨ a.fmod 7 = 5 ∨ a.fmod 7 = 6 := by omega
        rcases this with e | e | e | e | e | e | e <;> rw [e] <;> rfl
      rw [List.getElem?_map, Option.map_eq_some_iff] at h1
      obtain ⟨p, hp, hp1⟩ := h1
      exact ⟨p.2, by simp [intVs, hp, hp1]⟩
    obtain ⟨t', hx⟩ := hx
    refine tail_any (Heap.IsList.typeIs ⟨_, e₄, rfl, 0, rfl⟩) slot_list_getitem.lookup (wpAny_getItem_list ⟨_, e₄, rfl, 0, rfl⟩ hr.1 (by omega) hx ?_) (by with_unfolding_all rfl)
    exact ⟨⟨a, t, t', rfl, rfl⟩, _, _, rfl, fun b o y => Heap.get?_push_of_some _ y⟩
  · intro D h' tk ys vs hD hDl hDp hlen hP hF hk
    have hvs : vs = intVs l := by simpa using list_of_nth hlen hP
    subst hvs
    rw [List.filter_eq_self.mpr (fun _ _ => rfl)] at hF
    obtain ⟨l', hys, hl'⟩ := ints_of_paired l _ hF
    have hys' : ys = (intVs l').toArray := by rw [← hys]
    subst hys'
    have k' : ∀ b o, s.heap.get? b = some o → h'.get? b = some o := fun b o y => hk b o (by simp only [List.mem_singleton]; exact Nat.ne_of_lt (Heap.lt_size y)) (up b o y)
    have hoff : Off s₀ D := (F.tk (tk := s.toks) up).off hD
    refine stSteps (s := { s with heap := h', toks := tk }) (F.tk k') fun h'' F' k'' => ?_
    refine hQ h'' tk D l' F' hoff (fun b o hb y => k'' b o hb (k' b o y)) (hDl.at fun o y => k'' _ o hoff.c1 y) hl'
end
end Mine
/-! Law4 -/
namespace Mine
open PySem PySem.W PySem.Spec PySem.Calls PyProof.Rows

/-- a sign that stays -/
def stays (c : Nat) : Bool := !isB1 (c : Int)

def keptV : Value → Bool
  | .str y _ => match y.cps[0]? with
    | some c => stays c
    | none => true
  | _ => true

def pieceF (a : Int) : Str := Txt.join sE (((pieceRaw a).cps.toList.filter stays).map fun c => ⟨#[c]⟩)

/-- the signs that were kept, as values -/
theorem kept_signs : ∀ (cs : List Nat) (vs ys : List Value), (∀ (j : Nat) (v : Value), vs[j]? = some v → ∃ c u, cs[j]? = some c ∧ v = .str ⟨#[c]⟩ u) → vs.length = cs.length → Paired (fun v y => y = v) (vs.filter keptV) ys →
    ∃ l, ys = strValues l ∧ l.map (·.1) = (cs.filter stays).map fun c => (⟨#[c]⟩ : Str)
  | [], [], ys, _, _, h => by
    cases h; exact ⟨[], rfl, rfl⟩
  | c :: cs, v :: vs, ys, hv, hl, h => by
    obtain ⟨c', u, e1, rfl⟩ := hv 0 v rfl
    simp only [List.getElem?_cons_zero, Option.some.injEq] at e1
    subst e1
    have hv' : ∀ (j : Nat) (v : Value), vs[j]? = some v → ∃ c u, cs[j]? = some c ∧ v = .str ⟨#[c]⟩ u := fun j v e => by
      have := hv (j + 1) v (by simpa using e)
      simpa using this
    have hl' : vs.length = cs.length := by simpa using hl
    have hk : keptV (.str ⟨#[c]⟩ u) = stays c := rfl
    cases hb : stays c with
    | false =>
      rw [List.filter_cons_of_neg (by rw [hk, hb]; decide)] at h
      obtain ⟨l, h1, h2⟩ := kept_signs cs vs ys hv' hl' h
      exact ⟨l, h1, by rw [List.filter_cons_of_neg (by rw [hb]; decide), h2]⟩
    | true =>
      rw [List.filter_cons_of_pos (by rw [hk, hb])] at h
      cases h with
      | cons e r =>
        subst e
        obtain ⟨l, h1, h2⟩ := kept_signs cs vs _ hv' hl' r
        exact ⟨(⟨#[c]⟩, u) :: l, by rw [h1]; rfl, by rw [List.filter_cons_of_pos (by rw [hb]), List.map_cons, List.map_cons, h2]⟩
  | [], v :: vs, _, _, hl, _ => by simp at hl
  | c :: cs, [], _, _, hl, _ => by simp at hl

theorem walksStr {prog : Program} {w : World} {A : Around} (hh : A.handled = none) (I : Addr) (x : Str) (t : Tok) :
    Walks prog w A I [I] [I] x.cps.size (SignAt x) (fun i h => h.IsStrIter I (strIterType x) x t i) := by
  unfold strIterType
  by_cases h : x.cps.all (· < 128) = true
  · rw [if_pos h]; exact Walks.strAscii hh I x t
  · rw [if_neg h]; exact Walks.strWide hh I x t

theorem pieceRaw_len (a : Int) : (pieceRaw a).length ≤ 10 := by
  have hm : ∀ n : Int, (sMk n).length = 1 := by intro n; unfold sMk; split; exact rfl; split <;> rfl
  have hh : (sHid a).length = 2 := by unfold sHid; rw [PySem.Str.length_append, hm]; rfl
  unfold pieceRaw
  have e1 : (Str.ofString "(").length = 1 := rfl
  have e2 : (Str.ofString ")(").length = 2 := rfl
  have e3 : (Str.ofString ")").length = 1 := rfl
  have e4 : (Str.ofString "()").length = 2 := rfl
  simp only []
  split
  · show 3 ≤ 10; decide
  split
  · rw [PySem.Str.length_append, hh, e2]; decide
  split
  · rw [PySem.Str.length_append, PySem.Str.length_append, hh, e1]; decide
  split
  · rw [PySem.Str.length_append, hh, e1]; decide
  split
  · show 3 ≤ 10; decide
  split
  · rw [PySem.Str.length_append, PySem.Str.length_append, hh, e3]; decide
  · rw [PySem.Str.length_append, PySem.Str.length_append, hh, e3, e4]; decide

section
variable {w : World} {A : Around} {E : Value → Shared → Prop} {s₀ s : Shared} {m : Str → Option Value} {c1 c2 c3 c4 : Option Value} {pm cd doc : Value} {f N : Addr} {mean : ExcName → Option Value} {mg mb : Str → Option Value}
variable {l : List (Int × Tok)} {Q : Flow → Shared → Prop}

def st2 : { d : Stmt // rLaw.1.body[2]? = some d } := ⟨_, rfl⟩

set_option maxHeartbeats 2000000 in
theorem law_pieces (hh : A.handled = none) (hd : A.depth < recursionLimit) (T : Top q loose mean mg mb s₀.heap) (HB : B1 w mg s₀.heap) (F : LSt s₀ m c1 c2 c3 c4 s) (hm : m "numbers" = some (.ref N)) (hl : s.heap.IsList N (intVs l).toArray) (hz : l.length = 4)
    (hQ : ∀ h' tk S l', LSt s₀ m c1 (some (.ref S)) c3 c4 { s with heap := h', toks := tk } → Off s₀ S → (∀ b o, b ≠ s₀.heap.objs.size + 1 + 1 → s.heap.get? b = some o → h'.get? b = some o) →
      h'.IsList S (strValues l').toArray → l'.map (·.1) = (l.map (·.1)).map pieceF → Q .next { s with heap := h', toks := tk }) :
    wpAny (model pw w) A (exec st2.1 (envL pm cd doc s₀.heap.objs.size f)) Q E s := by
  dsimp only [st2]
  have hsl : (intVs l).toArray.size = 4 := by simp [intVs, hz]
  have hNlt : N < s.heap.objs.size := let ⟨_, ho, _⟩ := hl; Heap.lt_size ho
  refine wpAny_Assign_Name (wpAny_ListComp_free (fun _ => true) (fun v y => ∃ a t t', v = Value.int a t ∧ y = .str (pieceF a) t') (cl := []) (closureFor_none (by decide)) (by decide) rfl (by decide) (by rfl) (ldLw F hm (wpAny_pyIter_list hl ?_)))
  have up : ∀ b o, s.heap.get? b = some o → (s.heap.push { cls := .type "list_iterator", data := .fields #[.ref N, .int 0 0] }).get? b = some o := fun b o y => Heap.get?_push_of_some _ y
  refine ⟨s.heap.objs.size, _, _, _, _, _, rfl, Walks.list hh _ N (Nat.ne_of_lt hNlt) (intVs l).toArray, by rw [hsl]; decide, ⟨⟨_, Heap.get?_push_size _ rfl, rfl, rfl⟩, hl.push _⟩, ?_, ⟨?_, ?_⟩, ?_⟩
  · intro b hb
    show b < (s.heap.push _).objs.size
    rw [Heap.size_push]
    rcases List.mem_cons.mp hb with rfl | hb
    · exact Nat.lt_succ_self _
    · rw [List.mem_singleton.mp hb]; exact Nat.lt_succ_of_lt hNlt
  · intro C i v s₃ m₃ E' _ _ _ _ _ _
    exact wpAny_pure ⟨rfl, Keeps.refl _⟩
  · intro C i v s₃ m₃ E' hC hv _ hn hm₃ hk _
    obtain ⟨a, t, rfl⟩ : ∃ a t, v = .int a t := by
      have : v ∈ intVs l := by
        have := Array.mem_of_getElem? hv
        simpa using this
      obtain ⟨p, _, rfl⟩ := List.mem_map.mp this
      exact ⟨_, _, rfl⟩
    have kk : ∀ b o, s₀.heap.get? b = some o → s₃.heap.get? b = some o := fun b o y => hk b o (by simp only [List.mem_singleton]; exact Nat.ne_of_lt (Heap.lt_size (F.kp.keep _ _ y))) (up _ _ (F.kp.keep _ _ y))
    have T₃ := T.keeps kk
    obtain ⟨fp, op, pmp, cdp, docp, hfp, hop, hdp, hcp⟩ := T.fn rPiece.1 (List.mem_of_getElem? rPiece.2)
    obtain ⟨ft, ot, pmt, cdt, doct, hft, hot, hdt, hct⟩ := T.fn rTab.1 (List.mem_of_getElem? rTab.2)
    refine MethodCall_ (Constant_str (GM.join ?_))
    refine callWith_method1 (spliced_more ?_)
    refine wpAny_ListComp_free keptV (fun v y => y = v) (cl := []) (closureFor_none (by decide)) (by decide) rfl (by decide) (by rfl) ?_
    refine Call_ (Name_function_global rfl (by rfl) (loadGlobal_global (mg := mg) T₃.g hfp ?_))
    refine callWith_meth (h₀ := s₀.heap) (first := []) hdp hop (spliced_more (wpAny_Name (wpAny_loadName_local rfl (by rfl) hn hm₃ (spliced_none ⟨kk, ?_⟩))))
    refine wpAny_call (piece_call (s := { s₃ with toks := s₃.toks + 1 }) hd T₃ (kk _ _ hop) hdp (hcp.keeps kk) fun s₄ t₄ k₄ => ?_)
    obtain ⟨h₄, tk₄, rfl, kk₄⟩ := k₄
    refine wpAny_pyIter_strU ?_
    have up₄ : ∀ b o, h₄.get? b = some o → (h₄.push { cls := .type (strIterType (pieceRaw a)), data := .fields #[.str (pieceRaw a) t₄, .int 0 0] }).get? b = some o := fun b o y => Heap.get?_push_of_some _ y
    have hsz : (pieceRaw a).cps.size ≤ 10 := pieceRaw_len a
    refine ⟨h₄.objs.size, _, _, _, _, _, rfl, walksStr hh _ (pieceRaw a) t₄, Nat.le_trans hsz (by decide), ⟨_, Heap.get?_push_size _ rfl, rfl, rfl⟩, ?_, ⟨?_, ?_⟩, ?_⟩
    · intro b hb
      show b < (h₄.push _).objs.size
      rw [Heap.size_push, List.mem_singleton.mp hb]
      exact Nat.lt_succ_self _
    · intro C' j v s₅ m₅ E'' _ hv' hn' hm' hk' _
      obtain ⟨c, u, hc, rfl⟩ := hv'
      have kk₅ : ∀ b o, s₀.heap.get? b = some o → s₅.heap.get? b = some o := fun b o y => hk' b o (by simp only [List.mem_singleton]; exact Nat.ne_of_lt (Heap.lt_size (kk₄ _ _ (kk _ _ y)))) (up₄ _ _ (kk₄ _ _ (kk _ _ y)))
      have T₅ := T.keeps kk₅
      rw [List.forIn_cons]
      refine wpAny_bind ?_
      rw [if_pos rfl]
      refine wpAny_bind (wpAny_isTrue_Not (isTrue_plain ?_))
      refine Call_ (Name_function_global rfl (by rfl) (loadGlobal_global (mg := mg) T₅.g hft ?_))
      refine callWith_meth (h₀ := s₀.heap) (first := []) hdt hot (spliced_more (wpAny_Name (wpAny_loadName_local rfl (by rfl) hn' hm' (spliced_none ⟨kk₅, ?_⟩))))
      refine wpAny_call (tab_call (c := c) hd T₅ (HB.keeps kk₅) (kk₅ _ _ hot) hdt (hct.keeps kk₅) fun s₆ k₆ => ?_)
      refine wpAny_truthy_bool (wpAny_pure ?_)
      show wpAny _ _ (pure (!isB1 c)) _ _ _
      exact wpAny_pure ⟨rfl, k₆⟩
    · intro C' j v s₅ m₅ E'' _ hv' _ hn' hm' hk' _
      exact wpAny_Name (wpAny_loadName_local rfl (by rfl) hn' hm' ⟨rfl, Keeps.refl _⟩)
    · intro D h' tk ys vs hD hDl hDp hlen hP hF hk'
      obtain ⟨lk, hys, hlk⟩ := kept_signs (pieceRaw a).cps.toList vs ys.toList (fun j v e => by
        obtain ⟨c, u, e1, e2⟩ := hP j v e
        exact ⟨c, u, by rw [Array.getElem?_toList]; exact e1, e2⟩) (by rw [hlen]; simp) hF
      have hys' : ys = (strValues lk).toArray := by rw [← hys]
      subst hys'
      refine spliced_none ?_
      refine SC.join hDl hlk ?_ fun t' k => ?_
      · unfold JoinOk
        rw [Bool.not_eq_true']
        refine StrLaws.joinFits (B := 1) (fun y hy => ?_) ?_
        · obtain ⟨c, _, rfl⟩ := List.mem_map.mp hy
          exact Nat.le_refl _
        · have e0 : (Str.ofString "").length = 0 := rfl
          have h1 : (((pieceRaw a).cps.toList.filter stays).map fun c => (⟨#[c]⟩ : Str)).length ≤ 10 := by
            rw [List.length_map]
            exact Nat.le_trans (List.length_filter_le _ _) (by simpa using hsz)
          rw [e0]; omega
      · refine ⟨⟨a, t, t', rfl, rfl⟩, h', _, rfl, fun b o y => hk' b o (by simp only [List.mem_singleton]; exact Nat.ne_of_lt (Heap.lt_size (kk₄ _ _ y))) (up₄ _ _ (kk₄ _ _ y))⟩
  · intro D h' tk ys vs hD hDl hDp hlen hP hF hk
    have hvs : vs = intVs l := by simpa using list_of_nth hlen hP
    subst hvs
    rw [List.filter_eq_self.mpr (fun _ _ => rfl)] at hF
    obtain ⟨l', hys, hl'⟩ := strs_of_paired l _ hF
    have hys' : ys = (strValues l').toArray := by rw [← hys]
    subst hys'
    have k' : ∀ b o, s.heap.get? b = some o → h'.get? b = some o := fun b o y => hk b o (by simp only [List.mem_singleton]; exact Nat.ne_of_lt (Heap.lt_size y)) (up b o y)
    have hoff : Off s₀ D := (F.tk (tk := s.toks) up).off hD
    refine stPieces (s := { s with heap := h', toks := tk }) (F.tk k') fun h'' F' k'' => ?_
    refine hQ h'' tk D l' F' hoff (fun b o hb y => k'' b o hb (k' b o y)) (hDl.at fun o y => k'' _ o hoff.c2 y) hl'
end
end Mine
/-! Law5 -/
namespace Mine
open PySem PySem.W PySem.Spec PySem.Calls PyProof.Rows

def lcOf : Stmt → Option (Expr × List Comprehension × Scope × Pos)
  | .Assign _ (.ListComp e g s p) _ => some (e, g, s, p)
  | _ => none
def lcE : Expr → Option (Expr × Expr × Expr × Scope × Pos)
  | .ListComp e [⟨t, i, _, _⟩] s p => some (e, t, i, s, p)
  | _ => none

theorem compLoopT {prog : Program} {w : World} {A : Around} {R : Result → Shared → Prop} {s : Shared} {elt target iter : Expr} {scope : Scope} {pos : Pos} {it acc : Value} {env : Env} (I : Nat → Shared → Prop)
    (turn : ∀ n s, I n s → wpAny (model prog w) A (pyNext it) (fun r s₁ => match r with
      | none => R (.ok .next) s₁
      | some v => wpAny (model prog w) A (letOwnedTupleGo target it v) (fun _ s₂ => wpAny (model prog w) A (assign target env v) (fun _ s₃ => wpAny (model prog w) A (eval elt env) (fun x s₄ =>
          wpAny (model prog w) A (call (.builtin "list.append") [acc, x]) (fun _ s₅ => ∃ m, m < n ∧ I m s₅) (notedBy (model prog w) A env fun e s' => R (.error e) s') s₄)
          (notedBy (model prog w) A env fun e s' => R (.error e) s') s₃) (notedBy (model prog w) A env fun e s' => R (.error e) s') s₂) (notedBy (model prog w) A env fun e s' => R (.error e) s') s₁) (notedBy (model prog w) A env fun e s' => R (.error e) s') s)
    (n : Nat) (h : I n s) :
    codeAny (model prog w) A (.compLoop (.ListComp elt [⟨target, iter, [], 0⟩] scope pos) 0 it acc env) R s := by
  refine codeAny_loop rfl I (fun n s hI => ?_) n h
  show wpAny _ _ ((compTurn (.ListComp elt [⟨target, iter, [], 0⟩] scope pos) 0 it acc env).onRaise (fun x => do noteFrame x env; theTreesLotGoes x)) _ _ s
  refine wpAny_noted ?_
  rw [compTurn_list1]
  refine wpAny_bind (wpAny_standAt (wpAny_bind (wpAny_mono (turn n s hI) (fun r s₁ h₁ => ?_) fun _ _ h' => h')))
  cases r with
  | none => exact wpAny_pure h₁
  | some v =>
    refine wpAny_bind (wpAny_mono h₁ (fun _ s₂ h₂ => wpAny_bind (wpAny_mono h₂ (fun _ s₃ h₃ => ?_) fun _ _ h' => h')) fun _ _ h' => h')
    exact wpAny_bind (wpAny_bind (wpAny_mono h₃ (fun x s₄ h₄ => wpAny_bind (wpAny_mono h₄ (fun _ s₅ h₅ => wpAny_pure (wpAny_pure ⟨rfl, h₅⟩)) fun _ _ h' => h')) fun _ _ h' => h'))

def signsOf (x : Str) : List Str := (escOut false 0 (strip x).cps.toList).map (·.2)

section
variable {w : World} {A : Around} {E : Value → Shared → Prop} {s₀ s : Shared} {m : Str → Option Value} {c1 c2 c3 c4 : Option Value} {pm cd doc : Value} {f N : Addr} {mean : ExcName → Option Value} {mg mb : Str → Option Value}
variable {l : List (Int × Tok)} {Q : Flow → Shared → Prop}

def st3 : { d : Stmt // rLaw.1.body[3]? = some d } := ⟨_, rfl⟩
def lc3 : { d : Expr × Expr × Expr × Scope × Pos // (lcOf st3.1).bind (fun d => lcE d.1) = some d } := ⟨_, rfl⟩

abbrev envP (pm cd doc : Value) (L f C : Addr) (scope : Scope) : Env := compEnvC scope [] C (envL pm cd doc L f)

set_option maxHeartbeats 2000000 in
theorem signs_eval {C : Addr} {x : Str} {t : Tok} {scope : Scope} (hsc : lcOf st3.1 = some (.ListComp lc3.1.1 [⟨lc3.1.2.1, lc3.1.2.2.1, [], 0⟩] lc3.1.2.2.2.1 lc3.1.2.2.2.2, (lcOf st3.1).get!.2.1, scope, (lcOf st3.1).get!.2.2.2))
    (hh : A.handled = none) (hd : A.depth + 4 < recursionLimit) (T : Top q loose mean mg mb s.heap) (hx : x.length ≤ 1000) (hx2 : (strip x).length ≤ 1000) (hn : s.heap.Ns C m) (hm : m "piece" = some (.str x t)) (L : Addr)
    {Q : Value → Shared → Prop} (hQ : ∀ D' l' s', s.heap.get? D' = none → Kp s s' → s'.heap.IsList D' (strValues l').toArray → l'.map (·.1) = signsOf x → Q (.ref D') s') :
    wpAny (model pw w) A (eval (.ListComp lc3.1.1 [⟨lc3.1.2.1, lc3.1.2.2.1, [], 0⟩] lc3.1.2.2.2.1 lc3.1.2.2.2.2) (envP pm cd doc L f C scope)) Q E s := by
  obtain rfl : _ = scope := by simpa [lcOf, st3] using congrArg (fun o => o.map (fun d => d.2.2.1)) hsc
  dsimp only [lc3]
  obtain ⟨fs, os, pms, cds, docs, hfs, hos, hds, hcs⟩ := T.fn rStrip.1 (List.mem_of_getElem? rStrip.2)
  obtain ⟨fi, oi, pmi, cdi, doci, hfi, hoi, hdi, hci⟩ := T.fn rIter.1 (List.mem_of_getElem? rIter.2)
  rw [eval_ListComp]
  refine wpAny_comprehension_free (use := none) (cl := []) rfl (by intro _; rfl) (closureFor_none (by decide)) rfl (by decide) ?_
  refine Call_ (Name_function_global rfl (by rfl) (loadGlobal_global (mg := mg) T.g hfi ?_))
  refine callWith_meth (h₀ := s.heap) (first := []) hdi hoi (spliced_more ?_)
  refine Call_ (Name_function_global rfl (by rfl) (loadGlobal_global (mg := mg) T.g hfs ?_))
  refine callWith_meth (h₀ := s.heap) (first := []) hds hos (spliced_more (wpAny_Name (wpAny_loadName_local rfl (by rfl) hn hm (spliced_none ⟨fun _ _ y => y, ?_⟩))))
  refine wpAny_call (strip_call hh (by omega) T hx hos hds hcs fun s₁ t₁ k₁ => ?_)
  refine spliced_none ⟨k₁.keep, ?_⟩
  have T₁ := T.keeps k₁.keep
  refine wpAny_call (esc_call (h₀ := s₁.heap) (by omega) T₁.nolimit (k₁.keep _ _ hoi) hdi (hci.keeps k₁.keep) (fun _ _ y => y) (Nat.le_refl _) fun h₂ tk₂ gs₂ k₂ hz₂ hgs₂ hE => ?_)
  refine wpAny_pyIter_gen (hE A).2.2.1 ?_
  have K₂ : Kp s₁ { s₁ with heap := h₂, toks := tk₂, gens := gs₂ } := by
    subst hgs₂
    exact ⟨h₂, _, _, rfl, k₂, GK.push _ rfl⟩
  -- the list and the block's names
  refine wpAny_newObj_type (wpAny_newFunctionEnv (by decide) (by intro y hy; simp at hy) (fun h₃ hn₃ hs₃ => ?_) rfl)
  dsimp only at hn₃ hs₃ ⊢
  have hzl : (h₂.push { cls := .type "list", data := .seq ([] : List Value).toArray }).objs.size = h₂.objs.size + 1 := Heap.size_push ..
  have hDC : h₂.objs.size ≠ (h₂.push { cls := .type "list", data := .seq ([] : List Value).toArray }).objs.size := by rw [hzl]; exact Nat.ne_of_lt (Nat.lt_succ_self _)
  generalize hCg : (h₂.push { cls := .type "list", data := .seq ([] : List Value).toArray }).objs.size = C' at *
  have hP₃ : PlainL h₃ h₂.objs.size (strValues []).toArray := ⟨_, _, hs₃.extBut _ _ hDC (Heap.get?_push_of_some _ (Heap.get?_push_size _ rfl)), rfl, rfl, rfl⟩
  have k₃ : ∀ b o, h₂.get? b = some o → h₃.get? b = some o := fun b o y => hs₃.extBut b o (by rw [hzl]; exact Nat.ne_of_lt (Nat.lt_succ_of_lt (Heap.lt_size y))) (Heap.get?_push_of_some _ (Heap.get?_push_of_some _ y))
  have hlen₀ : (escOut false 0 (strip x).cps.toList).length ≤ 1001 := by
    have := escOut_len (strip x).cps.toList false 0
    have e : (strip x).cps.toList.length = (strip x).length := by simp [Str.length]
    omega
  have K₃ : Kp s₁ { s₁ with heap := h₃, toks := tk₂, gens := gs₂ } := by
    subst hgs₂
    exact ⟨h₃, _, _, rfl, fun b o y => k₃ _ _ (k₂ _ _ y), GK.push _ rfl⟩
  have E₃ := (hE A.in1).frame (s' := { s₁ with heap := h₃, toks := tk₂, gens := gs₂ }) rfl (fun b _ o y => k₃ _ _ y) fun b o y => k₃ _ _ (k₂ _ _ y)
  have hz1 : s₁.heap.objs.size < h₂.objs.size := by rw [hz₂]; omega
  have hCs : s₁.heap.objs.size < C' := by rw [hzl]; exact Nat.lt_succ_of_lt hz1
  refine (fun loop => codeAny_compStart_list loop (wpAny_pyIter_gen E₃.2.2.1 loop)) ?_
  refine compLoopT (fun n s' => ∃ r own m' l, n = r.length ∧ Kp s₁ s' ∧ EscAt w A.in1 (s₁.heap.objs.size + 1) fi s₁.gens.size s₁.heap own r s' ∧ C' ∉ own ∧ h₂.objs.size ∉ own ∧ s'.heap.Ns C' m' ∧ PlainL s'.heap h₂.objs.size (strValues l).toArray ∧
      l.map (·.1) ++ r.map (·.2) = signsOf x ∧ l.length + r.length ≤ 1001) ?_ _
    ⟨_, _, _, [], rfl, K₃.step fun b o y _ => k₃ _ _ (k₂ _ _ y), E₃, by simpa using Nat.ne_of_gt hCs, by simpa using Nat.ne_of_gt hz1, hn₃, hP₃, rfl, by simpa using hlen₀⟩
  rintro n s₅ ⟨r, own, m', l, rfl, K₅, hE₅, hC₅, hD₅, n₅, hP₅, hgo, hlen⟩
  have hls : (strValues l).toArray.size ≤ sizeLine := by
    have : (strValues l).toArray.size = l.length := by simp [strValues]
    have h2 : l.length ≤ 1001 := by omega
    rw [this]; exact Nat.le_trans h2 (by decide)
  refine escTurn (env := compEnvC _ [] C' (envP pm cd doc L f C _)) hh (T.keeps fun b o y => k₁.keep _ _ y) K₅.keep (Nat.le_of_lt (Nat.lt_trans hCs n₅.lt)) (by omega) hE₅ n₅ hC₅ (by show C' ≠ s₁.heap.objs.size + 1; rw [hzl, hz₂]; omega) (Nat.le_of_lt hCs) (by rfl) (by rfl) rfl ?_ ?_
  · rintro rfl s₆ h₆
    have K₆ := K₅.since (Nat.le_refl _) hE₅.2.1 h₆
    refine ⟨m', n₅.at fun o y => h₆.keep hC₅ y, fun h₇ hs₇ => ?_⟩
    have hD₇ : h₇.IsList h₂.objs.size (strValues l).toArray := by
      obtain ⟨ob, nn, ho, hc, _, hdt⟩ := hP₅
      exact ⟨ob, hs₇.extBut _ _ hDC (h₆.keep hD₅ ho), hc, nn, hdt⟩
    refine hQ h₂.objs.size l _ ?_ (k₁.trans (K₆.step fun b o y z => hs₇.extBut b o (Nat.ne_of_lt (Nat.lt_trans (Heap.lt_size y) hCs)) z)) hD₇ (by simpa using hgo)
    cases hg : s.heap.get? h₂.objs.size with
    | none => rfl
    | some o => exact absurd (Heap.lt_size (k₂ _ _ (k₁.keep _ _ hg))) (Nat.lt_irrefl _)
  · rintro p txt r' rfl own' s₆ tp tt hnew hE₆ n₆ h₆
    have K₆ : Kp s₁ s₆ := K₅.since (Nat.le_refl _) (fun b hb => by rcases List.mem_cons.mp hb with rfl | hb; exact Nat.le_of_lt hCs; exact hE₅.2.1 b hb) h₆
    have hC₆ : C' ∉ own' := fun h => by rcases hnew _ h with h | h; exact hC₅ h; exact Nat.lt_irrefl _ (Nat.lt_of_lt_of_le n₅.lt h)
    have hD₆' : h₂.objs.size < s₅.heap.objs.size := let ⟨ob, nn, ho, _⟩ := hP₅; Heap.lt_size ho
    have hD₆ : h₂.objs.size ∉ own' := fun h => by rcases hnew _ h with h | h; exact hD₅ h; exact Nat.lt_irrefl _ (Nat.lt_of_lt_of_le hD₆' h)
    have hP₆ : PlainL s₆.heap h₂.objs.size (strValues l).toArray := let ⟨ob, nn, ho, r⟩ := hP₅; ⟨ob, nn, h₆.keep (by simp only [List.mem_cons, not_or]; exact ⟨hDC, hD₅⟩) ho, r⟩
    refine wpAny_Name (wpAny_loadName_local rfl (by rfl) n₆ (v := .str txt tt) rfl ?_)
    refine list_append_plainL hP₆ (fun h₇ hP₇ s₇ => ?_) hls
    rw [strValues_push] at hP₇
    have k₇ : ∀ b o, b ≠ h₂.objs.size → s₆.heap.get? b = some o → h₇.get? b = some o := fun b o hb y => s₇.extBut b o hb y
    refine ⟨r'.length, by simp, r', own', _, l ++ [(txt, tt)], rfl, K₆.step fun b o y z => k₇ b o (Nat.ne_of_lt (Nat.lt_trans (Heap.lt_size y) hz1)) z, ?_, hC₆, hD₆, n₆.at fun o y => k₇ _ o (Ne.symm hDC) y, hP₇, ?_, ?_⟩
    · refine hE₆.frame rfl (fun b hb o y => k₇ b o ?_ y) fun b o y => k₇ b o (Nat.ne_of_lt (Nat.lt_trans (Heap.lt_size y) hz1)) (K₆.keep _ _ y)
      rintro rfl
      rcases List.mem_cons.mp hb with h | h
      · exact absurd h (by rw [hz₂]; exact aN (by omega))
      · exact hD₆ h
    · rw [← hgo]; simp
    · simp only [List.length_cons] at hlen; simp only [List.length_append, List.length_cons, List.length_nil]; omega
end
end Mine
/-! Law6 -/
namespace Mine
open PySem PySem.W PySem.Spec PySem.Calls PyProof.Rows

section
variable {w : World} {A : Around} {E : Value → Shared → Prop} {s₀ s : Shared} {m : Str → Option Value} {c1 c2 c3 c4 : Option Value} {pm cd doc : Value} {f P : Addr} {mean : ExcName → Option Value} {mg mb : Str → Option Value}
variable {pl : List (Str × Tok)} {Q : Flow → Shared → Prop}

def refsOf (ls : List (Addr × List (Str × Tok))) : List Value := ls.map fun p => .ref p.1
theorem refs_push (ls : List (Addr × List (Str × Tok))) (a : Addr) (l : List (Str × Tok)) : (refsOf ls).toArray.push (.ref a) = (refsOf (ls ++ [(a, l)])).toArray := by simp [refsOf]

set_option maxHeartbeats 2000000 in
theorem law_lists (hh : A.handled = none) (hd : A.depth + 4 < recursionLimit) (T : Top q loose mean mg mb s₀.heap) (F : LSt s₀ m c1 (some (.ref P)) c3 c4 s) (hl : s.heap.IsList P (strValues pl).toArray) (hz : pl.length = 4)
    (hpl : ∀ p ∈ pl, p.1.length ≤ 1000 ∧ (strip p.1).length ≤ 1000)
    (hQ : ∀ s' S ls, LSt s₀ m c1 (some (.ref P)) (some (.ref S)) c4 s' → Off s₀ S → (∀ b o, b ≠ s₀.heap.objs.size + 1 + 1 + 1 → s.heap.get? b = some o → s'.heap.get? b = some o) →
      s'.heap.IsList S (refsOf ls).toArray → (∀ p ∈ ls, s'.heap.IsList p.1 (strValues p.2).toArray ∧ Off s₀ p.1) → ls.map (fun p => p.2.map (·.1)) = pl.map (fun p => signsOf p.1) → Q .next s') :
    wpAny (model pw w) A (exec st3.1 (envL pm cd doc s₀.heap.objs.size f)) Q E s := by
  dsimp only [st3]
  have hsl : (strValues pl).toArray.size = 4 := by simp [strValues, hz]
  have hPlt : P < s.heap.objs.size := let ⟨_, ho, _⟩ := hl; Heap.lt_size ho
  refine wpAny_Assign_Name ?_
  rw [eval_ListComp]
  refine wpAny_comprehension_free (use := none) (cl := []) rfl (by intro _; rfl) (closureFor_none (by decide)) rfl (by decide) ?_
  refine ldCell F.pieces (wpAny_pyIter_list hl ?_)
  refine wpAny_newObj_type (wpAny_newFunctionEnv (by decide) (by intro y hy; simp at hy) (fun h₃ hn₃ hs₃ => ?_) rfl)
  dsimp only at hn₃ hs₃ ⊢
  generalize hI : s.heap.objs.size = I at *
  have low : ∀ b o, s.heap.get? b = some o → @LT.lt Nat _ b I := fun b o y => hI ▸ Heap.lt_size y
  have hzI : (s.heap.push { cls := .type "list_iterator", data := .fields #[.ref P, .int 0 0] }).objs.size = I + 1 := by rw [Heap.size_push, hI]
  have hzC : ((s.heap.push { cls := .type "list_iterator", data := .fields #[.ref P, .int 0 0] }).push { cls := .type "list", data := .seq ([] : List Value).toArray }).objs.size = I + 2 := by rw [Heap.size_push, hzI]
  have e1 : (s.heap.push { cls := .type "list_iterator", data := .fields #[.ref P, .int 0 0] }).get? I = some { cls := .type "list_iterator", data := .fields #[.ref P, .int 0 0] } := hI ▸ Heap.get?_push_size _ rfl
  have e2 : ((s.heap.push { cls := .type "list_iterator", data := .fields #[.ref P, .int 0 0] }).push { cls := .type "list", data := .seq ([] : List Value).toArray }).get? (I + 1) = some { cls := .type "list", data := .seq ([] : List Value).toArray } := by
    rw [← hzI]; exact Heap.get?_push_size _ rfl
  rw [hzC] at hn₃ hs₃ ⊢
  rw [hzI]
  have k₃ : ∀ b o, s.heap.get? b = some o → h₃.get? b = some o := fun b o y => hs₃.extBut b o (aN (by have := low _ _ y; omega)) (Heap.get?_push_of_some _ (Heap.get?_push_of_some _ (Heap.get?_push_of_some _ y)))
  have it₃ : h₃.IsListIter I P 0 := ⟨_, hs₃.extBut _ _ (aN (by omega)) (Heap.get?_push_of_some _ (Heap.get?_push_of_some _ e1)), rfl, rfl⟩
  have hP₃ : PlainL h₃ (I + 1) (refsOf []).toArray := ⟨_, _, hs₃.extBut _ _ (aN (by omega)) (Heap.get?_push_of_some _ e2), rfl, rfl, rfl⟩
  refine (fun loop => codeAny_compStart_list loop (wpAny_pyIter_listiter it₃ loop)) ?_
  refine compLoopT (fun n s' => ∃ i m' ls, n = 4 - i ∧ i ≤ 4 ∧ Kp s s' ∧ s'.heap.IsListIter I P i ∧ s'.heap.Ns (I + 2) m' ∧ PlainL s'.heap (I + 1) (refsOf ls).toArray ∧ ls.length = i ∧
      (∀ p ∈ ls, s'.heap.IsList p.1 (strValues p.2).toArray ∧ Off s₀ p.1 ∧ p.1 ≠ I ∧ p.1 ≠ I + 1 ∧ p.1 ≠ I + 2) ∧ ls.map (fun p => p.2.map (·.1)) = (pl.take i).map (fun p => signsOf p.1)) ?_ _
    ⟨0, _, [], rfl, Nat.zero_le _, (Kp.refl s).step fun b o y _ => k₃ _ _ y, it₃, hn₃, hP₃, rfl, by simp, rfl⟩
  rintro n s₅ ⟨i, m', ls, rfl, hi, K₅, it₅, n₅, hP₅, hls, hfa, hgo⟩
  refine listTurn (env := compEnvC _ [] (I + 2) (envL pm cd doc s₀.heap.objs.size f)) hh it₅ (hl.at fun o y => K₅.keep _ _ y) n₅ (aN (by show I ≠ I + 2; omega)) (by rfl) rfl ?_ ?_
  · intro hnone h₆ k₆
    have hi4 : i = 4 := by
      have : pl.length ≤ i := by simpa [strValues] using hnone
      omega
    subst hi4
    refine ⟨m', n₅.at fun o y => k₆ _ o (aN (by omega)) y, fun h₇ hs₇ => ?_⟩
    have k₇ : ∀ b o, b ≠ I → b ≠ I + 2 → s₅.heap.get? b = some o → h₇.get? b = some o := fun b o hb hb' y => hs₇.extBut b o hb' (k₆ b o hb y)
    have K₇ : Kp s { s₅ with heap := h₇ } := K₅.step fun b o y z => k₇ b o (aN (by have := low _ _ y; omega)) (aN (by have := low _ _ y; omega)) z
    have F₇ := F.to K₇
    have hoff : Off s₀ (I + 1) := Off.of_lt (aL (by have := F.low; omega))
    have hD₇ : h₇.IsList (I + 1) (refsOf ls).toArray := by
      obtain ⟨ob, nn, ho, hc, _, hdt⟩ := hP₅
      exact ⟨ob, k₇ _ _ (aN (by omega)) (aN (by omega)) ho, hc, nn, hdt⟩
    refine stLists (s := { s₅ with heap := h₇ }) F₇ fun h₈ F₈ k₈ => ?_
    refine hQ _ (I + 1) ls F₈ hoff (fun b o hb y => k₈ b o hb (K₇.keep _ _ y)) (hD₇.at fun o y => k₈ _ o hoff.c3 y) (fun p hp => ?_) (by rw [hgo, List.take_of_length_le (by omega)])
    obtain ⟨g1, g2, g3, g4, g5⟩ := hfa p hp
    exact ⟨g1.at fun o y => k₈ _ o g2.c3 (k₇ _ o g3 g5 y), g2⟩
  · intro v hv h₆ tk₆ it₆ n₆ k₆
    have hlt : i < pl.length := by
      rcases Nat.lt_or_ge i pl.length with h | h
      · exact h
      · rw [show (strValues pl).toArray[i]? = none by simpa [strValues] using h] at hv; cases hv
    have hve : v = .str (pl[i]'hlt).1 (pl[i]'hlt).2 := by
      have : (strValues pl).toArray[i]? = some (.str (pl[i]'hlt).1 (pl[i]'hlt).2) := by simp [strValues, hlt]
      rw [this] at hv; exact (Option.some.inj hv).symm
    subst hve
    have hpi := hpl _ (List.getElem_mem hlt)
    have htake : pl.take (i + 1) = pl.take i ++ [pl[i]'hlt] := by rw [List.take_succ_eq_append_getElem hlt]
    generalize pl[i]'hlt = pr at *
    obtain ⟨y₀, u₀⟩ := pr
    have K₆ : Kp s { s₅ with heap := h₆, toks := tk₆ } := K₅.step fun b o y z => k₆ b o (aN (by have := low _ _ y; omega)) (aN (b := I + 2) (by have := low _ _ y; omega)) z
    refine signs_eval (s := { s₅ with heap := h₆, toks := tk₆ }) (x := y₀) (t := u₀) rfl hh hd (T.keeps fun b o y => K₆.keep _ _ (F.kp.keep _ _ y)) hpi.1 hpi.2 n₆ rfl s₀.heap.objs.size fun D' l' s₇ hD' k₇ hl₇ hl' => ?_
    have hP₆ : PlainL s₇.heap (I + 1) (refsOf ls).toArray := let ⟨ob, nn, ho, r⟩ := hP₅; ⟨ob, nn, k₇.keep _ _ (k₆ _ _ (aN (by omega)) (aN (by show I + 1 ≠ I + 2; omega)) ho), r⟩
    have hlsz : (refsOf ls).toArray.size ≤ sizeLine := by
      have : (refsOf ls).toArray.size = ls.length := by simp [refsOf]
      rw [this, hls]; exact Nat.le_trans hi (by decide)
    refine list_append_plainL hP₆ (fun h₈ hP₈ s₈ => ?_) hlsz
    rw [refs_push ls D' l'] at hP₈
    have k₈ : ∀ b o, b ≠ I + 1 → s₇.heap.get? b = some o → h₈.get? b = some o := fun b o hb y => s₈.extBut b o hb y
    have K₇ := K₆.trans k₇
    have F₆ := F.to K₆
    have hne : ∀ b o, h₆.get? b = some o → D' ≠ b := by rintro b o y rfl; rw [show h₆.get? D' = none from hD'] at y; cases y
    have itI : ∃ o, h₆.get? I = some o := let ⟨o, ho, _⟩ := it₆; ⟨o, ho⟩
    have itC : ∃ o, h₆.get? (I + 2) = some o := let ⟨o, _, _, ho, _⟩ := n₆; ⟨o, ho⟩
    have itD : ∃ o, h₆.get? (I + 1) = some o := let ⟨ob, nn, ho, r⟩ := hP₅; ⟨ob, k₆ _ _ (aN (by omega)) (aN (by show I + 1 ≠ I + 2; omega)) ho⟩
    obtain ⟨oI, hoI⟩ := itI
    obtain ⟨oC, hoC⟩ := itC
    obtain ⟨oD, hoD⟩ := itD
    refine ⟨4 - (i + 1), by omega, i + 1, _, ls ++ [(D', l')], rfl, by omega, K₇.step fun b o y z => k₈ b o (aN (by have := low _ _ y; omega)) z, it₆.at fun o y => k₈ _ o (aN (by omega)) (k₇.keep _ _ y), n₆.at fun o y => k₈ _ o (aN (a := I + 2) (b := I + 1) (by omega)) (k₇.keep _ _ y), hP₈, by simp [hls], ?_, ?_⟩
    · intro p hp
      rcases List.mem_append.mp hp with hp | hp
      · obtain ⟨g1, g2, g3, g4, g5⟩ := hfa p hp
        exact ⟨g1.at fun o y => k₈ _ o g4 (k₇.keep _ _ (k₆ _ _ g3 g5 y)), g2, g3, g4, g5⟩
      · rw [List.mem_singleton.mp hp]
        exact ⟨hl₇.at fun o y => k₈ _ o (hne _ _ hoD) y, F₆.off hD', hne _ _ hoI, hne _ _ hoD, hne _ _ hoC⟩
    · rw [List.map_append, hgo, htake, List.map_append]
      simp [hl']
end
end Mine
/-! Law7 -/
namespace Mine
open PySem PySem.W PySem.Spec PySem.Calls PyProof.Rows

def refsI (os : List (Addr × List (Int × Tok))) : List Value := os.map fun p => .ref p.1
theorem refsI_push (os : List (Addr × List (Int × Tok))) (a : Addr) (l : List (Int × Tok)) : (refsI os).toArray.push (.ref a) = (refsI (os ++ [(a, l)])).toArray := by simp [refsI]

/-- a stretch of the comprehension: what it may touch, what it adds -/
def Lv (X : List Addr) (D : Addr) (s s' : Shared) (os news : List (Addr × List (Int × Tok))) : Prop :=
  ∃ h' tk, s' = { s with heap := h', toks := tk } ∧ (∀ b o, b ∉ X → s.heap.get? b = some o → h'.get? b = some o) ∧ (∀ b ∈ X, ∃ o, h'.get? b = some o) ∧ PlainL h' D (refsI (os ++ news)).toArray ∧
    ∀ p ∈ news, h'.IsList p.1 (intVs p.2).toArray ∧ s.heap.get? p.1 = none

theorem Lv.trans {X : List Addr} {D : Addr} {s s₁ s₂ : Shared} {os n1 n2 : List (Addr × List (Int × Tok))} (hX : ∀ b ∈ X, ∃ o, s.heap.get? b = some o) (x : Lv X D s s₁ os n1) (y : Lv X D s₁ s₂ (os ++ n1) n2) : Lv X D s s₂ os (n1 ++ n2) := by
  obtain ⟨h₁, t₁, rfl, k₁, e₁, p₁, a₁⟩ := x
  obtain ⟨h₂, t₂, rfl, k₂, e₂, p₂, a₂⟩ := y
  refine ⟨h₂, t₂, rfl, fun b o hb z => k₂ b o hb (k₁ b o hb z), e₂, by rw [← List.append_assoc]; exact p₂, fun p hp => ?_⟩
  rcases List.mem_append.mp hp with hp | hp
  · obtain ⟨g1, g2⟩ := a₁ p hp
    have hne : p.1 ∉ X := fun hx => by obtain ⟨o, ho⟩ := hX _ hx; rw [g2] at ho; cases ho
    exact ⟨g1.at fun o z => k₂ _ o hne z, g2⟩
  · obtain ⟨g1, g2⟩ := a₂ p hp
    refine ⟨g1, ?_⟩
    cases hg : s.heap.get? p.1 with
    | none => rfl
    | some o =>
      by_cases hx : p.1 ∈ X
      · obtain ⟨o', ho'⟩ := e₁ _ hx
        rw [show h₁.get? p.1 = none from g2] at ho'; cases ho'
      · have := k₁ _ _ hx hg
        rw [show h₁.get? p.1 = none from g2] at this; cases this

theorem Lv.refl {X : List Addr} {D : Addr} {s : Shared} {os : List (Addr × List (Int × Tok))} {h' : Heap} {tk : Nat} (hk : ∀ b o, b ∉ X → s.heap.get? b = some o → h'.get? b = some o) (hX : ∀ b ∈ X, ∃ o, h'.get? b = some o) (hp : PlainL h' D (refsI os).toArray) : Lv X D s { s with heap := h', toks := tk } os [] :=
  ⟨h', tk, rfl, hk, hX, by rw [List.append_nil]; exact hp, by simp⟩

/-- an address that is new to the first point need not be named -/
theorem Lv.drop {X : List Addr} {J D : Addr} {s s₁ s₂ : Shared} {os news : List (Addr × List (Int × Tok))} (hJ : s.heap.get? J = none) (x : Lv (J :: X) D s s₂ os news) : Lv X D s s₂ os news := by
  obtain ⟨h₂, t₂, rfl, k₂, e₂, p₂, a₂⟩ := x
  exact ⟨h₂, t₂, rfl, fun b o hb z => k₂ b o (by simp only [List.mem_cons, not_or]; exact ⟨(by rintro rfl; rw [hJ] at z; cases z), hb⟩) z, fun b hb => e₂ b (List.mem_cons_of_mem _ hb), p₂, a₂⟩

section
variable {prog : Program} {w : World} {A : Around} {E E₂ E₃ : Value → Shared → Prop} {s : Shared} {Zn Zc : Shared → Prop} {env : Env} {m : Str → Option Value} {J : Addr} {x left : Int} {xv : Str} {pt : Pos}

theorem rangeTurn (hh : A.handled = none) (hit : IsRangeIter s.heap J x left 1) (hn : s.heap.Ns env.locals m) (hJL : J ≠ env.locals)
    (hxv : env.kindOf xv = some .local) (hp : (env.scope.kind == .class || (env.scope.kind == .module && env.locals != env.globals)) = false)
    (hnil : left ≤ 0 → ∀ h', (∀ b o, b ≠ J → s.heap.get? b = some o → h'.get? b = some o) → Zn { s with heap := h' })
    (hcons : 0 < left → ∀ h' tk t, IsRangeIter h' J (x + 1) (left - 1) 1 → h'.Ns env.locals (fun y => if y = xv then some (.int x t) else m y) → (∀ b o, b ≠ J → b ≠ env.locals → s.heap.get? b = some o → h'.get? b = some o) → Zc { s with heap := h', toks := tk }) :
    wpAny (model prog w) A (pyNext (.ref J)) (fun r s₁ => match r with
      | none => Zn s₁
      | some v => wpAny (model prog w) A (letOwnedTupleGo (.Name xv pt) (.ref J) v) (fun _ s₂ =>
          wpAny (model prog w) A (assign (.Name xv pt) env v) (fun _ s₃ => Zc s₃) E₃ s₂) E₂ s₁) E s := by
  rcases Int.lt_or_le 0 left with hl | hl
  · refine wpAny_pyNext_range_item hit hl fun h₁ hit₁ s₁ => ?_
    show wpAny _ _ (pure ()) _ _ _
    refine wpAny_pure (wpAny_assign_Name (wpAny_storeName_local hxv (hn.at fun o y => s₁.extBut _ o (Ne.symm hJL) y) (fun h₂ hn₂ s₂ => ?_) hp))
    exact hcons hl h₂ _ _ (s₂.extBut J _ hJL hit₁) hn₂ fun b o hb hb' y => s₂.extBut b o hb' (s₁.extBut b o hb y)
  · exact wpAny_pyNext_range_end hh hit hl fun h' he => hnil hl h' fun b o hb y => he b o hb y

/-- the loop of one clause -/
theorem compLoopN {elt : Expr} {gens : List Comprehension} {scope : Scope} {lpos : Pos} {d : Nat} {it acc : Value} {target : Expr} {ifs : List Expr} {ps : Pos} {next : Sem Unit} {R : Result → Shared → Prop}
    (heq : compTurn (.ListComp elt gens scope lpos) d it acc env = (do
      standAt ps
      match ← pyNext it with
      | none => pure (.done .next)
      | some v =>
        letOwnedTupleGo target it v
        assign target env v
        let mut ok := true
        for c in ifs do
          if ok then ok ← isTrue c env (eval c env)
        if ok then next
        again (.compLoop (.ListComp elt gens scope lpos) d it acc env)))
    (hq : (Code.compLoop (.ListComp elt gens scope lpos) d it acc env).quiet = true) (I : Nat → Shared → Prop)
    (turn : ∀ n s, I n s → wpAny (model prog w) A (pyNext it) (fun r s₁ => match r with
      | none => R (.ok .next) s₁
      | some v => wpAny (model prog w) A (letOwnedTupleGo target it v) (fun _ s₂ => wpAny (model prog w) A (assign target env v) (fun _ s₃ =>
          wpAny (model prog w) A (forIn ifs true fun c r => if r = true then do let ok ← isTrue c env (eval c env); pure (ForInStep.yield ok) else pure (ForInStep.yield r)) (fun ok s₄ =>
            if ok = true then wpAny (model prog w) A next (fun _ s₅ => ∃ m, m < n ∧ I m s₅) (notedBy (model prog w) A env fun e s' => R (.error e) s') s₄ else ∃ m, m < n ∧ I m s₄)
          (notedBy (model prog w) A env fun e s' => R (.error e) s') s₃) (notedBy (model prog w) A env fun e s' => R (.error e) s') s₂) (notedBy (model prog w) A env fun e s' => R (.error e) s') s₁) (notedBy (model prog w) A env fun e s' => R (.error e) s') s)
    (n : Nat) (h : I n s) : codeAny (model prog w) A (.compLoop (.ListComp elt gens scope lpos) d it acc env) R s := by
  refine codeAny_loop hq I (fun n s hI => ?_) n h
  show wpAny _ A ((compTurn (.ListComp elt gens scope lpos) d it acc env).onRaise (fun x => do noteFrame x env; theTreesLotGoes x)) _ _ s
  refine wpAny_noted ?_
  rw [heq]
  refine wpAny_bind (wpAny_standAt (wpAny_bind (wpAny_mono (turn n s hI) (fun r s₁ h₁ => ?_) fun _ _ h' => h')))
  cases r with
  | none => exact wpAny_pure h₁
  | some v =>
    refine wpAny_bind (wpAny_mono h₁ (fun _ s₂ h₂ => wpAny_bind (wpAny_mono h₂ (fun _ s₃ h₃ => wpAny_bind (wpAny_mono h₃ (fun ok s₄ h₄ => ?_) fun _ _ h' => h')) fun _ _ h' => h')) fun _ _ h' => h')
    cases ok with
    | false => exact wpAny_pure ⟨rfl, h₄⟩
    | true => exact wpAny_bind (wpAny_mono h₄ (fun _ s₅ h₅ => wpAny_pure ⟨rfl, h₅⟩) fun _ _ h' => h')

/-- a level of a comprehension, over a range of four -/
theorem lvl {elt : Expr} {gens : List Comprehension} {scope : Scope} {lpos : Pos} {d : Nat} {D : Addr} {os : List (Addr × List (Int × Tok))} {ifs : List Expr} {ps : Pos} {next : Sem Unit} {G : Nat → List (List Int)} {V : List Str} {R : Result → Shared → Prop}
    (heq : compTurn (.ListComp elt gens scope lpos) d (.ref J) (.ref D) env = (do
      standAt ps
      match ← pyNext (.ref J) with
      | none => pure (.done .next)
      | some v =>
        letOwnedTupleGo (.Name xv pt) (.ref J) v
        assign (.Name xv pt) env v
        let mut ok := true
        for c in ifs do
          if ok then ok ← isTrue c env (eval c env)
        if ok then next
        again (.compLoop (.ListComp elt gens scope lpos) d (.ref J) (.ref D) env)))
    (hq : (Code.compLoop (.ListComp elt gens scope lpos) d (.ref J) (.ref D) env).quiet = true)
    (hh : A.handled = none) (hit : IsRangeIter s.heap J 0 4 1) (hn : s.heap.Ns env.locals m) (hP : PlainL s.heap D (refsI os).toArray) (hJL : J ≠ env.locals) (hDJ : D ≠ J) (hDL : D ≠ env.locals) (hos : os.length ≤ 1000)
    (hxv : env.kindOf xv = some .local) (hp : (env.scope.kind == .class || (env.scope.kind == .module && env.locals != env.globals)) = false) (hV : xv ∉ V)
    (body : ∀ (k : Nat), k < 4 → ∀ (s₁ : Shared) (m₁ : Str → Option Value) (t : Tok) (os₁ : List (Addr × List (Int × Tok))) (E' : Value → Shared → Prop), s₁.heap.Ns env.locals m₁ → m₁ xv = some (.int k t) → (∀ y ∈ V, m₁ y = m y) → PlainL s₁.heap D (refsI os₁).toArray → os₁.length ≤ os.length + 64 → (∃ o, s₁.heap.get? J = some o) →
      (∀ b o, b ≠ J → b ≠ D → b ≠ env.locals → s.heap.get? b = some o → s₁.heap.get? b = some o) →
      wpAny (model prog w) A (forIn ifs true fun c r => if r = true then do let ok ← isTrue c env (eval c env); pure (ForInStep.yield ok) else pure (ForInStep.yield r)) (fun ok s₂ =>
        if ok = true then wpAny (model prog w) A next (fun _ s₃ => ∃ news m₃, Lv [D, env.locals] D s₁ s₃ os₁ news ∧ s₃.heap.Ns env.locals m₃ ∧ (∀ y ∈ V, m₃ y = m y) ∧ news.map (fun p => p.2.map (·.1)) = G k) E' s₂
        else ∃ m₃, Lv [D, env.locals] D s₁ s₂ os₁ [] ∧ s₂.heap.Ns env.locals m₃ ∧ (∀ y ∈ V, m₃ y = m y) ∧ G k = []) E' s₁)
    (hG : ∀ k, k < 4 → (G k).length ≤ 16)
    (hR : ∀ s' news m', (∀ b o, b ∉ [J, D, env.locals] → s.heap.get? b = some o → s'.heap.get? b = some o) → s' = { s with heap := s'.heap, toks := s'.toks } → PlainL s'.heap D (refsI (os ++ news)).toArray → (∀ p ∈ news, s'.heap.IsList p.1 (intVs p.2).toArray ∧ s.heap.get? p.1 = none) → s'.heap.Ns env.locals m' → (∀ y ∈ V, m' y = m y) → news.map (fun p => p.2.map (·.1)) = (List.range 4).flatMap G → R (.ok .next) s') :
    codeAny (model prog w) A (.compLoop (.ListComp elt gens scope lpos) d (.ref J) (.ref D) env) R s := by
  have hX : ∀ {h : Heap}, (∃ o, h.get? J = some o) → (∃ o, h.get? D = some o) → (∃ o, h.get? env.locals = some o) → ∀ b ∈ [J, D, env.locals], ∃ o, h.get? b = some o := by
    intro h h1 h2 h3 b hb
    simp only [List.mem_cons, List.not_mem_nil, or_false] at hb
    rcases hb with rfl | rfl | rfl
    · exact h1
    · exact h2
    · exact h3
  have hXs : ∀ b ∈ [J, D, env.locals], ∃ o, s.heap.get? b = some o := hX ⟨_, hit⟩ (let ⟨o, _, ho, _⟩ := hP; ⟨o, ho⟩) (let ⟨o, _, _, ho, _⟩ := hn; ⟨o, ho⟩)
  refine compLoopN heq hq (fun n s' => ∃ k : Nat, k ≤ 4 ∧ n = 4 - k ∧ ∃ news m', IsRangeIter s'.heap J k (4 - (k : Int)) 1 ∧ Lv [J, D, env.locals] D s s' os news ∧ s'.heap.Ns env.locals m' ∧ (∀ y ∈ V, m' y = m y) ∧ news.map (fun p => p.2.map (·.1)) = (List.range k).flatMap G ∧ news.length ≤ 16 * k) (fun n s' hI => ?_) 4
    ⟨0, by omega, rfl, [], m, by simpa using hit, ⟨s.heap, s.toks, rfl, fun _ _ _ y => y, hXs, by rw [List.append_nil]; exact hP, by simp⟩, hn, fun _ _ => rfl, rfl, Nat.zero_le _⟩
  obtain ⟨k, hk, rfl, news, m', hit', hLv, hn', hV', hgo, hnl⟩ := hI
  refine rangeTurn hh hit' hn' hJL hxv hp ?_ ?_
  · intro hl h' k'
    have hk4 : k = 4 := by omega
    subst hk4
    obtain ⟨h₁, t₁, rfl, kk, ee, pp, aa⟩ := hLv
    have hJn : ∀ p ∈ news, p.1 ≠ J := fun p hp he => by have := (aa p hp).2; rw [he] at this; rw [show s.heap.get? J = some _ from hit] at this; cases this
    refine hR _ news m' (fun b o hb y => k' b o (fun h => hb (h ▸ List.mem_cons_self)) (kk b o hb y)) rfl ?_ (fun p hp => ⟨(aa p hp).1.at fun o y => k' _ o (hJn p hp) y, (aa p hp).2⟩) (hn'.at fun o y => k' _ o (Ne.symm hJL) y) hV' hgo
    obtain ⟨ob, nn, ho, r⟩ := pp
    exact ⟨ob, nn, k' _ _ hDJ ho, r⟩
  · intro hl h' tk t it₁ n₁ k'
    have hk4 : k < 4 := by omega
    obtain ⟨h₁, t₁, rfl, kk, ee, pp, aa⟩ := hLv
    have hnX : ∀ p ∈ news, p.1 ∉ [J, D, env.locals] := fun p hp hx => by obtain ⟨o, ho⟩ := hXs _ hx; rw [(aa p hp).2] at ho; cases ho
    have hP' : PlainL h' D (refsI (os ++ news)).toArray := let ⟨ob, nn, ho, r⟩ := pp; ⟨ob, nn, k' _ _ hDJ hDL ho, r⟩
    have hL₁ : Lv [J, D, env.locals] D s { s with heap := h', toks := tk } os news :=
      ⟨h', tk, rfl, fun b o hb y => k' b o (fun h => hb (by simp [h])) (fun h => hb (by simp [h])) (kk b o hb y), hX ⟨_, it₁⟩ (let ⟨o, _, ho, _⟩ := hP'; ⟨o, ho⟩) (let ⟨o, _, _, ho, _⟩ := n₁; ⟨o, ho⟩), hP',
        fun p hp => ⟨(aa p hp).1.at fun o y => k' _ o (fun h => hnX p hp (by simp [h])) (fun h => hnX p hp (by simp [h])) y, (aa p hp).2⟩⟩
    have hcast : ((k : Int) + 1) = ((k + 1 : Nat) : Int) := by push_cast; rfl
    have hcast2 : (4 - (k : Int) - 1) = 4 - ((k + 1 : Nat) : Int) := by push_cast; omega
    -- what a stretch adds
    have fin : ∀ (s₃ : Shared) (news₃ : List (Addr × List (Int × Tok))) (m₃ : Str → Option Value), Lv [D, env.locals] D { s with heap := h', toks := tk } s₃ (os ++ news) news₃ → s₃.heap.Ns env.locals m₃ → (∀ y ∈ V, m₃ y = m y) → news₃.map (fun p => p.2.map (·.1)) = G k →
        ∃ n', n' < 4 - k ∧ ∃ k : Nat, k ≤ 4 ∧ n' = 4 - k ∧ ∃ news m', IsRangeIter s₃.heap J k (4 - (k : Int)) 1 ∧ Lv [J, D, env.locals] D s s₃ os news ∧ s₃.heap.Ns env.locals m' ∧ (∀ y ∈ V, m' y = m y) ∧ news.map (fun p => p.2.map (·.1)) = (List.range k).flatMap G ∧ news.length ≤ 16 * k := by
      intro s₃ news₃ m₃ hL₃ n₃ hV₃ hg₃
      have hl₃ : news₃.length ≤ 16 := by have := congrArg List.length hg₃; rw [List.length_map] at this; rw [this]; exact hG k hk4
      have hLJ : Lv [J, D, env.locals] D { s with heap := h', toks := tk } s₃ (os ++ news) news₃ := by
        obtain ⟨h₃, t₃, rfl, k₃, e₃, p₃, a₃⟩ := hL₃
        refine ⟨h₃, t₃, rfl, fun b o hb y => k₃ b o (fun h => hb (List.mem_cons_of_mem _ h)) y, fun b hb => ?_, p₃, a₃⟩
        rcases List.mem_cons.mp hb with rfl | hb
        · exact ⟨_, k₃ _ _ (by simp only [List.mem_cons, List.not_mem_nil, or_false, not_or]; exact ⟨Ne.symm hDJ, hJL⟩) it₁⟩
        · exact e₃ b hb
      have it₃ : IsRangeIter s₃.heap J ((k + 1 : Nat) : Int) (4 - ((k + 1 : Nat) : Int)) 1 := by
        obtain ⟨h₃, t₃, rfl, k₃, e₃, p₃, a₃⟩ := hL₃
        rw [← hcast2, ← hcast]
        exact k₃ _ _ (by simp only [List.mem_cons, List.not_mem_nil, or_false, not_or]; exact ⟨Ne.symm hDJ, hJL⟩) it₁
      exact ⟨4 - (k + 1), by omega, k + 1, by omega, rfl, news ++ news₃, m₃, it₃, hL₁.trans hXs hLJ, n₃, hV₃, by rw [List.map_append, hgo, hg₃, List.range_succ, List.flatMap_append]; simp, by rw [List.length_append]; omega⟩
    refine wpAny_mono (body k hk4 { s with heap := h', toks := tk } _ t (os ++ news) _ n₁ (if_pos rfl) (fun y hy => ?_) hP' (by rw [List.length_append]; omega) ⟨_, it₁⟩ (fun b o hb hb' hb'' y => k' b o hb hb'' (kk b o (by simp [hb, hb', hb'']) y))) (fun ok s₂ h₂ => ?_) fun _ _ x => x
    · exact Eq.trans (if_neg (fun h : y = xv => hV (h ▸ hy))) (hV' y hy)
    · cases ok with
      | true =>
        refine wpAny_mono h₂ (fun _ s₃ h₃ => ?_) fun _ _ x => x
        obtain ⟨news₃, m₃, hL₃, n₃, hV₃, hg₃⟩ := h₃
        exact fin s₃ news₃ m₃ hL₃ n₃ hV₃ hg₃
      | false =>
        obtain ⟨m₃, hL₃, n₃, hV₃, hg₃⟩ := h₂
        exact fin s₂ [] m₃ hL₃ n₃ hV₃ (by rw [hg₃]; rfl)
end
end Mine
/-! Law8 -/
namespace Mine
open PySem PySem.W PySem.Spec PySem.Calls PyProof.Rows

def ordC (a b c : Nat) : List (List Int) := if (c == a || c == b) = true then [] else [[(a : Int), b, c, 6 - a - b - c]]
def ordB (a b : Nat) : List (List Int) := if (b == a) = true then [] else (List.range 4).flatMap (ordC a b)
def ordA (a : Nat) : List (List Int) := (List.range 4).flatMap (ordB a)
def ordersP : List (List Int) := (List.range 4).flatMap ordA

def next0 (e i : Expr) (acc : Value) (env : Env) : Sem Unit := do
  let x ← eval i env
  standAt i.pos
  let x ← foldedSetIterable i env x
  let _ ← runOwn (.compStart e 1 (← holding [x] (pyIter x)) acc env) env

theorem turn0raw (elt t0 i0 t1 i1 t2 i2 : Expr) (f0 f1 f2 : List Expr) (scope : Scope) (pos : Pos) (it acc : Value) (env : Env) :
    compTurn (.ListComp elt [⟨t0, i0, f0, 0⟩, ⟨t1, i1, f1, 0⟩, ⟨t2, i2, f2, 0⟩] scope pos) 0 it acc env = (do
      standAt i0.pos
      match ← pyNext it with
      | none => pure (.done .next)
      | some v =>
        letOwnedTupleGo t0 it v
        assign t0 env v
        let mut ok := true
        for c in f0 do
          if ok then ok ← isTrue c env (eval c env)
        if ok then
          let x ← eval i1 env
          standAt i1.pos
          let x ← foldedSetIterable i1 env x
          let _ ← runOwn (.compStart (.ListComp elt [⟨t0, i0, f0, 0⟩, ⟨t1, i1, f1, 0⟩, ⟨t2, i2, f2, 0⟩] scope pos) 1 (← holding [x] (pyIter x)) acc env) env
          again (.compLoop (.ListComp elt [⟨t0, i0, f0, 0⟩, ⟨t1, i1, f1, 0⟩, ⟨t2, i2, f2, 0⟩] scope pos) 0 it acc env)
        else again (.compLoop (.ListComp elt [⟨t0, i0, f0, 0⟩, ⟨t1, i1, f1, 0⟩, ⟨t2, i2, f2, 0⟩] scope pos) 0 it acc env)) := by rfl

theorem turn0 (elt t0 i0 t1 i1 t2 i2 : Expr) (f0 f1 f2 : List Expr) (scope : Scope) (pos : Pos) (it acc : Value) (env : Env) :
    compTurn (.ListComp elt [⟨t0, i0, f0, 0⟩, ⟨t1, i1, f1, 0⟩, ⟨t2, i2, f2, 0⟩] scope pos) 0 it acc env = (do
      standAt i0.pos
      match ← pyNext it with
      | none => pure (.done .next)
      | some v =>
        letOwnedTupleGo t0 it v
        assign t0 env v
        let mut ok := true
        for c in f0 do
          if ok then ok ← isTrue c env (eval c env)
        if ok then next0 (.ListComp elt [⟨t0, i0, f0, 0⟩, ⟨t1, i1, f1, 0⟩, ⟨t2, i2, f2, 0⟩] scope pos) i1 acc env
        again (.compLoop (.ListComp elt [⟨t0, i0, f0, 0⟩, ⟨t1, i1, f1, 0⟩, ⟨t2, i2, f2, 0⟩] scope pos) 0 it acc env)) := by
  rw [turn0raw]
  simp only [next0, bind_assoc, pure_bind]

def next1 (e i : Expr) (acc : Value) (env : Env) : Sem Unit := do
  let x ← eval i env
  standAt i.pos
  let x ← foldedSetIterable i env x
  let _ ← runOwn (.compStart e 2 (← holding [x] (pyIter x)) acc env) env

theorem turn1raw (elt t0 i0 t1 i1 t2 i2 : Expr) (f0 f1 f2 : List Expr) (scope : Scope) (pos : Pos) (it acc : Value) (env : Env) :
    compTurn (.ListComp elt [⟨t0, i0, f0, 0⟩, ⟨t1, i1, f1, 0⟩, ⟨t2, i2, f2, 0⟩] scope pos) 1 it acc env = (do
      standAt i1.pos
      match ← pyNext it with
      | none => pure (.done .next)
      | some v =>
        letOwnedTupleGo t1 it v
        assign t1 env v
        let mut ok := true
        for c in f1 do
          if ok then ok ← isTrue c env (eval c env)
        if ok then
          let x ← eval i2 env
          standAt i2.pos
          let x ← foldedSetIterable i2 env x
          let _ ← runOwn (.compStart (.ListComp elt [⟨t0, i0, f0, 0⟩, ⟨t1, i1, f1, 0⟩, ⟨t2, i2, f2, 0⟩] scope pos) 2 (← holding [x] (pyIter x)) acc env) env
          again (.compLoop (.ListComp elt [⟨t0, i0, f0, 0⟩, ⟨t1, i1, f1, 0⟩, ⟨t2, i2, f2, 0⟩] scope pos) 1 it acc env)
        else again (.compLoop (.ListComp elt [⟨t0, i0, f0, 0⟩, ⟨t1, i1, f1, 0⟩, ⟨t2, i2, f2, 0⟩] scope pos) 1 it acc env)) := by rfl

theorem turn1 (elt t0 i0 t1 i1 t2 i2 : Expr) (f0 f1 f2 : List Expr) (scope : Scope) (pos : Pos) (it acc : Value) (env : Env) :
    compTurn (.ListComp elt [⟨t0, i0, f0, 0⟩, ⟨t1, i1, f1, 0⟩, ⟨t2, i2, f2, 0⟩] scope pos) 1 it acc env = (do
      standAt i1.pos
      match ← pyNext it with
      | none => pure (.done .next)
      | some v =>
        letOwnedTupleGo t1 it v
        assign t1 env v
        let mut ok := true
        for c in f1 do
          if ok then ok ← isTrue c env (eval c env)
        if ok then next1 (.ListComp elt [⟨t0, i0, f0, 0⟩, ⟨t1, i1, f1, 0⟩, ⟨t2, i2, f2, 0⟩] scope pos) i2 acc env
        again (.compLoop (.ListComp elt [⟨t0, i0, f0, 0⟩, ⟨t1, i1, f1, 0⟩, ⟨t2, i2, f2, 0⟩] scope pos) 1 it acc env)) := by
  rw [turn1raw]
  simp only [next1, bind_assoc, pure_bind]

def st4 : { d : Stmt // rLaw.1.body[4]? = some d } := ⟨_, rfl⟩
def lc4 : { d : Expr × List Comprehension × Scope × Pos // lcOf st4.1 = some d } := ⟨_, rfl⟩

section
variable {w : World} {A : Around} {E : Value → Shared → Prop} {s₀ s : Shared} {m : Str → Option Value} {c1 c2 c3 c4 : Option Value} {pm cd doc : Value} {f C D L : Addr} {mean : ExcName → Option Value} {mg mb : Str → Option Value}

theorem compStartN {prog : Program} {R : Result → Shared → Prop} {elt t0 i0 t1 i1 t2 i2 : Expr} {f0 f1 f2 : List Expr} {scope : Scope} {lpos : Pos} {d : Nat} {it acc : Value} {env : Env} (hd : d = 0 ∨ d = 1 ∨ d = 2)
    (h0 : codeAny (model prog w) A (.compLoop (.ListComp elt [⟨t0, i0, f0, 0⟩, ⟨t1, i1, f1, 0⟩, ⟨t2, i2, f2, 0⟩] scope lpos) d it acc env) R s)
    (h : wpAny (model prog w) A (pyIter it) (fun it' s' => codeAny (model prog w) A (.compLoop (.ListComp elt [⟨t0, i0, f0, 0⟩, ⟨t1, i1, f1, 0⟩, ⟨t2, i2, f2, 0⟩] scope lpos) d it' acc env) R s') (fun _ _ => False) s) :
    codeAny (model prog w) A (.compStart (.ListComp elt [⟨t0, i0, f0, 0⟩, ⟨t1, i1, f1, 0⟩, ⟨t2, i2, f2, 0⟩] scope lpos) d it acc env) R s := by
  rcases hd with rfl | rfl | rfl
  all_goals
    refine codeAny_of_tree ?_
    show wpAny _ _ ((compStart _ _ it acc env).onRaise (fun x => do noteFrame x env; standAt theWindowsPlace)) _ _ s
    refine wpAny_notedAt ?_
    unfold compStart
    show wpAny _ _ (ask >>= _) _ _ s
    refine wpAny_bind (wpAny_askSetting (wpAny_ite ?_))
    split
    · first
        | exact wpAny_bind (wpAny_pure (wpAny_pure (And.intro rfl h0)))
        | exact wpAny_pure (And.intro rfl h0)
    · first
        | exact wpAny_bind (wpAny_rule (wpAny_bind (wpAny_standAt (wpAny_bind (wpAny_mono h (fun it' s' h' => wpAny_pure (And.intro rfl h')) fun _ _ x => x.elim)))))
        | (refine wpAny_bind (wpAny_rule ?_); show wpAny _ _ (standAt _ >>= _) _ _ s; exact wpAny_bind (wpAny_standAt (wpAny_bind (wpAny_mono h (fun it' s' h' => wpAny_pure (And.intro rfl h')) fun _ _ x => x.elim))))

abbrev env4 (pm cd doc : Value) (L f C : Addr) : Env := compEnvC lc4.1.2.2.1 [] C (envL pm cd doc L f)

theorem ld4 {x : Str} {v : Value} {pos : Pos} {Q : Value → Shared → Prop} (hn : s.heap.Ns C m) (hv : m x = some v) (h : Q v s) (hl : (env4 pm cd doc L f C).kindOf x = some .local := by rfl) (hd : (x == ("__debug__" : Str)) = false := by decide) :
    wpAny (model pw w) A (eval (.Name x pos) (env4 pm cd doc L f C)) Q E s := wpAny_Name (wpAny_loadName_local rfl hl hn hv h) hd

theorem orders_elt {a b c : Int} {ta tb tc : Tok} {Q : Value → Shared → Prop} (hn : s.heap.Ns C m) (ha : m "a" = some (.int a ta)) (hb : m "b" = some (.int b tb)) (hc : m "c" = some (.int c tc))
    (h : ∀ t' tk, Q (.ref s.heap.objs.size) { s with heap := s.heap.push { cls := .type "list", data := .seq (intVs [(a, ta), (b, tb), (c, tc), (6 - a - b - c, t')]).toArray }, toks := tk }) :
    wpAny (model pw w) A (eval lc4.1.1 (env4 pm cd doc L f C)) Q E s := by
  dsimp only [lc4]
  refine wpAny_List (spliced_more (ld4 hn ha (spliced_more (ld4 hn hb (spliced_more (ld4 hn hc (spliced_more ?_)))))))
  refine wpAny_BinOp (wpAny_BinOp (wpAny_BinOp (wpAny_Constant_int (ld4 (s := { s with toks := _ }) hn ha (sub_int (ld4 (s := { s with toks := _ }) hn hb (sub_int (ld4 (s := { s with toks := _ }) hn hc (sub_int (spliced_none ⟨by show 4 ≤ sizeLine; decide, ?_⟩))))))))))
  exact h _ _

set_option maxHeartbeats 2000000 in
theorem lvC {J : Addr} {a b : Nat} {ta tb : Tok} {os : List (Addr × List (Int × Tok))} {R : Result → Shared → Prop} (hh : A.handled = none) (hit : IsRangeIter s.heap J 0 4 1) (hn : s.heap.Ns C m) (hP : PlainL s.heap D (refsI os).toArray) (hJC : J ≠ C) (hDJ : D ≠ J) (hDC : D ≠ C) (hos : os.length ≤ 500)
    (ha : m "a" = some (.int a ta)) (hb : m "b" = some (.int b tb))
    (hR : ∀ s' news m', (∀ x o, x ∉ [J, D, C] → s.heap.get? x = some o → s'.heap.get? x = some o) → s' = { s with heap := s'.heap, toks := s'.toks } → PlainL s'.heap D (refsI (os ++ news)).toArray → (∀ p ∈ news, s'.heap.IsList p.1 (intVs p.2).toArray ∧ s.heap.get? p.1 = none) →
      s'.heap.Ns C m' → (∀ y ∈ [Str.ofString "a", Str.ofString "b"], m' y = m y) → news.map (fun p => p.2.map (·.1)) = (List.range 4).flatMap (ordC a b) → R (.ok .next) s') :
    codeAny (model pw w) A (.compLoop (.ListComp lc4.1.1 lc4.1.2.1 lc4.1.2.2.1 lc4.1.2.2.2) 2 (.ref J) (.ref D) (env4 pm cd doc L f C)) R s := by
  dsimp only [lc4]
  refine lvl (env := env4 pm cd doc L f C) (V := [Str.ofString "a", Str.ofString "b"]) (G := ordC a b) rfl rfl hh hit hn hP hJC hDJ hDC (by omega) (by rfl) rfl (by decide) ?_ (by intro k _; unfold ordC; split <;> simp) hR
  intro k hk s₁ m₁ t os₁ E' hn₁ hx₁ hV₁ hP₁ hos₁ hJ₁ hk₁
  have ha₁ : m₁ "a" = some (.int a ta) := (hV₁ _ (by simp)).trans ha
  have hb₁ : m₁ "b" = some (.int b tb) := (hV₁ _ (by simp)).trans hb
  refine wpAny_tests_one (wpAny_isTrue_Compare1 ?_)
  refine ld4 hn₁ hx₁ ?_
  refine wpAny_List (spliced_more (ld4 hn₁ ha₁ (spliced_more (ld4 hn₁ hb₁ (spliced_none ⟨by show 2 ≤ sizeLine; decide, ?_⟩)))))
  have hDlt : D < s₁.heap.objs.size := let ⟨_, _, ho, _⟩ := hP₁; Heap.lt_size ho
  have hClt : C < s₁.heap.objs.size := hn₁.lt
  have hl₂ : (s₁.heap.push { cls := .type "list", data := .seq [Value.int a ta, Value.int b tb].toArray }).IsList s₁.heap.objs.size [Value.int a ta, Value.int b tb].toArray := ⟨_, Heap.get?_push_size _ rfl, rfl, 0, rfl⟩
  refine SeqAt.notIn_listAt (fun y => match y with | .int z _ => z == (k : Int) | _ => false) hl₂ (fun y hy => ?_) (wpAny_truthy_bool ?_)
  · simp only [List.mem_toArray, List.mem_cons, List.not_mem_nil, or_false] at hy
    rcases hy with rfl | rfl
    · exact SeqAt.EqAt.int_int _ _ _ _
    · exact SeqAt.EqAt.int_int _ _ _ _
  have hany : (!([Value.int (a : Int) ta, Value.int (b : Int) tb].toArray.any fun y => match y with | .int z _ => z == (k : Int) | _ => false)) = !(k == a || k == b) := by
    have e1 : ((a : Int) == (k : Int)) = (k == a) := by rw [Bool.eq_iff_iff]; simp; omega
    have e2 : ((b : Int) == (k : Int)) = (k == b) := by rw [Bool.eq_iff_iff]; simp; omega
    simp [e1, e2]
  rw [hany]
  have n₂ := hn₁.push { cls := .type "list", data := .seq [Value.int a ta, Value.int b tb].toArray }
  have P₂ : PlainL (s₁.heap.push { cls := .type "list", data := .seq [Value.int a ta, Value.int b tb].toArray }) D (refsI os₁).toArray := hP₁.keeps fun b o y => Heap.get?_push_of_some _ y
  generalize hh₂ : s₁.heap.push { cls := .type "list", data := .seq [Value.int (a : Int) ta, Value.int (b : Int) tb].toArray } = h₂ at *
  have k₂ : ∀ b o, s₁.heap.get? b = some o → h₂.get? b = some o := fun b o y => hh₂ ▸ Heap.get?_push_of_some _ y
  have hX₂ : ∀ {h' : Heap}, (∃ o, h'.get? D = some o) → (∃ o, h'.get? C = some o) → ∀ x ∈ [D, C], ∃ o, h'.get? x = some o := by
    intro h' h1 h2 x hx
    simp only [List.mem_cons, List.not_mem_nil, or_false] at hx
    rcases hx with rfl | rfl
    · exact h1
    · exact h2
  by_cases hk : (k == a || k == b) = true
  · rw [if_neg (by rw [hk]; decide)]
    refine ⟨m₁, Lv.refl (fun b o _ y => k₂ _ _ y) (hX₂ (let ⟨o, _, ho, _⟩ := P₂; ⟨o, ho⟩) (let ⟨o, _, _, ho, _⟩ := n₂; ⟨o, ho⟩)) P₂, n₂, hV₁, by unfold ordC; rw [if_pos hk]⟩
  · rw [if_pos (by rw [Bool.not_eq_true] at hk; rw [hk]; decide)]
    refine wpAny_bind ?_
    refine orders_elt (s := { s₁ with heap := h₂ }) n₂ ha₁ hb₁ hx₁ fun t' tk' => ?_
    refine wpAny_bind ?_
    have hlsz : (refsI os₁).toArray.size ≤ sizeLine := by
      have : (refsI os₁).toArray.size = os₁.length := by simp [refsI]
      rw [this]; exact Nat.le_trans (Nat.le_trans hos₁ (by omega)) (show 564 ≤ sizeLine by decide)
    have hDh₂ : D < h₂.objs.size := let ⟨_, _, ho, _⟩ := P₂; Heap.lt_size ho
    have hCh₂ : C < h₂.objs.size := n₂.lt
    refine list_append_plainL (P₂.keeps fun b o y => Heap.get?_push_of_some _ y) (fun h₄ P₄ s₄ => ?_) hlsz
    refine wpAny_pure ⟨[(h₂.objs.size, [((a : Int), ta), ((b : Int), tb), ((k : Int), t), (6 - (a : Int) - b - k, t')])], m₁, ⟨h₄, _, rfl, fun x o hx y => s₄.extBut x o (fun h => hx (h ▸ List.mem_cons_self)) (Heap.get?_push_of_some _ (k₂ _ _ y)), ?_, ?_, ?_⟩, ?_, hV₁, ?_⟩
    · exact hX₂ (let ⟨o, _, ho, _⟩ := P₄; ⟨o, ho⟩) (let ⟨o, _, _, ho, _⟩ := n₂; ⟨o, s₄.extBut _ _ (Ne.symm hDC) (Heap.get?_push_of_some _ ho)⟩)
    · rw [← refsI_push]; exact P₄
    · intro p hp
      rw [List.mem_singleton.mp hp]
      refine ⟨⟨_, s₄.extBut _ _ (Nat.ne_of_gt hDh₂) (Heap.get?_push_size _ rfl), rfl, 0, rfl⟩, ?_⟩
      cases hg : s₁.heap.get? h₂.objs.size with
      | none => rfl
      | some o => exact absurd (Heap.lt_size (k₂ _ _ hg)) (Nat.lt_irrefl _)
    · exact n₂.at fun o y => s₄.extBut _ _ (Ne.symm hDC) (Heap.get?_push_of_some _ y)
    · unfold ordC; rw [if_neg hk]; rfl

theorem Name4 {x : Str} {v : Value} {pos : Pos} {Q : Value → Shared → Prop} (T : Top q loose mean mg mb s.heap) (hv : bootBuiltins x = some v) (h : Q v s)
    (h1 : x ∉ startupNames := by decide +kernel) (h2 : x ∉ loose := by decide +kernel) (h3 : x ∉ (recsOf q).map (·.name) := by decide +kernel)
    (h4 : x ∉ (litsOf q).map (·.1) := by decide +kernel) (h4c : x ∉ (clssOf q loose).map (·.name) := by decide +kernel) (hn : x ≠ "__name__" := by decide +kernel)
    (hl : (env4 pm cd doc L f C).kindOf x = some .globalImplicit := by rfl) (hd : (x == ("__debug__" : Str)) = false := by decide +kernel) :
    wpAny (model pw w) A (eval (.Name x pos) (env4 pm cd doc L f C)) Q E s :=
  Name_function_global rfl hl (loadGlobal_builtin (env := env4 pm cd doc L f C) T.g (T.free x h1 h2 h3 h4 h4c) T.b ((T.builtins x hn).trans hv) h) hd

set_option maxHeartbeats 2000000 in
theorem lvB {J C : Addr} {a : Nat} {ta : Tok} {os : List (Addr × List (Int × Tok))} {R : Result → Shared → Prop} (hh : A.handled = none) (hit : IsRangeIter s.heap J 0 4 1) (hn : s.heap.Ns C m) (hP : PlainL s.heap D (refsI os).toArray) (hJC : J ≠ C) (hDJ : D ≠ J) (hDC : D ≠ C) (hos : os.length ≤ 100)
    (ha : m "a" = some (.int a ta)) (hak : a < 4)
    {h₀ : Heap} (T₀ : Top q loose mean mg mb h₀) (hk₀ : ∀ b o, h₀.get? b = some o → s.heap.get? b = some o) (hJ₀ : h₀.get? J = none) (hD₀ : h₀.get? D = none) (hC₀ : h₀.get? C = none)
    (hR : ∀ s' news m', (∀ x o, x ∉ [J, D, C] → s.heap.get? x = some o → s'.heap.get? x = some o) → s' = { s with heap := s'.heap, toks := s'.toks } → PlainL s'.heap D (refsI (os ++ news)).toArray → (∀ p ∈ news, s'.heap.IsList p.1 (intVs p.2).toArray ∧ s.heap.get? p.1 = none) →
      s'.heap.Ns C m' → (∀ y ∈ [Str.ofString "a"], m' y = m y) → news.map (fun p => p.2.map (·.1)) = (List.range 4).flatMap (ordB a) → R (.ok .next) s') :
    codeAny (model pw w) A (.compLoop (.ListComp lc4.1.1 lc4.1.2.1 lc4.1.2.2.1 lc4.1.2.2.2) 1 (.ref J) (.ref D) (env4 pm cd doc L f C)) R s := by
  dsimp only [lc4]
  refine lvl (env := env4 pm cd doc L f C) (V := [Str.ofString "a"]) (G := ordB a) (turn1 ..) rfl hh hit hn hP hJC hDJ hDC (by omega) (by rfl) rfl (by decide) ?_ ?_ hR
  rotate_left
  · have : ∀ a, a < 4 → ∀ k, k < 4 → (ordB a k).length ≤ 16 := by decide
    exact this a hak
  intro k hk s₁ m₁ t os₁ E' hn₁ hx₁ hV₁ hP₁ hos₁ hJ₁ hk₁
  have ha₁ : m₁ "a" = some (.int a ta) := (hV₁ _ (by simp)).trans ha
  refine wpAny_tests_one (wpAny_isTrue_Compare1 ?_)
  refine ld4 hn₁ hx₁ (ld4 hn₁ ha₁ (ne_int (wpAny_truthy_bool ?_)))
  have e1 : (((k : Nat) : Int) != ((a : Nat) : Int)) = !(k == a) := by
    rw [bne, show ((k : Int) == (a : Int)) = (k == a) from by rw [Bool.eq_iff_iff]; simp; omega]
  rw [e1]
  have hX₁ : ∀ {h' : Heap}, (∃ o, h'.get? D = some o) → (∃ o, h'.get? C = some o) → ∀ x ∈ [D, C], ∃ o, h'.get? x = some o := by
    intro h' h1 h2 x hx
    simp only [List.mem_cons, List.not_mem_nil, or_false] at hx
    rcases hx with rfl | rfl
    · exact h1
    · exact h2
  by_cases hkb : (k == a) = true
  · rw [if_neg (by rw [hkb]; decide)]
    exact ⟨m₁, Lv.refl (fun b o _ y => y) (hX₁ (let ⟨o, _, ho, _⟩ := hP₁; ⟨o, ho⟩) (let ⟨o, _, _, ho, _⟩ := hn₁; ⟨o, ho⟩)) hP₁, hn₁, hV₁, by unfold ordB; rw [if_pos hkb]⟩
  · rw [if_pos (by rw [Bool.not_eq_true] at hkb; rw [hkb]; decide)]
    have k₀₁ : ∀ b o, h₀.get? b = some o → s₁.heap.get? b = some o := fun b o y => hk₁ b o (by rintro rfl; rw [hJ₀] at y; cases y) (by rintro rfl; rw [hD₀] at y; cases y) (fun e => by rw [e] at y; rw [show h₀.get? (env4 pm cd doc L f C).locals = none from hC₀] at y; cases y) (hk₀ _ _ y)
    refine wpAny_bind ?_
    refine Call_ (Name4 (T₀.keeps k₀₁) (v := .type "range") (by rfl) ?_)
    refine callWith_type1 (spliced_more (wpAny_Constant_int (spliced_none ?_)))
    refine call_range_1 ?_
    refine wpAny_bind (wpAny_standAt (wpAny_bind (wpAny_pure ?_)))
    refine wpAny_bind (wpAny_holding (wpAny_pyIter_range (r := s₁.heap.objs.size) (a := 0) (b := 4) (c := 1) (Heap.get?_push_size _ rfl) (by decide) ?_))
    refine wpAny_bind (wpAny_runOwn ?_)
    dsimp only
    have hsz₂ : (s₁.heap.push { cls := .type "range", data := .fields #[.int 0 (s₁.toks + 1), .int 4 s₁.toks, .int 1 (s₁.toks + 1 + 1)] }).objs.size = s₁.heap.objs.size + 1 := Heap.size_push ..
    generalize hh₂ : (s₁.heap.push { cls := .type "range", data := .fields #[.int 0 (s₁.toks + 1), .int 4 s₁.toks, .int 1 (s₁.toks + 1 + 1)] }) = hr at *
    have kr : ∀ b o, s₁.heap.get? b = some o → hr.get? b = some o := fun b o y => hh₂ ▸ Heap.get?_push_of_some _ y
    have hit₂ : IsRangeIter (hr.push { cls := .type "range_iterator", data := .fields #[rawInt 0, rawInt (Builtin.Range.rangeSize 0 4 1), rawInt 1] }) hr.objs.size 0 4 1 := Heap.get?_push_size _ rfl
    have k₂ : ∀ b o, s₁.heap.get? b = some o → (hr.push { cls := .type "range_iterator", data := .fields #[rawInt 0, rawInt (Builtin.Range.rangeSize 0 4 1), rawInt 1] }).get? b = some o := fun b o y => Heap.get?_push_of_some _ (kr _ _ y)
    have hnew : s₁.heap.get? hr.objs.size = none := by
      cases hg : s₁.heap.get? hr.objs.size with
      | none => rfl
      | some o => exact absurd (Heap.lt_size (kr _ _ hg)) (Nat.lt_irrefl _)
    have hJD : D ≠ hr.objs.size := fun e => by obtain ⟨o, _, ho, _⟩ := hP₁; rw [e, hnew] at ho; cases ho
    have hJC' : hr.objs.size ≠ C := fun e => by obtain ⟨o, _, _, ho, _⟩ := hn₁; rw [← show hr.objs.size = (env4 pm cd doc L f C).locals from e, hnew] at ho; cases ho
    refine (fun loop => compStartN (.inr (.inr rfl)) loop (wpAny_pyIter_rangeiter hit₂ loop)) ?_
    refine lvC (m := m₁) (a := a) (b := k) (os := os₁) hh hit₂ (hn₁.at fun o y => k₂ _ _ y) (hP₁.keeps k₂) hJC' hJD hDC (by omega) ha₁ hx₁ fun s₃ news m₃ kk hs₃ hP₃ hnews hn₃ hV₃ hg₃ => ?_
    refine wpAny_pure ⟨news, m₃, ⟨s₃.heap, s₃.toks, hs₃, fun x o hx y => kk x o (fun h => ?_) (k₂ _ _ y), hX₁ (let ⟨o, _, ho, _⟩ := hP₃; ⟨o, ho⟩) (let ⟨o, _, _, ho, _⟩ := hn₃; ⟨o, ho⟩), hP₃, fun p hp => ⟨(hnews p hp).1, ?_⟩⟩, hn₃, fun y hy => ?_, ?_⟩
    · rcases List.mem_cons.mp h with e | h
      · rw [e, hnew] at y; cases y
      · exact hx h
    · cases hg : s₁.heap.get? p.1 with
      | none => rfl
      | some o => have := k₂ _ _ hg; rw [show _ = none from (hnews p hp).2] at this; cases this
    · rw [hV₃ y (by simp only [List.mem_singleton] at hy; simp [hy])]; exact hV₁ y hy
    · rw [hg₃]; unfold ordB; rw [if_neg hkb]
end
end Mine
/-! Law9 -/
namespace Mine
open PySem PySem.W PySem.Spec PySem.Calls PyProof.Rows

section
variable {w : World} {A : Around} {E : Value → Shared → Prop} {s₀ s : Shared} {m : Str → Option Value} {c1 c2 c3 c4 : Option Value} {pm cd doc : Value} {f : Addr} {mean : ExcName → Option Value} {mg mb : Str → Option Value}
variable {Q : Flow → Shared → Prop}

theorem LSt.butOff (F : LSt s₀ m c1 c2 c3 c4 s) {h' : Heap} {C : Addr} (hC : Off s₀ C) (hC₀ : s₀.heap.get? C = none) (k : ∀ b o, b ≠ C → s.heap.get? b = some o → h'.get? b = some o) : LSt s₀ m c1 c2 c3 c4 { s with heap := h' } :=
  ⟨F.kp.step fun b o y z => k b o (by rintro rfl; rw [hC₀] at y; cases y) z, F.ns.at fun o y => k _ o (Ne.symm hC.l) y, let ⟨o, ho, r⟩ := F.steps; ⟨o, k _ _ (Ne.symm hC.c1) ho, r⟩, let ⟨o, ho, r⟩ := F.pieces; ⟨o, k _ _ (Ne.symm hC.c2) ho, r⟩,
    let ⟨o, ho, r⟩ := F.lists; ⟨o, k _ _ (Ne.symm hC.c3) ho, r⟩, let ⟨o, ho, r⟩ := F.order; ⟨o, k _ _ (Ne.symm hC.c4) ho, r⟩⟩

set_option maxHeartbeats 4000000 in
theorem law_orders (hh : A.handled = none) (T : Top q loose mean mg mb s₀.heap) (F : LSt s₀ m c1 c2 c3 c4 s)
    (hQ : ∀ h' tk O os, LSt s₀ (fun y => if y = "orders" then some (.ref O) else m y) c1 c2 c3 c4 { s with heap := h', toks := tk } → Off s₀ O → (∀ b o, b ≠ s₀.heap.objs.size → s.heap.get? b = some o → h'.get? b = some o) →
      h'.IsList O (refsI os).toArray → (∀ p ∈ os, h'.IsList p.1 (intVs p.2).toArray ∧ Off s₀ p.1) → os.map (fun p => p.2.map (·.1)) = ordersP → Q .next { s with heap := h', toks := tk }) :
    wpAny (model pw w) A (exec st4.1 (envL pm cd doc s₀.heap.objs.size f)) Q E s := by
  dsimp only [st4]
  rw [exec_Assign_Name_used _ _ _ _ (by with_unfolding_all rfl)]
  refine wpAny_bind (wpAny_standAt (wpAny_bind ?_))
  show wpAny _ A (do let _ ← comprehension (.ListComp lc4.1.1 lc4.1.2.1 lc4.1.2.2.1 lc4.1.2.2.2) lc4.1.2.2.1 (envL pm cd doc s₀.heap.objs.size f) _ (newList []) false (firstIter lc4.1.2.1 (envL pm cd doc s₀.heap.objs.size f)) (some (assign (.Name "orders" _) (envL pm cd doc s₀.heap.objs.size f)))) _ _ s
  refine wpAny_bind (wpAny_mono (wpAny_comprehension_free (cl := []) (use := some (assign (.Name "orders" _) (envL pm cd doc s₀.heap.objs.size f))) (Q := fun _ s' => Q .next s') rfl (by intro _; rfl) (closureFor_none (by decide)) rfl (by decide) ?_) (fun _ s' hq => wpAny_pure (wpAny_pure hq)) fun _ _ e => e)
  refine Call_ (ldBuil (T.keeps F.kp.keep) (v := .type "range") (by rfl) ?_)
  refine callWith_type1 (spliced_more (wpAny_Constant_int (spliced_none ?_)))
  refine call_range_1 ?_
  refine wpAny_pyIter_range (r := s.heap.objs.size) (a := 0) (b := 4) (c := 1) (Heap.get?_push_size _ rfl) (by decide) ?_
  refine wpAny_newObj_type (wpAny_newFunctionEnv (by decide) (by intro y hy; simp at hy) (fun h₃ hn₃ hs₃ => ?_) rfl)
  dsimp only at hn₃ hs₃ ⊢
  simp only [Heap.size_push] at hn₃ hs₃ ⊢
  generalize hz : s.heap.objs.size = z at *
  have low : ∀ b o, s.heap.get? b = some o → @LT.lt Nat _ b z := fun b o y => hz ▸ Heap.lt_size y
  have none_of : ∀ b, @LE.le Nat _ z b → s.heap.get? b = none := fun b hb => by
    cases hg : s.heap.get? b with
    | none => rfl
    | some o => exact absurd (low _ _ hg) (Nat.not_lt.mpr hb)
  have pz : ∀ (h : Heap) (n : Nat) (o : Obj), h.objs.size = n → o.isFreed = false → (h.push o).get? n = some o := fun h n o e ho => e ▸ Heap.get?_push_size h ho
  have k₃ : ∀ b o, s.heap.get? b = some o → h₃.get? b = some o := fun b o y => hs₃.extBut b o (aN (by have := low _ _ y; omega)) (Heap.get?_push_of_some _ (Heap.get?_push_of_some _ (Heap.get?_push_of_some _ (Heap.get?_push_of_some _ y))))
  have it₃ : IsRangeIter h₃ (z + 1) 0 4 1 := hs₃.extBut _ _ (aN (by omega)) (Heap.get?_push_of_some _ (Heap.get?_push_of_some _ (pz _ _ _ (by rw [Heap.size_push, hz]) rfl)))
  have hP₃ : PlainL h₃ (z + 1 + 1) (refsI []).toArray := ⟨_, _, hs₃.extBut _ _ (aN (by omega)) (Heap.get?_push_of_some _ (pz _ _ _ (by rw [Heap.size_push, Heap.size_push, hz]) rfl)), rfl, rfl, rfl⟩
  dsimp only [lc4]
  refine (fun loop => compStartN (.inl rfl) loop (wpAny_pyIter_rangeiter it₃ loop)) ?_
  refine lvl (s := { s with heap := h₃, toks := _ }) (env := env4 pm cd doc s₀.heap.objs.size f (z + 1 + 1 + 1)) (V := []) (G := ordA) (os := []) (turn0 ..) rfl hh it₃ hn₃ hP₃ (aN (by show z + 1 ≠ z + 1 + 1 + 1; omega)) (aN (by omega)) (aN (by show z + 1 + 1 ≠ z + 1 + 1 + 1; omega)) (by simp) (by rfl) rfl (by simp) ?_ (by decide) ?_
  · intro k hk s₁ m₁ t os₁ E' hn₁ hx₁ hV₁ hP₁ hos₁ hJ₁ hk₁
    refine wpAny_tests_nil ?_
    rw [if_pos rfl]
    have k₀₁ : ∀ b o, s₀.heap.get? b = some o → s₁.heap.get? b = some o := fun b o y => by
      have h1 := low _ _ (F.kp.keep _ _ y)
      exact hk₁ b o (aN (by omega)) (aN (by omega)) (aN (b := z + 1 + 1 + 1) (by omega)) (k₃ _ _ (F.kp.keep _ _ y))
    refine wpAny_bind ?_
    refine Call_ (Name4 (T.keeps k₀₁) (v := .type "range") (by rfl) ?_)
    refine callWith_type1 (spliced_more (wpAny_Constant_int (spliced_none ?_)))
    refine call_range_1 ?_
    refine wpAny_bind (wpAny_standAt (wpAny_bind (wpAny_pure ?_)))
    refine wpAny_bind (wpAny_holding (wpAny_pyIter_range (r := s₁.heap.objs.size) (a := 0) (b := 4) (c := 1) (Heap.get?_push_size _ rfl) (by decide) ?_))
    refine wpAny_bind (wpAny_runOwn ?_)
    dsimp only
    generalize hh₂ : (s₁.heap.push { cls := .type "range", data := .fields #[.int 0 (s₁.toks + 1), .int 4 s₁.toks, .int 1 (s₁.toks + 1 + 1)] }) = hr at *
    have kr : ∀ b o, s₁.heap.get? b = some o → hr.get? b = some o := fun b o y => hh₂ ▸ Heap.get?_push_of_some _ y
    have hit₂ : IsRangeIter (hr.push { cls := .type "range_iterator", data := .fields #[rawInt 0, rawInt (Builtin.Range.rangeSize 0 4 1), rawInt 1] }) hr.objs.size 0 4 1 := Heap.get?_push_size _ rfl
    have k₂ : ∀ b o, s₁.heap.get? b = some o → (hr.push { cls := .type "range_iterator", data := .fields #[rawInt 0, rawInt (Builtin.Range.rangeSize 0 4 1), rawInt 1] }).get? b = some o := fun b o y => Heap.get?_push_of_some _ (kr _ _ y)
    have hnew : s₁.heap.get? hr.objs.size = none := by
      cases hg : s₁.heap.get? hr.objs.size with
      | none => rfl
      | some o => exact absurd (Heap.lt_size (kr _ _ hg)) (Nat.lt_irrefl _)
    have hJD : z + 1 + 1 ≠ hr.objs.size := fun e => by obtain ⟨o, _, ho, _⟩ := hP₁; rw [e, hnew] at ho; cases ho
    have hJC' : hr.objs.size ≠ z + 1 + 1 + 1 := fun e => by obtain ⟨o, _, _, ho, _⟩ := hn₁; rw [← show hr.objs.size = (env4 pm cd doc s₀.heap.objs.size f (z + 1 + 1 + 1)).locals from e, hnew] at ho; cases ho
    have hX₁ : ∀ {h' : Heap}, (∃ o, h'.get? (z + 1 + 1) = some o) → (∃ o, h'.get? (z + 1 + 1 + 1) = some o) → ∀ x ∈ [z + 1 + 1, z + 1 + 1 + 1], ∃ o, h'.get? x = some o := by
      intro h' h1 h2 x hx
      simp only [List.mem_cons, List.not_mem_nil, or_false] at hx
      rcases hx with rfl | rfl
      · exact h1
      · exact h2
    have n₀ : ∀ b, s.heap.get? b = none → s₀.heap.get? b = none := fun b hb => by
      cases hg : s₀.heap.get? b with
      | none => rfl
      | some o => rw [F.kp.keep _ _ hg] at hb; cases hb
    have n₁ : ∀ b, s₁.heap.get? b = none → s₀.heap.get? b = none := fun b hb => by
      cases hg : s₀.heap.get? b with
      | none => rfl
      | some o => rw [k₀₁ _ _ hg] at hb; cases hb
    refine (fun loop => compStartN (.inr (.inl rfl)) loop (wpAny_pyIter_rangeiter hit₂ loop)) ?_
    refine lvB (C := z + 1 + 1 + 1) (D := z + 1 + 1) (m := m₁) (a := k) (os := os₁) hh hit₂ (hn₁.at fun o y => k₂ _ _ y) (hP₁.keeps k₂) hJC' hJD (aN (by omega)) (by simp only [List.length_nil] at hos₁; omega) hx₁ hk T (fun b o y => k₂ _ _ (k₀₁ _ _ y)) (n₁ _ hnew) (n₀ _ (none_of _ (by omega))) (n₀ _ (none_of _ (by omega))) fun s₃ news m₃ kk hs₃' hP₃' hnews hn₃' hV₃ hg₃ => ?_
    refine wpAny_pure ⟨news, m₃, ⟨s₃.heap, s₃.toks, hs₃', fun x o hx y => kk x o (fun h => ?_) (k₂ _ _ y), hX₁ (let ⟨o, _, ho, _⟩ := hP₃'; ⟨o, ho⟩) (let ⟨o, _, _, ho, _⟩ := hn₃'; ⟨o, ho⟩), hP₃', fun p hp => ⟨(hnews p hp).1, ?_⟩⟩, hn₃', by simp, hg₃⟩
    · rcases List.mem_cons.mp h with e | h
      · rw [e, hnew] at y; cases y
      · exact hx h
    · cases hg : s₁.heap.get? p.1 with
      | none => rfl
      | some o => have := k₂ _ _ hg; rw [show _ = none from (hnews p hp).2] at this; cases this
  · intro s' os m' kk hs' hP' hnews hn' _ hgo
    obtain ⟨h', tk', e'⟩ : ∃ h' tk', s' = { s with heap := h', toks := tk' } := ⟨_, _, hs'⟩
    subst e'
    have k' : ∀ b o, s.heap.get? b = some o → h'.get? b = some o := fun b o y => by
      have h1 := low _ _ y
      refine kk b o (fun h => ?_) (k₃ _ _ y)
      simp only [List.mem_cons, List.not_mem_nil, or_false] at h
      rcases h with h | h | h
      · exact absurd h (aN (by omega))
      · exact absurd h (aN (by omega))
      · exact absurd h (aN (b := z + 1 + 1 + 1) (by omega))
    have F' := F.tk (tk := tk') k'
    have hoff : Off s₀ (z + 1 + 1) := F.off (none_of _ (by omega))
    have hPl := hP'.isList
    have hCL : (z + 1 + 1 + 1 : Addr) ≠ s₀.heap.objs.size := (F.off (none_of (z + 1 + 1 + 1) (by omega))).l
    have hoffp : ∀ p ∈ os, Off s₀ p.1 ∧ p.1 ≠ z + 1 + 1 + 1 := fun p hp => by
      have h1 : s.heap.get? p.1 = none := by
        cases hg : s.heap.get? p.1 with
        | none => rfl
        | some o => have := k₃ _ _ hg; rw [show h₃.get? p.1 = none from (hnews p hp).2] at this; cases this
      refine ⟨F.off h1, fun e => ?_⟩
      obtain ⟨o, _, _, ho, _⟩ := hn₃
      have := (hnews p hp).2
      rw [e] at this
      rw [show h₃.get? (z + 1 + 1 + 1) = none from this] at ho; cases ho
    show wpAny _ _ (assign _ _ (.ref (z + 1 + 1))) _ _ _
    refine wpAny_assign_Name (stLw (s := { s with heap := h', toks := tk' }) F' fun h₅ F₅ k₅ => ?_)
    refine ⟨m', hn'.at fun o y => k₅ _ o hCL y, fun h₆ s₆ => ?_⟩
    have k₆ : ∀ b o, b ≠ z + 1 + 1 + 1 → h₅.get? b = some o → h₆.get? b = some o := fun b o hb y => s₆.extBut b o hb y
    have hC₀ : s₀.heap.get? (z + 1 + 1 + 1) = none := by
      cases hg : s₀.heap.get? (z + 1 + 1 + 1) with
      | none => rfl
      | some o => have := F.kp.keep _ _ hg; rw [none_of _ (by omega)] at this; cases this
    have F₆ := F₅.butOff (F.off (none_of (z + 1 + 1 + 1) (by omega))) hC₀ k₆
    refine hQ h₆ _ (z + 1 + 1) os F₆ hoff (fun b o hb y => k₆ b o (aN (by have := low _ _ y; omega)) (k₅ b o hb (k' b o y))) (hPl.at fun o y => k₆ _ o (aN (by omega)) (k₅ _ o hoff.l y)) (fun p hp => ⟨(hnews p hp).1.at fun o y => k₆ _ o (hoffp p hp).2 (k₅ _ o (hoffp p hp).1.l y), (hoffp p hp).1⟩) hgo
end
end Mine
/-! Law10 -/
namespace Mine
open PySem PySem.W PySem.Spec PySem.Calls PyProof.Rows

/-- the members at given places -/
def pick {α : Type} (xs : List α) (d : α) (op : List Int) : List α := op.map fun k => xs.getD k.toNat d

theorem picked {α : Type} (g : α → Value) (d : α) (xs : List α) : ∀ (ol : List (Int × Tok)) (ys : List Value), Paired (fun v y => ∃ k t, v = Value.int k t ∧ (xs.map g)[k.toNat]? = some y) (intVs ol) ys → ys = (pick xs d (ol.map (·.1))).map g
  | [], ys, h => by cases h; rfl
  | (k, t) :: r, ys, h => by
    cases h with
    | cons x h =>
      have := picked g d xs r _ h
      subst this
      obtain ⟨k', t', e, hx⟩ := x
      cases e
      rw [List.getElem?_map, Option.map_eq_some_iff] at hx
      obtain ⟨z, hz, rfl⟩ := hx
      show g z :: _ = g (xs.getD k.toNat d) :: _
      rw [List.getD_eq_getElem?_getD, hz]
      rfl

section
variable {w : World} {A : Around} {E : Value → Shared → Prop} {s : Shared} {env : Env}

theorem pick_eval {X : Str} {c N : Addr} {vs : List Value} {scope : Scope} {p1 p2 p3 px pos : Pos} {iter : Expr} {Q : Value → Shared → Prop}
    (hh : A.handled = none) (hclos : closureFor scope env = pure [(X, c)]) (hcell : ∀ y ∈ scope.names, y.2 ≠ .cell) (hkind : scope.kind = .function)
    (hnames : ∀ y ∈ scope.names, y.2 = .local → scope.names.lookup y.1 = some NameKind.local) (hx : scope.names.lookup (Str.ofString "k") = some NameKind.local)
    (hX : (relabel scope env).names.lookup X = some NameKind.cell) (hXd : (X == ("__debug__" : Str)) = false) (hvs : vs.length ≤ 1000)
    (hs : ∀ x, foldedSetIterable iter env x = pure x)
    (h : wpAny (model pw w) A (eval iter env) (fun xv s₁ => ∃ a ol, xv = .ref a ∧ s₁.heap.IsList a (intVs ol).toArray ∧ ol.length ≤ 1000 ∧ (∀ p ∈ ol, 0 ≤ p.1 ∧ p.1 < (vs.length : Int)) ∧ s₁.heap.IsCell c (some (.ref N)) ∧ s₁.heap.IsList N vs.toArray ∧
      ∀ D h' tk (ys : List Value), s₁.heap.get? D = none → h'.IsList D ys.toArray → h'.PlainList D ys.toArray → Paired (fun v y => ∃ k t, v = Value.int k t ∧ vs[k.toNat]? = some y) (intVs ol) ys → (∀ b o, s₁.heap.get? b = some o → h'.get? b = some o) →
        Q (.ref D) { s₁ with heap := h', toks := tk }) E s) :
    wpAny (model pw w) A (eval (.ListComp (.Subscript (.Name X p1) (.Name "k" p2) p3) [⟨.Name "k" px, iter, [], 0⟩] scope pos) env) Q E s := by
  refine wpAny_ListComp_free (fun _ => true) (fun v y => ∃ k t, v = Value.int k t ∧ vs[k.toNat]? = some y) hclos hcell hkind hnames hx (wpAny_mono h (fun xv s₁ h₁ => ?_) fun _ _ e => e) hs
  obtain ⟨a, ol, rfl, hl, hol, hb, hc, hN, hQ⟩ := h₁
  refine wpAny_pyIter_list hl ?_
  have hNlt : a < s₁.heap.objs.size := let ⟨_, ho, _⟩ := hl; Heap.lt_size ho
  have up : ∀ b o, s₁.heap.get? b = some o → (s₁.heap.push { cls := .type "list_iterator", data := .fields #[.ref a, .int 0 0] }).get? b = some o := fun b o y => Heap.get?_push_of_some _ y
  refine ⟨s₁.heap.objs.size, _, _, _, _, _, rfl, Walks.list hh _ a (Nat.ne_of_lt hNlt) (intVs ol).toArray, by rw [List.size_toArray, intVs_len]; exact Nat.le_trans hol (by decide), ⟨⟨_, Heap.get?_push_size _ rfl, rfl, rfl⟩, hl.push _⟩, ?_, ⟨?_, ?_⟩, ?_⟩
  · intro b hb
    show b < (s₁.heap.push _).objs.size
    rw [Heap.size_push]
    rcases List.mem_cons.mp hb with rfl | hb
    · exact Nat.lt_succ_self _
    · rw [List.mem_singleton.mp hb]; exact Nat.lt_succ_of_lt hNlt
  · intro C i v s₃ m₃ E' _ _ _ _ _ _
    exact wpAny_pure ⟨rfl, Keeps.refl _⟩
  · intro C i v s₃ m₃ E' hC hv _ hn hm₃ hk _
    have kk : ∀ b o, s₁.heap.get? b = some o → s₃.heap.get? b = some o := fun b o y => hk b o (by simp only [List.mem_singleton]; exact Nat.ne_of_lt (Heap.lt_size y)) (up b o y)
    obtain ⟨p, hp, rfl⟩ : ∃ p ∈ ol, v = .int p.1 p.2 := by
      have : v ∈ intVs ol := by
        have := Array.mem_of_getElem? hv
        simpa using this
      obtain ⟨p, hp, rfl⟩ := List.mem_map.mp this
      exact ⟨p, hp, rfl⟩
    obtain ⟨h0, h1⟩ := hb p hp
    refine Subscript_ (wpAny_Name (wpAny_loadName_cell hkind hX (by show List.lookup X [(X, c)] = some c; simp) (hc.keeps kk) ?_) hXd)
    refine wpAny_Name (wpAny_loadName_local hkind (lookup_relabel_local hx) hn (v := .int p.1 p.2) hm₃ ?_)
    have hlt : p.1.toNat < vs.length := by omega
    have hxv : vs.toArray[p.1.toNat]? = some (vs[p.1.toNat]'hlt) := by simp [hlt]
    refine tail_any (Heap.IsList.typeIs (hN.at fun o y => kk _ o y)) slot_list_getitem.lookup (wpAny_getItem_list (hN.at fun o y => kk _ o y) h0 (by omega) hxv ?_) (by with_unfolding_all rfl)
    exact ⟨⟨_, _, rfl, by simp [hlt]⟩, _, _, rfl, fun _ _ y => y⟩
  · intro D h' tk ys vs' hD hDl hDp hlen hP hF hk
    have hvs : vs' = intVs ol := by simpa using list_of_nth hlen hP
    subst hvs
    rw [List.filter_eq_self.mpr (fun _ _ => rfl)] at hF
    have k' : ∀ b o, s₁.heap.get? b = some o → h'.get? b = some o := fun b o y => hk b o (by simp only [List.mem_singleton]; exact Nat.ne_of_lt (Heap.lt_size y)) (up b o y)
    refine hQ D h' tk ys.toList ?_ hDl hDp hF k'
    cases hg : s₁.heap.get? D with
    | none => rfl
    | some o => rw [up _ _ hg] at hD; cases hD
end

section
variable {w : World} {A : Around} {E : Value → Shared → Prop} {s₀ s : Shared} {m : Str → Option Value} {c1 c2 c3 c4 : Option Value} {pm cd doc : Value} {f : Addr} {mean : ExcName → Option Value} {mg mb : Str → Option Value}
variable {Q : Flow → Shared → Prop}

def st5 : { d : Stmt // rLaw.1.body[5]? = some d } := ⟨_, rfl⟩
def st6 : { d : Stmt // rLaw.1.body[6]? = some d } := ⟨_, rfl⟩
def st7 : { d : Stmt // rLaw.1.body[7]? = some d } := ⟨_, rfl⟩
def st8 : { d : Stmt // rLaw.1.body[8]? = some d } := ⟨_, rfl⟩
def st9 : { d : Stmt // rLaw.1.body[9]? = some d } := ⟨_, rfl⟩
def for7 : { d : Expr × Expr × List Stmt // forOf st7.1 = some d } := ⟨_, rfl⟩
def b0 : { d : Stmt // for7.1.2.2[0]? = some d } := ⟨_, rfl⟩
def b1 : { d : Stmt // for7.1.2.2[1]? = some d } := ⟨_, rfl⟩
def b2 : { d : Stmt // for7.1.2.2[2]? = some d } := ⟨_, rfl⟩
def b3 : { d : Stmt // for7.1.2.2[3]? = some d } := ⟨_, rfl⟩
def b4 : { d : Stmt // for7.1.2.2[4]? = some d } := ⟨_, rfl⟩
def b5 : { d : Stmt // for7.1.2.2[5]? = some d } := ⟨_, rfl⟩
def b6 : { d : Stmt // for7.1.2.2[6]? = some d } := ⟨_, rfl⟩

theorem law_many (F : LSt s₀ m c1 c2 c3 c4 s)
    (hQ : ∀ h' tk t, LSt s₀ (fun y => if y = "many" then some (.int 0 t) else m y) c1 c2 c3 c4 { s with heap := h', toks := tk } → (∀ b o, b ≠ s₀.heap.objs.size → s.heap.get? b = some o → h'.get? b = some o) → Q .next { s with heap := h', toks := tk }) :
    wpAny (model pw w) A (exec st5.1 (envL pm cd doc s₀.heap.objs.size f)) Q E s := by
  dsimp only [st5]
  refine wpAny_Assign_Name (wpAny_Constant_int ?_)
  exact stLw (s := { s with toks := _ }) (F.tk fun _ _ y => y) fun h' F' k' => hQ h' _ _ F' k'

theorem law_asked (F : LSt s₀ m c1 c2 c3 c4 s)
    (hQ : ∀ h' tk D, LSt s₀ (fun y => if y = "asked" then some (.ref D) else m y) c1 c2 c3 c4 { s with heap := h', toks := tk } → Off s₀ D → s.heap.get? D = none → PlainL h' D #[] → (∀ b o, b ≠ s₀.heap.objs.size → s.heap.get? b = some o → h'.get? b = some o) → Q .next { s with heap := h', toks := tk }) :
    wpAny (model pw w) A (exec st6.1 (envL pm cd doc s₀.heap.objs.size f)) Q E s := by
  dsimp only [st6]
  refine wpAny_Assign_Name (wpAny_List (spliced_none ⟨by decide, ?_⟩))
  have hnone : s.heap.get? s.heap.objs.size = none := by
    cases hg : s.heap.get? s.heap.objs.size with
    | none => rfl
    | some o => exact absurd (Heap.lt_size hg) (Nat.lt_irrefl _)
  have hoff := F.off hnone
  refine stLw (s := { s with heap := _, toks := _ }) (F.tk fun _ _ y => Heap.get?_push_of_some _ y) fun h' F' k' => ?_
  refine hQ h' _ _ F' hoff hnone ⟨_, _, k' _ _ hoff.l (Heap.get?_push_size _ rfl), rfl, rfl, rfl⟩ fun b o hb y => k' b o hb (Heap.get?_push_of_some _ y)

theorem Off.of_list (F : LSt s₀ m c1 c2 c3 c4 s) {a : Addr} {xs : Array Value} (h : s.heap.IsList a xs) : Off s₀ a := by
  obtain ⟨o, ho, _, n, hd⟩ := h
  have cc : ∀ {c v}, s.heap.IsCell c v → a ≠ c := by
    rintro c v ⟨o', ho', hd'⟩ rfl
    rw [ho] at ho'; cases ho'; rw [hd] at hd'; cases hd'
  refine ⟨?_, cc F.steps, cc F.pieces, cc F.lists, cc F.order⟩
  rintro rfl
  obtain ⟨o', _, _, ho', hd', _⟩ := F.ns
  rw [ho] at ho'; cases ho'; rw [hd] at hd'; cases hd'

theorem pick_mem {α : Type} {xs : List α} {d : α} {op : List Int} (hb : ∀ k ∈ op, 0 ≤ k ∧ k < (xs.length : Int)) : ∀ p ∈ pick xs d op, p ∈ xs := by
  intro p hp
  obtain ⟨k, hk, rfl⟩ := List.mem_map.mp hp
  obtain ⟨h0, h1⟩ := hb k hk
  have hlt : k.toNat < xs.length := by omega
  rw [List.getD_eq_getElem?_getD, List.getElem?_eq_getElem hlt]
  exact List.getElem_mem hlt
theorem pick_map {α β : Type} (g : α → β) (xs : List α) (d : α) (op : List Int) : (pick xs d op).map g = pick (xs.map g) (g d) op := by
  simp only [pick, List.map_map]
  refine List.map_congr_left fun k _ => ?_
  simp only [Function.comp, List.getD_eq_getElem?_getD, List.getElem?_map]
  cases xs[k.toNat]? <;> rfl
theorem sum_le_mul {α : Type} (g : α → Nat) (n : Nat) : ∀ (xs : List α), (∀ x ∈ xs, g x ≤ n) → (xs.map g).sum ≤ xs.length * n
  | [], _ => by simp
  | x :: r, h => by
    have h1 := h x List.mem_cons_self
    have h2 := sum_le_mul g n r fun y hy => h y (List.mem_cons_of_mem _ hy)
    simp only [List.map_cons, List.sum_cons, List.length_cons, Nat.succ_mul]
    omega

set_option maxHeartbeats 1000000 in
theorem turn_counts {Sg o : Addr} {ls : List (Addr × List (Str × Tok))} {ol : List (Int × Tok)} (hh : A.handled = none) (hd : A.depth + 7 < recursionLimit) (T : Top q loose mean mg mb s₀.heap) (K : Cl s₀.heap) (hmg : mg "_Accumulator" = some (.ref 101))
    (F : LSt s₀ m c1 c2 (some (.ref Sg)) (some (.ref o)) s) (hS : s.heap.IsList Sg (refsOf ls).toArray) (hSl : ∀ p ∈ ls, s.heap.IsList p.1 (strValues p.2).toArray ∧ p.2.length ≤ 100) (hls : ls.length = 4)
    (ho : s.heap.IsList o (intVs ol).toArray) (hol : ol.length = 4) (hob : ∀ p ∈ ol, 0 ≤ p.1 ∧ p.1 < 4)
    (hQ : ∀ h' tk a l, LSt s₀ (fun y => if y = "counts" then some (.ref a) else m y) c1 c2 (some (.ref Sg)) (some (.ref o)) { s with heap := h', toks := tk } → (∀ b o, b ≠ s₀.heap.objs.size → s.heap.get? b = some o → h'.get? b = some o) →
      h'.IsList a (intVs l).toArray → l.map (·.1) = (openCounts 0 (pick (ls.map fun p => p.2.map (·.1)) [] (ol.map (·.1)))).map Int.ofNat → Q .next { s with heap := h', toks := tk }) :
    wpAny (model pw w) A (exec b0.1 (envL pm cd doc s₀.heap.objs.size f)) Q E s := by
  dsimp only [b0]
  obtain ⟨fo, oo, pmo, cdo, doco, hfo, hoo, hdo, hco⟩ := T.fn rOpen.1 (List.mem_of_getElem? rOpen.2)
  refine wpAny_Assign_Name ?_
  refine Call_ (ldGlob (F.kp.keep |> fun k => (T.keeps k).g) hfo ?_)
  refine callWith_meth (h₀ := s₀.heap) (first := []) hdo hoo (spliced_more ?_)
  refine pick_eval (X := "lists") (c := s₀.heap.objs.size + 1 + 1 + 1) (N := Sg) (vs := refsOf ls) hh (by rfl) (by decide) rfl (by decide) (by rfl) (by rfl) (by decide) (by simp [refsOf, hls]) (by intro _; rfl) ?_
  refine ldCell F.order ⟨o, ol, rfl, ho, by omega, fun p hp => ?_, F.lists, hS, fun D h' tk ys hD hDl hDp hF hk => ?_⟩
  · have := hob p hp
    simp only [refsOf, List.length_map, hls]; omega
  have hys := picked (fun p : Addr × List (Str × Tok) => Value.ref p.1) (0, []) ls ol ys hF
  subst hys
  have hbk : ∀ k ∈ ol.map (·.1), 0 ≤ k ∧ k < (ls.length : Int) := fun k hk => by
    obtain ⟨p, hp, rfl⟩ := List.mem_map.mp hk
    have := hob p hp
    rw [hls]; omega
  have hmem := pick_mem (d := ((0 : Addr), ([] : List (Str × Tok)))) hbk
  have hpl : (pick ls ((0 : Addr), ([] : List (Str × Tok))) (ol.map (·.1))).length = 4 := by simp [pick, hol]
  have hsum := sum_le_mul (fun p : Addr × List (Str × Tok) => p.2.length) 100 _ fun p hp => (hSl p (hmem p hp)).2
  rw [hpl] at hsum
  have kk : ∀ b o, s₀.heap.get? b = some o → h'.get? b = some o := fun b o y => hk _ _ (F.kp.keep _ _ y)
  refine spliced_none ⟨kk, ?_⟩
  refine wpAny_call (open_call (s := { s with heap := h', toks := tk }) hh (by omega) (T.keeps kk) (K.keeps kk) hmg hDl (fun p hp => ((hSl p (hmem p hp)).1).at fun o y => hk _ o y) (by omega) (by rw [hpl]; decide) (kk _ _ hoo) hdo (hco.keeps kk) fun h₂ tk₂ a l k₂ ha hl => ?_)
  have k' : ∀ b o, s.heap.get? b = some o → h₂.get? b = some o := fun b o y => k₂ b o (hk b o y)
  have F₂ := F.tk (tk := tk₂) k'
  have hoff : Off s₀ a := Off.of_list F₂ ha
  refine stLw (s := { s with heap := h₂, toks := tk₂ }) F₂ fun h₃ F₃ k₃ => ?_
  refine hQ h₃ _ a l F₃ (fun b o hb y => k₃ b o hb (k' b o y)) (ha.at fun o y => k₃ _ o hoff.l y) ?_
  rw [hl, pick_map]
  rfl
end
end Mine
/-! Law11 -/
namespace Mine
open PySem PySem.W PySem.Spec PySem.Calls PyProof.Rows

def textP (ps : List Str) (op : List Int) : Str := Txt.join sE (pick ps sE (op.drop 1))
def rp (n : Int) : Str := ⟨(List.replicate n.toNat 41).toArray⟩
def takenT (ps : List Str) (op : List Int) (n : Int) : Str := (ps.getD (op.getD 0 0).toNat sE ++ Str.ofString ")") ++ textP ps op ++ rp n
def takenP (ps : List Str) (op : List Int) (n : Int) : Bool := checkGo (escOut false 0 (strip (takenT ps op n)).cps.toList) 0

section
variable {prog : Program} {w : World} {A : Around} {E : Value → Shared → Prop} {s : Shared}
theorem mul_par {n : Int} {t u : Tok} {Q : Value → Shared → Prop} (h0 : -1000 ≤ n) (hn : n ≤ 3) (h : ∀ t tk, Q (.str (rp n) t) { s with toks := tk }) :
    wpAny (model prog w) A (binaryOp .Mult (.str (Str.ofString ")") t) (.int n u)) Q E s := by
  rcases Int.lt_or_le n 1 with h1 | h1
  · refine P.mul_str_none h1 (by omega) ?_
    have := h s.toks (s.toks + 1)
    rwa [show rp n = Str.empty by unfold rp; rw [show n.toNat = 0 by omega]; rfl] at this
  · have : n = 1 ∨ n = 2 ∨ n = 3 := by omega
    rcases this with rfl | rfl | rfl
    · exact P.mul_str (by decide) (by decide) (by decide) (h t s.toks)
    · exact P.mul_str (by decide) (by decide) (by decide) ⟨by decide, h _ _⟩
    · exact P.mul_str (by decide) (by decide) (by decide) ⟨by decide, h _ _⟩

theorem sum_intVs {a : Addr} {l : List (Int × Tok)} {Q : Value → Shared → Prop} (hh : A.handled = none) (hl : s.heap.IsList a (intVs l).toArray)
    (h : ∀ h' tk t', (∀ b o, s.heap.get? b = some o → h'.get? b = some o) → Q (.int (l.map (·.1)).sum t') { s with heap := h', toks := tk }) :
    wpAny (model prog w) A (call (.builtin "sum") [.ref a]) Q E s := by
  have e : (intVs l).toArray = intItems l.toArray := by simp [intVs, intItems]
  rw [e] at hl
  refine sum_intListG hh hl fun h' tk t' hk => ?_
  have := h h' tk t' hk
  rw [preSum_eq, List.take_of_length_le (by simp)]
  exact this

def allPos (ns : List Int) : Bool := ns.all fun x => decide (0 < x)

theorem min_intVs {a : Addr} {l : List (Int × Tok)} {Q : Value → Shared → Prop} (hh : A.handled = none) (hl : s.heap.IsList a (intVs l).toArray) (hne : 0 < l.length)
    (h : ∀ h' tk M t', (∀ b o, s.heap.get? b = some o → h'.get? b = some o) → decide (0 < M) = allPos (l.map (·.1)) → Q (.int M t') { s with heap := h', toks := tk }) :
    wpAny (model prog w) A (call (.builtin "min") [.ref a]) Q E s := by
  have e : (intVs l).toArray = intItems l.toArray := by simp [intVs, intItems]
  rw [e] at hl
  refine min_intList hh hl (by simpa using hne) fun v h' tk hv hk => ?_
  obtain ⟨t, rfl⟩ := intItems_at hv
  obtain ⟨h1, h2⟩ := argBest_lt (numAt l.toArray) (l.toArray.size - 1)
  refine h h' tk _ t hk ?_
  generalize argBest (fun i j => decide (numAt l.toArray i < numAt l.toArray j)) (l.toArray.size - 1) = b at *
  have hb : b < l.length := by simp at h1; omega
  have key : ∀ j (hj : j < l.length), numAt l.toArray j = (l[j]'hj).1 := fun j hj => by simp [numAt, hj]
  rw [key b hb] at h2 ⊢
  rw [Bool.eq_iff_iff, decide_eq_true_eq, allPos, List.all_eq_true]
  constructor
  · intro hp x hx
    obtain ⟨p, hp', rfl⟩ := List.mem_map.mp hx
    obtain ⟨j, hj, rfl⟩ := List.mem_iff_getElem.mp hp'
    have := h2 j (by simp; omega)
    rw [key j hj] at this
    simp only [decide_eq_true_eq]; omega
  · intro hp
    simpa using hp _ (List.mem_map_of_mem (List.getElem_mem hb))
end

section
variable {w : World} {A : Around} {E : Value → Shared → Prop} {s₀ s : Shared} {m : Str → Option Value} {c1 c2 c3 c4 : Option Value} {pm cd doc : Value} {f : Addr} {mean : ExcName → Option Value} {mg mb : Str → Option Value}
variable {Q : Flow → Shared → Prop}

set_option maxHeartbeats 1000000 in
theorem turn_text {P o : Addr} {pl : List (Str × Tok)} {ol : List (Int × Tok)} (hh : A.handled = none)
    (F : LSt s₀ m c1 (some (.ref P)) c3 (some (.ref o)) s) (hP : s.heap.IsList P (strValues pl).toArray) (hpz : pl.length = 4) (hpl : ∀ p ∈ pl, p.1.length ≤ 10)
    (ho : s.heap.IsList o (intVs ol).toArray) (hol : ol.length = 4) (hob : ∀ p ∈ ol, 0 ≤ p.1 ∧ p.1 < 4)
    (hQ : ∀ h' tk t, LSt s₀ (fun y => if y = "text" then some (.str (textP (pl.map (·.1)) (ol.map (·.1))) t) else m y) c1 (some (.ref P)) c3 (some (.ref o)) { s with heap := h', toks := tk } → (∀ b o, b ≠ s₀.heap.objs.size → s.heap.get? b = some o → h'.get? b = some o) →
      Q .next { s with heap := h', toks := tk }) :
    wpAny (model pw w) A (exec b1.1 (envL pm cd doc s₀.heap.objs.size f)) Q E s := by
  dsimp only [b1]
  refine wpAny_Assign_Name ?_
  refine MethodCall_ (Constant_str (GM.join ?_))
  refine callWith_method1 (spliced_more ?_)
  refine pick_eval (X := "pieces") (c := s₀.heap.objs.size + 1 + 1) (N := P) (vs := strValues pl) hh (by rfl) (by decide) rfl (by decide) (by rfl) (by rfl) (by decide) (by simp [strValues, hpz]) (by intro _; rfl) ?_
  have hsz : (intVs ol).toArray.size ≤ sizeLine := by rw [List.size_toArray, intVs_len, hol]; decide
  refine wpAny_Subscript_list_slice (ldCell (s := { s with toks := _ }) F.order (evalPart_some_step (wpAny_Constant_int (evalPart_none_step ⟨o, (intVs ol).toArray, some ((1 : Nat) : Int), none, rfl, ho, hsz, .int _ _, .none, ?_⟩))))
  rw [pick_drop]
  have e1 : (intVs ol).toArray.toList.drop 1 = intVs (ol.drop 1) := by simp [intVs]
  rw [e1]
  generalize hh₁ : (s.heap.push { cls := .type "slice", data := .fields #[.int 1 (s.toks + 1), .none, .none] }).push { cls := .type "list", data := .seq (intVs (ol.drop 1)).toArray } = h₁
  have k₁ : ∀ b o, s.heap.get? b = some o → h₁.get? b = some o := fun b o y => hh₁ ▸ Heap.get?_push_of_some _ (Heap.get?_push_of_some _ y)
  have hD₁ : h₁.IsList (s.heap.objs.size + 1) (intVs (ol.drop 1)).toArray := by
    have := Heap.get?_push_size (s.heap.push { cls := .type "slice", data := .fields #[.int 1 (s.toks + 1), .none, .none] }) (o := { cls := .type "list", data := .seq (intVs (ol.drop 1)).toArray }) rfl
    rw [Heap.size_push] at this
    exact hh₁ ▸ ⟨_, this, rfl, 0, rfl⟩
  show ∃ a ol', Value.ref (s.heap.objs.size + 1) = .ref a ∧ h₁.IsList a (intVs ol').toArray ∧ _
  refine ⟨_, ol.drop 1, rfl, hD₁, by rw [List.length_drop]; omega, fun p hp => ?_, F.pieces.keeps k₁, hP.at fun o y => k₁ _ o y, fun D h' tk ys hD hDl hDp hF hk => ?_⟩
  · have := hob p (List.mem_of_mem_drop hp)
    simp only [strValues, List.length_map, hpz]; omega
  have hk : ∀ b o, h₁.get? b = some o → h'.get? b = some o := hk
  have hys := picked (fun p : Str × Tok => Value.str p.1 p.2) (sE, 0) pl (ol.drop 1) ys hF
  subst hys
  have hbk : ∀ k ∈ (ol.drop 1).map (·.1), 0 ≤ k ∧ k < (pl.length : Int) := fun k hk => by
    obtain ⟨p, hp, rfl⟩ := List.mem_map.mp hk
    have := hob p (List.mem_of_mem_drop hp)
    rw [hpz]; omega
  have hmem := pick_mem (d := (sE, (0 : Tok))) hbk
  have htx : (pick pl (sE, (0 : Tok)) ((ol.drop 1).map (·.1))).map (·.1) = pick (pl.map (·.1)) sE ((ol.map (·.1)).drop 1) := by
    rw [pick_map, List.map_drop]
  refine spliced_none ?_
  refine SC.join hDl htx ?_ fun t' k => ?_
  · unfold JoinOk
    rw [Bool.not_eq_true']
    refine StrLaws.joinFits (B := 10) (fun y hy => ?_) ?_
    · rw [← htx] at hy
      obtain ⟨p, hp, rfl⟩ := List.mem_map.mp hy
      exact hpl p (hmem p hp)
    · have e0 : (Str.ofString "").length = 0 := rfl
      have : (pick (pl.map (·.1)) sE ((ol.map (·.1)).drop 1)).length ≤ 4 := by simp only [pick, List.length_map, List.length_drop]; omega
      rw [e0]; omega
  · have k' : ∀ b o, s.heap.get? b = some o → h'.get? b = some o := fun b o y => hk b o (k₁ b o y)
    exact stLw (s := { s with heap := h', toks := k }) (F.tk k') fun h₃ F₃ k₃ => hQ h₃ _ t' F₃ (fun b o hb y => k₃ b o hb (k' b o y))

theorem textP_len {ps : List Str} {op : List Int} (hp : ∀ y ∈ ps, y.length ≤ 10) (ho : op.length ≤ 4) : (textP ps op).length ≤ 40 := by
  unfold textP
  rw [show Txt.join sE (pick ps sE (op.drop 1)) = Str.join sE _ from StrLaws.glued_eq_join _ _]
  refine Nat.le_trans (StrLaws.join_length_le _ _) ?_
  have e0 : (sE : Str).length = 0 := rfl
  have h1 : (pick ps sE (op.drop 1)).length ≤ 4 := by simp only [pick, List.length_map, List.length_drop]; omega
  have h2 := sum_le_mul (fun y : Str => y.length) 10 (pick ps sE (op.drop 1)) (fun y hy => by
    obtain ⟨k, _, rfl⟩ := List.mem_map.mp hy
    rw [List.getD_eq_getElem?_getD]
    cases hg : ps[k.toNat]? with
    | none => exact Nat.zero_le _
    | some z => exact hp z (List.mem_of_getElem? hg))
  rw [e0]
  omega

set_option maxHeartbeats 2000000 in
theorem turn_taken {S P o : Addr} {sl : List (Int × Tok)} {pl : List (Str × Tok)} {ol : List (Int × Tok)} {tt : Tok} (hh : A.handled = none) (hd : A.depth + 6 < recursionLimit) (T : Top q loose mean mg mb s₀.heap)
    (F : LSt s₀ m (some (.ref S)) (some (.ref P)) c3 (some (.ref o)) s) (hS : s.heap.IsList S (intVs sl).toArray) (hn : -900 ≤ (sl.map (·.1)).sum ∧ (sl.map (·.1)).sum ≤ 4) (hP : s.heap.IsList P (strValues pl).toArray) (hpz : pl.length = 4) (hpl : ∀ p ∈ pl, p.1.length ≤ 10)
    (ho : s.heap.IsList o (intVs ol).toArray) (hol : ol.length = 4) (hob : ∀ p ∈ ol, 0 ≤ p.1 ∧ p.1 < 4) (hmt : m "text" = some (.str (textP (pl.map (·.1)) (ol.map (·.1))) tt))
    (hQ : ∀ s', LSt s₀ (fun y => if y = "taken" then some (.bool (takenP (pl.map (·.1)) (ol.map (·.1)) ((sl.map (·.1)).sum - 1))) else m y) (some (.ref S)) (some (.ref P)) c3 (some (.ref o)) s' → (∀ b o, b ≠ s₀.heap.objs.size → s.heap.get? b = some o → s'.heap.get? b = some o) →
      Q .next s') :
    wpAny (model pw w) A (exec b2.1 (envL pm cd doc s₀.heap.objs.size f)) Q E s := by
  dsimp only [b2]
  have T₁ := T.keeps F.kp.keep
  obtain ⟨fc, oc, pmc, cdc, docc, hfc, hoc, hdc, hcc⟩ := T.fn rCheck.1 (List.mem_of_getElem? rCheck.2)
  obtain ⟨fs, os, pms, cds, docs, hfs, hos, hds, hcs⟩ := T.fn rStrip.1 (List.mem_of_getElem? rStrip.2)
  have hoi : ∃ t, (intVs ol).toArray[(0 : Int).toNat]? = some (.int ((ol.map (·.1)).getD 0 0) t) := by
    cases ol with
    | nil => simp at hol
    | cons p r => exact ⟨p.2, rfl⟩
  obtain ⟨t0, hoi⟩ := hoi
  have ho0 : 0 ≤ (ol.map (·.1)).getD 0 0 ∧ (ol.map (·.1)).getD 0 0 < 4 := by
    cases ol with
    | nil => simp at hol
    | cons p r => exact hob p List.mem_cons_self
  generalize hx0 : (ol.map (·.1)).getD 0 0 = x0 at *
  have hpi : ∃ t, (strValues pl).toArray[x0.toNat]? = some (.str ((pl.map (·.1)).getD x0.toNat sE) t) := by
    have hlt : x0.toNat < pl.length := by omega
    exact ⟨(pl[x0.toNat]'hlt).2, by simp [strValues, hlt]⟩
  obtain ⟨t1, hpi⟩ := hpi
  have hy0 : ((pl.map (·.1)).getD x0.toNat sE).length ≤ 10 := by
    rw [List.getD_eq_getElem?_getD]
    cases hg : (pl.map (·.1))[x0.toNat]? with
    | none => exact Nat.zero_le _
    | some z =>
      obtain ⟨p, hp, rfl⟩ := List.mem_map.mp (List.mem_of_getElem? hg)
      exact hpl p hp
  generalize hy0e : (pl.map (·.1)).getD x0.toNat sE = y0 at *
  have htl : (textP (pl.map (·.1)) (ol.map (·.1))).length ≤ 40 := textP_len (fun y hy => by obtain ⟨p, hp, rfl⟩ := List.mem_map.mp hy; exact hpl p hp) (by simp [hol])
  have hTk : takenT (pl.map (·.1)) (ol.map (·.1)) ((sl.map (·.1)).sum - 1) = (y0 ++ Str.ofString ")") ++ textP (pl.map (·.1)) (ol.map (·.1)) ++ rp ((sl.map (·.1)).sum - 1) := by
    unfold takenT; rw [hx0, hy0e]
  generalize htx : textP (pl.map (·.1)) (ol.map (·.1)) = tx at *
  have hl1 : (Str.ofString ")").length = 1 := rfl
  have hrl : (rp ((sl.map (·.1)).sum - 1)).length ≤ 4 := by
    unfold rp; show (List.replicate _ 41).toArray.size ≤ 4
    rw [List.size_toArray, List.length_replicate]; omega
  refine wpAny_Assign_Name ?_
  refine Call_ (ldGlob T₁.g hfc ?_)
  refine callWith_meth (h₀ := s₀.heap) (first := []) hdc hoc (spliced_more ?_)
  refine wpAny_BinOp (wpAny_BinOp (wpAny_BinOp ?_))
  refine Subscript_ (ldCell F.pieces (Subscript_ (ldCell F.order (wpAny_Constant_int ?_))))
  refine tail_any (ho.at (h' := s.heap) fun o y => y).typeIs slot_list_getitem.lookup (wpAny_getItem_list ho (by decide) (by decide) hoi ?_) (by with_unfolding_all rfl)
  refine tail_any hP.typeIs slot_list_getitem.lookup (wpAny_getItem_list hP ho0.1 (by omega) hpi ?_) (by with_unfolding_all rfl)
  refine Constant_str (add_str (fun t2 k2 => ?_) (by rw [hl1]; exact Nat.le_trans (m := 11) (by omega) (by decide)))
  have hl2 : (y0 ++ Str.ofString ")").length ≤ 11 := by rw [PySem.Str.length_append, hl1]; omega
  refine ldLw (s := { s with toks := k2 }) (F.tk fun _ _ y => y) hmt (add_str (fun t3 k3 => ?_) (Nat.le_trans (m := 51) (by omega) (by decide)))
  have hl3 : (y0 ++ Str.ofString ")" ++ tx).length ≤ 51 := by rw [PySem.Str.length_append]; omega
  refine wpAny_BinOp (Constant_str (wpAny_BinOp ?_))
  refine Call_ (ldBuil (s := { s with toks := _ }) (T₁) (v := .builtin "sum") boot_sum ?_)
  refine callWith_builtin1 (spliced_more (ldCell (s := { s with toks := _ }) F.steps (spliced_none ?_)))
  refine sum_intVs hh hS fun h₄ k4 t4 k₄ => ?_
  refine wpAny_Constant_int (sub_int ?_)
  refine mul_par (by omega) (by omega) fun t5 k5 => ?_
  refine add_str (fun t6 k6 => ?_) (Nat.le_trans (m := 55) (by omega) (by decide))
  rw [← hTk]
  have kk : ∀ b o, s₀.heap.get? b = some o → h₄.get? b = some o := fun b o y => k₄ _ _ (F.kp.keep _ _ y)
  refine spliced_none ⟨kk, ?_⟩
  have hTl : (takenT (pl.map (·.1)) (ol.map (·.1)) ((sl.map (·.1)).sum - 1)).length ≤ 1000 := by
    rw [hTk, PySem.Str.length_append]; omega
  refine wpAny_call (check_call (strip := Mine.strip) (s := { s with heap := h₄, toks := k6 }) hh (by omega) (T.keeps kk) (fun fs' hfs' => ?_) hTl (kk _ _ hoc) hdc (hcc.keeps kk) fun s₇ k₇ => ?_)
  · intro A' s' vs R hh' hd' T' hpre hR
    obtain ⟨x, t, rfl, hx⟩ := hpre
    obtain ⟨fs₂, os₂, pms₂, cds₂, docs₂, hfs₂, hos₂, hds₂, hcs₂⟩ := T'.fn rStrip.1 (List.mem_of_getElem? rStrip.2)
    obtain rfl : fs₂ = fs' := by
      have := hfs₂.symm.trans hfs'
      exact Value.ref.inj (Option.some.inj this)
    exact strip_call hh' hd' T' hx hos₂ hds₂ hcs₂ fun s'' t' k => hR s'' _ k (fun x' t'' e => by cases e; exact ⟨t', rfl⟩)
  · have K₄ : Kp s { s with heap := h₄, toks := k6 } := (Kp.refl s).step fun b o y _ => k₄ _ _ y
    have F₇ := F.to (K₄.trans k₇)
    refine stLw F₇ fun h₈ F₈ k₈ => hQ _ F₈ (fun b o hb y => k₈ b o hb ((K₄.trans k₇).keep _ _ y))
end
end Mine
/-! Law12 -/
namespace Mine
open PySem PySem.W PySem.Spec PySem.Calls PyProof.Rows

def sumTo (ss : List Int) (op : List Int) (k : Int) : Int := (pick ss 0 (op.take k.toNat)).sum
def sumsP (ss : List Int) (op : List Int) : List Int := [1, 2, 3, 4].map (sumTo ss op)

theorem ints_of_range {G : Int → Int} : ∀ (n : Nat) (vs ys : List Value) (a : Int), vs.length = n → (∀ (j : Nat) v, vs[j]? = some v → ∃ t, v = Value.int (a + j * 1) t) → Paired (fun v y => ∃ k t t', v = Value.int k t ∧ y = .int (G k) t') vs ys →
    ∃ l', ys = intVs l' ∧ l'.map (·.1) = (List.range n).map fun j => G (a + (j : Nat))
  | 0, [], ys, _, _, _, h => by cases h; exact ⟨[], rfl, rfl⟩
  | n + 1, v :: vs, ys, a, hl, hv, h => by
    cases h with
    | cons x h =>
      obtain ⟨t0, h0⟩ := hv 0 v rfl
      obtain ⟨l', rfl, e⟩ := ints_of_range n vs _ (a + 1) (by simpa using hl) (fun j v' h' => by
        obtain ⟨t, ht⟩ := hv (j + 1) v' (by simpa using h')
        exact ⟨t, by rw [ht]; congr 1; push_cast; omega⟩) h
      obtain ⟨k, t, t', rfl, rfl⟩ := x
      cases h0
      refine ⟨(G (a + ((0 : Nat) : Int) * 1), t') :: l', rfl, ?_⟩
      rw [List.map_cons, e, List.range_succ_eq_map, List.map_cons, List.map_map]
      simp only [Int.mul_one]
      congr 1
      refine List.map_congr_left fun j _ => ?_
      simp only [Function.comp]
      congr 1; push_cast; omega
  | 0, _ :: _, _, _, hl, _, _ => by simp at hl
  | n + 1, [], _, _, hl, _, _ => by simp at hl

section
variable {w : World} {A : Around} {E : Value → Shared → Prop} {s₀ s : Shared} {m : Str → Option Value} {c1 c2 c3 c4 : Option Value} {pm cd doc : Value} {f : Addr} {mean : ExcName → Option Value} {mg mb : Str → Option Value}
variable {Q : Flow → Shared → Prop}

set_option maxHeartbeats 2000000 in
theorem turn_sums {S o : Addr} {sl : List (Int × Tok)} {ol : List (Int × Tok)} (hh : A.handled = none) (T : Top q loose mean mg mb s₀.heap)
    (F : LSt s₀ m (some (.ref S)) c2 c3 (some (.ref o)) s) (hS : s.heap.IsList S (intVs sl).toArray) (hsz : sl.length = 4)
    (ho : s.heap.IsList o (intVs ol).toArray) (hol : ol.length = 4) (hob : ∀ p ∈ ol, 0 ≤ p.1 ∧ p.1 < 4)
    (hQ : ∀ h' tk D l, LSt s₀ (fun y => if y = "sums" then some (.ref D) else m y) (some (.ref S)) c2 c3 (some (.ref o)) { s with heap := h', toks := tk } → (∀ b o, b ≠ s₀.heap.objs.size → s.heap.get? b = some o → h'.get? b = some o) →
      h'.IsList D (intVs l).toArray → l.map (·.1) = sumsP (sl.map (·.1)) (ol.map (·.1)) → Q .next { s with heap := h', toks := tk }) :
    wpAny (model pw w) A (exec b3.1 (envL pm cd doc s₀.heap.objs.size f)) Q E s := by
  dsimp only [b3]
  refine wpAny_Assign_ListComp_free (cl := [(Str.ofString "steps", s₀.heap.objs.size + 1), (Str.ofString "order", s₀.heap.objs.size + 1 + 1 + 1 + 1)]) (fun _ => true) (fun v y => ∃ k t t', v = Value.int k t ∧ y = .int (sumTo (sl.map (·.1)) (ol.map (·.1)) k) t') (by with_unfolding_all rfl) (by rfl) (by decide) rfl (by decide) (by rfl) (by rfl) (by rfl) ?_
  refine Call_ (ldBuil (T.keeps F.kp.keep) (v := .type "range") (by rfl) ?_)
  refine PyProof.Rows.callWith_type1 ?_
  refine spliced_more ?_
  refine wpAny_Constant_int ?_
  refine spliced_more ?_
  refine wpAny_Constant_int ?_
  refine spliced_none ?_
  refine call_range_2 ?_
  refine wpAny_pyIter_range (r := s.heap.objs.size) (a := 1) (b := 5) (c := 1) (Heap.get?_push_size _ rfl) (by decide) ?_
  dsimp only
  generalize hh₁ : s.heap.push { cls := .type "range", data := .fields #[.int 1 s.toks, .int 5 (s.toks + 1), .int 1 (s.toks + 1 + 1)] } = h₁
  have k₁ : ∀ b o, s.heap.get? b = some o → h₁.get? b = some o := fun b o y => hh₁ ▸ Heap.get?_push_of_some _ y
  have hz₁ : h₁.objs.size = s.heap.objs.size + 1 := by rw [← hh₁, Heap.size_push]
  have hlow := F.low
  have up : ∀ b o, h₁.get? b = some o → (h₁.push { cls := .type "range_iterator", data := .fields #[rawInt 1, rawInt (Builtin.Range.rangeSize 1 5 1), rawInt 1] }).get? b = some o := fun b o y => Heap.get?_push_of_some _ y
  refine ⟨h₁.objs.size, _, _, 4, _, _, m, rfl, Walks.range hh _ 1 1 4, by decide, Heap.get?_push_size _ rfl, ?_, ?_, ?_, ⟨?_, ?_⟩, ?_⟩
  · intro b hb
    show b < (h₁.push _).objs.size
    rw [Heap.size_push, List.mem_singleton.mp hb]
    exact Nat.lt_succ_self _
  · simp only [List.mem_singleton]
    show s₀.heap.objs.size ≠ h₁.objs.size
    rw [hz₁]; exact aN (by omega)
  · exact F.ns.at fun o y => up _ _ (k₁ _ o y)
  · intro C i v s₃ m₃ E' _ _ _ _ _ _
    exact wpAny_pure ⟨rfl, Keeps.refl _⟩
  · intro C i v s₃ m₃ E' hC hv _ hn hm₃ hk _
    obtain ⟨t, rfl⟩ := hv
    have kk : ∀ b o, s.heap.get? b = some o → s₃.heap.get? b = some o := fun b o y => hk b o (by simp only [List.mem_singleton]; rw [hz₁]; exact aN (Nat.ne_of_lt (Nat.lt_succ_of_lt (Heap.lt_size y)))) (up _ _ (k₁ _ o y))
    generalize hkv : (1 : Int) + (i : Int) * 1 = kv at *
    have hkv0 : 0 ≤ kv := by omega
    refine Call_ (Name_function_global rfl (by rfl) (loadGlobal_builtin (T.keeps fun b o y => kk _ _ (F.kp.keep _ _ y)).g (T.free "sum" (by decide +kernel) (by decide +kernel) (by decide +kernel) (by decide +kernel) (by decide +kernel)) (T.keeps fun b o y => kk _ _ (F.kp.keep _ _ y)).b ((T.builtins "sum" (by decide +kernel)).trans boot_sum) ?_))
    refine callWith_builtin1 (spliced_more ?_)
    refine pick_eval (X := "steps") (c := s₀.heap.objs.size + 1) (N := S) (vs := intVs sl) hh (by rfl) (by decide) rfl (by decide) (by rfl) (by rfl) (by decide) (by rw [intVs_len, hsz]; decide) (by intro _; rfl) ?_
    have hszo : (intVs ol).toArray.size ≤ sizeLine := by rw [List.size_toArray, intVs_len, hol]; decide
    refine wpAny_Subscript_list_slice (wpAny_Name (wpAny_loadName_cell rfl (by rfl) (by rfl) (F.order.keeps kk) (evalPart_none_step (evalPart_some_step (wpAny_Name (wpAny_loadName_local rfl (by rfl) hn (v := .int kv t) hm₃ ⟨o, (intVs ol).toArray, none, some ((kv.toNat : Nat) : Int), rfl, ho.at fun o y => kk _ o y, hszo, .none, ?_, ?_⟩))))))
    · rw [Int.toNat_of_nonneg hkv0]; exact .int _ _
    rw [pick_take]
    have e1 : (intVs ol).toArray.toList.take kv.toNat = intVs (ol.take kv.toNat) := by simp [intVs]
    rw [e1]
    generalize hh₂ : (s₃.heap.push { cls := .type "slice", data := .fields #[.none, .int kv t, .none] }).push { cls := .type "list", data := .seq (intVs (ol.take kv.toNat)).toArray } = h₂
    have k₂ : ∀ b o, s₃.heap.get? b = some o → h₂.get? b = some o := fun b o y => hh₂ ▸ Heap.get?_push_of_some _ (Heap.get?_push_of_some _ y)
    have hD₂ : h₂.IsList (s₃.heap.objs.size + 1) (intVs (ol.take kv.toNat)).toArray := by
      have := Heap.get?_push_size (s₃.heap.push { cls := .type "slice", data := .fields #[.none, .int kv t, .none] }) (o := { cls := .type "list", data := .seq (intVs (ol.take kv.toNat)).toArray }) rfl
      rw [Heap.size_push] at this
      exact hh₂ ▸ ⟨_, this, rfl, 0, rfl⟩
    show ∃ a ol', Value.ref (s₃.heap.objs.size + 1) = .ref a ∧ h₂.IsList a (intVs ol').toArray ∧ _
    refine ⟨_, ol.take kv.toNat, rfl, hD₂, by rw [List.length_take]; omega, fun p hp => ?_, F.steps.keeps fun b o y => k₂ _ _ (kk _ _ y), hS.at fun o y => k₂ _ o (kk _ o y), fun D h' tk ys hD hDl hDp hF hk' => ?_⟩
    · have := hob p (List.mem_of_mem_take hp)
      rw [intVs_len, hsz]; omega
    have hk' : ∀ b o, h₂.get? b = some o → h'.get? b = some o := hk'
    have hys := picked (fun p : Int × Tok => Value.int p.1 p.2) (0, 0) sl (ol.take kv.toNat) ys hF
    subst hys
    refine spliced_none ?_
    have hDl' : h'.IsList D (intVs (pick sl ((0 : Int), (0 : Tok)) ((ol.take kv.toNat).map fun p => p.1))).toArray := hDl
    refine sum_intVs hh hDl' fun h₃ tk₃ t₃ k₃ => ?_
    refine ⟨⟨kv, t, t₃, rfl, ?_⟩, h₃, tk₃, rfl, fun b o y => k₃ _ _ (hk' _ _ (k₂ _ _ y))⟩
    unfold sumTo
    rw [pick_map, List.map_take]
  · intro D h' tk ys vs hD hDl hDp hlen hP hF hn' hk
    rw [List.filter_eq_self.mpr (fun _ _ => rfl)] at hF
    obtain ⟨l', hys, hl'⟩ := ints_of_range 4 vs ys.toList 1 hlen hP hF
    have hys' : ys = (intVs l').toArray := by rw [← hys]
    subst hys'
    have k' : ∀ b o, b ≠ s₀.heap.objs.size → s.heap.get? b = some o → h'.get? b = some o := fun b o hb y => hk b o hb (by simp only [List.mem_singleton]; rw [hz₁]; exact aN (Nat.ne_of_lt (Nat.lt_succ_of_lt (Heap.lt_size y)))) (up _ _ (k₁ _ o y))
    have cc : ∀ {c v}, c ≠ s₀.heap.objs.size → s.heap.IsCell c v → h'.IsCell c v := fun hc ⟨o, ho, r⟩ => ⟨o, k' _ _ hc ho, r⟩
    refine hQ h' tk D l' ⟨F.kp.step fun b o y z => k' b o (Nat.ne_of_lt (Heap.lt_size y)) z, hn', cc (aN (by omega)) F.steps, cc (aN (by omega)) F.pieces, cc (aN (by omega)) F.lists, cc (aN (by omega)) F.order⟩ k' hDl ?_
    rw [hl']
    rfl
end
end Mine
/-! Law13 -/
namespace Mine
open PySem PySem.W PySem.Spec PySem.Calls PyProof.Rows PySem.SeqAt

def boolVs (bs : List Bool) : List Value := bs.map .bool
theorem boolVs_push (bs : List Bool) (b : Bool) : (boolVs bs).toArray.push (.bool b) = (boolVs (bs ++ [b])).toArray := by simp [boolVs]
def askP (st tk : Bool) (cs ss : List Int) : Bool := ((st == allPos ss) && (tk == allPos ss)) && ((cs == ss) || !st)

theorem all_ints {cl sl : List (Int × Tok)} {n : Nat} (h1 : cl.length = n) (h2 : sl.length = n) :
    ((List.range n).all fun j => ((cl.map (·.1)).getD j 0 == (sl.map (·.1)).getD j 0)) = (cl.map (·.1) == sl.map (·.1)) := by
  rw [Bool.eq_iff_iff, List.all_eq_true, beq_iff_eq]
  constructor
  · intro h
    apply List.ext_getElem (by simp [h1, h2])
    intro j hj hj'
    have := h j (by simp at hj ⊢; omega)
    rw [beq_iff_eq, List.getD_eq_getElem?_getD, List.getD_eq_getElem?_getD, List.getElem?_eq_getElem hj, List.getElem?_eq_getElem hj'] at this
    exact this
  · intro h j _
    rw [h]; simp

section
variable {prog : Program} {w : World} {A : Around} {E : Value → Shared → Prop} {s : Shared}
theorem mul_two {l : Addr} {b : Bool} {k : Nat} {u : Tok} {Q : Value → Shared → Prop} (hl : s.heap.get? l = some { cls := .type "list", dict := none, data := .seq #[.bool b] k, slots := #[] })
    (h : Q (.ref s.heap.objs.size) { s with heap := s.heap.push { cls := .type "list", data := .seq #[.bool b, .bool b] } }) :
    wpAny (model prog w) A (binaryOp .Mult (.ref l) (.int 2 u)) Q E s :=
  wpAny_binaryOp_repeat_ref (T := "list") (U := "int") (by decide) ⟨_, hl, rfl⟩ (fun s' => typeIs_int s' 2 u) noFill_list_mul F.fills_int_mul F.slot_int_rmul repeat_list F.slot_int_index.lookup
    (call_meets F.slot_int_rmul (typeIs_int s 2 u) F.entry_int_rmul (F.args_int_rmul_2 _ _) (int___rmul___int_list 2 u l #[.bool b] k)
      ⟨hl, rfl, ⟨_, hl, rfl⟩, call_meets F.slot_list_mul ⟨_, hl, rfl⟩ F.entry_list_mul (F.args_list_mul_2 _ _)
        (AutoListH.list___mul___list_int_3 l #[.bool b] k 2 u (by decide) (by show ¬ (1 * 2 > (2 ^ 63 - 1) / 8); decide) (by show ¬ (Builtin.List.listTooLong (1 * 2) = true); decide))
        ⟨hl, h⟩⟩)

theorem eq_ints {a b : Addr} {cl sl : List (Int × Tok)} {Q : Value → Shared → Prop} (hu : A.units < cLine) (ha : s.heap.IsList a (intVs cl).toArray) (hb : s.heap.IsList b (intVs sl).toArray) (hn : cl.length = sl.length)
    (h : Q (.bool (cl.map (·.1) == sl.map (·.1))) s) : wpAny (model prog w) A (compareOp .Eq (.ref a) (.ref b)) Q E s := by
  refine eq_listAt (e := fun j => ((cl.map (·.1)).getD j 0 == (sl.map (·.1)).getD j 0)) ha hb (by simp [intVs, hn]) hu (fun j h1 h2 => ?_) ?_
  · have g1 : j < cl.length := by simpa [intVs] using h1
    have g2 : j < sl.length := by simpa [intVs] using h2
    have e1 : (intVs cl).toArray[j] = .int (cl[j]'g1).1 (cl[j]'g1).2 := by simp [intVs]
    have e2 : (intVs sl).toArray[j] = .int (sl[j]'g2).1 (sl[j]'g2).2 := by simp [intVs]
    rw [e1, e2]
    have := EqAt.int_int (A := A.in1) (s := s) (cl[j]'g1).1 (cl[j]'g1).2 (sl[j]'g2).1 (sl[j]'g2).2
    simpa [g1, g2] using this
  · have : (intVs cl).toArray.size = cl.length := by simp [intVs]
    rw [this, all_ints rfl hn.symm]
    exact h
end

section
variable {w : World} {A : Around} {E : Value → Shared → Prop} {s₀ s : Shared} {m : Str → Option Value} {c1 c2 c3 c4 : Option Value} {pm cd doc : Value} {f : Addr} {mean : ExcName → Option Value} {mg mb : Str → Option Value}
variable {Q : Flow → Shared → Prop}

theorem turn_stays {a : Addr} {cl : List (Int × Tok)} (hh : A.handled = none) (T : Top q loose mean mg mb s₀.heap)
    (F : LSt s₀ m c1 c2 c3 c4 s) (hm : m "counts" = some (.ref a)) (ha : s.heap.IsList a (intVs cl).toArray) (hz : cl.length = 4)
    (hQ : ∀ h' tk, LSt s₀ (fun y => if y = "stays" then some (.bool (allPos (cl.map (·.1)))) else m y) c1 c2 c3 c4 { s with heap := h', toks := tk } → (∀ b o, b ≠ s₀.heap.objs.size → s.heap.get? b = some o → h'.get? b = some o) →
      Q .next { s with heap := h', toks := tk }) :
    wpAny (model pw w) A (exec b4.1 (envL pm cd doc s₀.heap.objs.size f)) Q E s := by
  dsimp only [b4]
  refine wpAny_Assign_Name (wpAny_Compare1 ?_)
  refine Call_ (ldBuil (T.keeps F.kp.keep) (v := .builtin "min") boot_min ?_)
  refine PyProof.Rows.callWith_builtin1 ?_
  refine spliced_more (ldLw F hm (spliced_none ?_))
  refine min_intVs hh ha (by omega) fun h₁ tk₁ M t₁ k₁ hM => ?_
  refine wpAny_Constant_int (gt_int ?_)
  rw [hM]
  exact stLw (s := { s with heap := h₁, toks := _ }) (F.tk k₁) fun h₂ F₂ k₂ => hQ h₂ _ F₂ fun b o hb y => k₂ b o hb (k₁ b o y)

set_option maxHeartbeats 1000000 in
theorem turn_ask {a b Da : Addr} {cl sl : List (Int × Tok)} {bs : List Bool} {st tk : Bool} (hh : A.handled = none) (hu : A.units < cLine) (T : Top q loose mean mg mb s₀.heap)
    (F : LSt s₀ m c1 c2 c3 c4 s) (hmc : m "counts" = some (.ref a)) (ha : s.heap.IsList a (intVs cl).toArray) (hz : cl.length = 4) (hms : m "sums" = some (.ref b)) (hb : s.heap.IsList b (intVs sl).toArray) (hz2 : sl.length = 4)
    (hmt : m "stays" = some (.bool st)) (hmk : m "taken" = some (.bool tk)) (hma : m "asked" = some (.ref Da)) (hD : PlainL s.heap Da (boolVs bs).toArray) (hbs : bs.length ≤ 1000) (hoff : Off s₀ Da) (hDn : s₀.heap.get? Da = none)
    (hQ : ∀ h' tk', LSt s₀ m c1 c2 c3 c4 { s with heap := h', toks := tk' } → (∀ b o, b ≠ Da → s.heap.get? b = some o → h'.get? b = some o) → PlainL h' Da (boolVs (bs ++ [askP st tk (cl.map (·.1)) (sl.map (·.1))])).toArray →
      Q .next { s with heap := h', toks := tk' }) :
    wpAny (model pw w) A (exec b5.1 (envL pm cd doc s₀.heap.objs.size f)) Q E s := by
  dsimp only [b5]
  refine wpAny_Expr ?_
  refine wpAny_Call_append rfl rfl rfl rfl ?_
  refine ldLw F hma ⟨Da, _, rfl, hD, ?_⟩
  refine BoolOp_and ?_
  -- the two sides
  refine wpAny_Compare1 (wpAny_List ?_)
  refine spliced_more (ldLw F hmt (spliced_more (ldLw F hmk (spliced_none ⟨by show 2 ≤ sizeLine; decide, ?_⟩))))
  generalize hh₁ : s.heap.push { cls := .type "list", data := .seq ([.bool st, .bool tk] : List Value).toArray } = h₁
  have k₁ : ∀ b o, s.heap.get? b = some o → h₁.get? b = some o := fun b o y => hh₁ ▸ Heap.get?_push_of_some _ y
  have e₁ : h₁.get? s.heap.objs.size = some { cls := .type "list", data := .seq ([.bool st, .bool tk] : List Value).toArray } := hh₁ ▸ Heap.get?_push_size _ rfl
  have F₁ := fun tk => F.tk (tk := tk) k₁
  refine wpAny_BinOp (wpAny_List ?_)
  refine spliced_more (wpAny_Compare1 ?_)
  refine Call_ (ldBuil (s := { s with heap := h₁, toks := _ }) (T.keeps fun b o y => k₁ _ _ (F.kp.keep b o y)) (v := .builtin "min") boot_min ?_)
  refine PyProof.Rows.callWith_builtin1 ?_
  refine spliced_more (ldLw (s := { s with heap := h₁, toks := _ }) (F₁ _) hms (spliced_none ?_))
  refine min_intVs (s := { s with heap := h₁, toks := _ }) hh (hb.at fun o y => k₁ _ o y) (by omega) fun h₂ tk₂ M t₂ k₂ hM => ?_
  have k₂ : ∀ b o, h₁.get? b = some o → h₂.get? b = some o := k₂
  refine wpAny_Constant_int (gt_int ?_)
  rw [hM]
  refine spliced_none ⟨by show 1 ≤ sizeLine; decide, ?_⟩
  generalize hp : allPos (sl.map (·.1)) = p
  generalize hh₃ : h₂.push { cls := .type "list", data := .seq ([.bool p] : List Value).toArray } = h₃
  have k₃ : ∀ b o, h₂.get? b = some o → h₃.get? b = some o := fun b o y => hh₃ ▸ Heap.get?_push_of_some _ y
  have e₃ : h₃.get? h₂.objs.size = some { cls := .type "list", data := .seq ([.bool p] : List Value).toArray } := hh₃ ▸ Heap.get?_push_size _ rfl
  refine wpAny_Constant_int ?_
  refine mul_two (s := { s with heap := h₃, toks := _ }) e₃ ?_
  dsimp only
  generalize hh₄ : h₃.push { cls := .type "list", data := .seq #[.bool p, .bool p] } = h₄
  have k₄ : ∀ b o, h₃.get? b = some o → h₄.get? b = some o := fun b o y => hh₄ ▸ Heap.get?_push_of_some _ y
  have e₄ : h₄.get? h₃.objs.size = some { cls := .type "list", data := .seq #[.bool p, .bool p] } := hh₄ ▸ Heap.get?_push_size _ rfl
  have k' : ∀ b o, s.heap.get? b = some o → h₄.get? b = some o := fun b o y => k₄ _ _ (k₃ _ _ (k₂ _ _ (k₁ _ _ y)))
  have F₄ := fun tk => F.tk (tk := tk) k'
  -- what is given back
  have fin : ∀ (v : Bool) (tk' : Nat), v = askP st tk (cl.map (·.1)) (sl.map (·.1)) → wpAny (model pw w) A (call (.builtin "list.append") [.ref Da, .bool v]) (fun v s' => match v with | Value.ref _ => False | _ => Q .next s') E { s with heap := h₄, toks := tk' } := by
    intro v tk' hv
    refine list_append_plainL (s := { s with heap := h₄, toks := tk' }) (hD.keeps k') (fun h₅ hP₅ s₅ => ?_) (by rw [List.size_toArray]; show (boolVs bs).length ≤ _; rw [boolVs, List.length_map]; exact Nat.le_trans hbs (by decide))
    rw [boolVs_push, hv] at hP₅
    have k₅ : ∀ b o, b ≠ Da → h₄.get? b = some o → h₅.get? b = some o := fun b o hb y => s₅.extBut b o hb y
    exact hQ h₅ _ ((F₄ tk').butOff hoff hDn k₅) (fun b o hb y => k₅ b o hb (k' b o y)) hP₅
  have l₁ : h₄.IsList s.heap.objs.size #[.bool st, .bool tk] := ⟨_, k₄ _ _ (k₃ _ _ (k₂ _ _ e₁)), rfl, 0, rfl⟩
  have l₂ : h₄.IsList h₃.objs.size #[.bool p, .bool p] := ⟨_, e₄, rfl, 0, rfl⟩
  refine eq_listAt (e := fun j => if j = 0 then st == p else tk == p) l₁ l₂ rfl hu (fun j h1 h2 => ?_) ?_
  · have hj : j = 0 ∨ j = 1 := by simp at h1; omega
    rcases hj with rfl | rfl
    · exact EqAt.bool_bool st p
    · exact EqAt.bool_bool tk p
  have hall : ((List.range (#[.bool st, .bool tk] : Array Value).size).all fun j => if j = 0 then st == p else tk == p) = ((st == p) && (tk == p)) := by
    show ((List.range 2).all _) = _
    simp [List.range, List.range.loop]
  rw [hall]
  refine wpAny_truthy_bool ?_
  cases hb1 : ((st == p) && (tk == p)) with
  | false =>
    rw [if_neg (by decide)]
    refine fin false _ ?_
    unfold askP
    rw [hp, hb1]; rfl
  | true =>
    rw [if_pos rfl]
    refine BoolOp_one (BoolOp_or ?_)
    refine wpAny_Compare1 (ldLw (s := { s with heap := h₄, toks := _ }) (F₄ _) hmc (ldLw (s := { s with heap := h₄, toks := _ }) (F₄ _) hms ?_))
    refine eq_ints hu (ha.at fun o y => k' _ o y) (hb.at fun o y => k' _ o y) (by omega) (wpAny_truthy_bool ?_)
    cases hb2 : (cl.map (·.1) == sl.map (·.1)) with
    | true =>
      rw [if_pos rfl]
      refine fin true _ ?_
      unfold askP
      rw [hp, hb1, hb2]; rfl
    | false =>
      rw [if_neg (by decide)]
      refine BoolOp_one (wpAny_UnaryOp (ldLw (s := { s with heap := h₄, toks := _ }) (F₄ _) hmt (not_of (wpAny_truthy_bool ?_))))
      refine fin (!st) _ ?_
      unfold askP
      rw [hp, hb1, hb2]; rfl

theorem turn_many {n : Int} {t : Tok} {st : Bool} (F : LSt s₀ m c1 c2 c3 c4 s) (hmt : m "stays" = some (.bool st)) (hmn : m "many" = some (.int n t))
    (hQ : ∀ h' tk t, LSt s₀ (fun y => if y = "many" then some (.int (n + if st = true then 1 else 0) t) else m y) c1 c2 c3 c4 { s with heap := h', toks := tk } → (∀ b o, b ≠ s₀.heap.objs.size → s.heap.get? b = some o → h'.get? b = some o) →
      Q .next { s with heap := h', toks := tk }) :
    wpAny (model pw w) A (exec b6.1 (envL pm cd doc s₀.heap.objs.size f)) Q E s := by
  dsimp only [b6]
  refine wpAny_AugAssign_Name (wpAny_loadName_local rfl (by rfl) F.ns hmn (wpAny_IfExp (isTrue_plain (ldLw F hmt (wpAny_truthy_bool ?_)))))
  cases st with
  | true =>
    rw [if_pos rfl]
    refine wpAny_Constant_int (iadd_int ?_)
    exact stLw (s := { s with toks := _ }) (F.tk fun _ _ y => y) fun h' F' k' => hQ h' _ _ F' k'
  | false =>
    rw [if_neg (by decide)]
    refine wpAny_Constant_int (iadd_int ?_)
    exact stLw (s := { s with toks := _ }) (F.tk fun _ _ y => y) fun h' F' k' => hQ h' _ _ F' k'
end
end Mine
/-! Law14 -/
namespace Mine
open PySem PySem.W PySem.Spec PySem.Calls PyProof.Rows PySem.SeqAt

def countsP (ls : List (List Str)) (op : List Int) : List Int := (openCounts 0 (pick ls [] op)).map Int.ofNat
def turnAsk (ss : List Int) (ps : List Str) (ls : List (List Str)) (op : List Int) : Bool := askP (allPos (countsP ls op)) (takenP ps op (ss.sum - 1)) (countsP ls op) (sumsP ss op)
def turnMany (ls : List (List Str)) (op : List Int) : Int := if allPos (countsP ls op) = true then 1 else 0

theorem openCounts_len : ∀ (n : Nat) (l : List (List Str)), (openCounts n l).length = l.length
  | _, [] => rfl
  | n, x :: r => by rw [openCounts, List.length_cons, openCounts_len, List.length_cons]

/-- what the law has made -/
structure Dat (s₀ : Shared) (S P Sg O : Addr) (sl : List (Int × Tok)) (pl : List (Str × Tok)) (ls : List (Addr × List (Str × Tok))) (os : List (Addr × List (Int × Tok))) (h : Heap) : Prop where
  steps : h.IsList S (intVs sl).toArray
  pieces : h.IsList P (strValues pl).toArray
  lists : h.IsList Sg (refsOf ls).toArray
  signs : ∀ p ∈ ls, h.IsList p.1 (strValues p.2).toArray
  orders : h.IsList O (refsI os).toArray
  order : ∀ p ∈ os, h.IsList p.1 (intVs p.2).toArray

def adrs (S P Sg O : Addr) (ls : List (Addr × List (Str × Tok))) (os : List (Addr × List (Int × Tok))) : List Addr := S :: P :: Sg :: O :: (ls.map (·.1) ++ os.map (·.1))

theorem Dat.keep {s₀ : Shared} {S P Sg O : Addr} {sl : List (Int × Tok)} {pl : List (Str × Tok)} {ls : List (Addr × List (Str × Tok))} {os : List (Addr × List (Int × Tok))} {h h' : Heap} (x : Dat s₀ S P Sg O sl pl ls os h)
    (k : ∀ b ∈ adrs S P Sg O ls os, ∀ o, h.get? b = some o → h'.get? b = some o) : Dat s₀ S P Sg O sl pl ls os h' where
  steps := x.steps.at fun o y => k _ (by simp [adrs]) o y
  pieces := x.pieces.at fun o y => k _ (by simp [adrs]) o y
  lists := x.lists.at fun o y => k _ (by simp [adrs]) o y
  signs := fun p hp => (x.signs p hp).at fun o y => k _ (by simp only [adrs, List.mem_cons, List.mem_append]; exact .inr (.inr (.inr (.inr (.inl (List.mem_map_of_mem hp)))))) o y
  orders := x.orders.at fun o y => k _ (by simp [adrs]) o y
  order := fun p hp => (x.order p hp).at fun o y => k _ (by simp only [adrs, List.mem_cons, List.mem_append]; exact .inr (.inr (.inr (.inr (.inr (List.mem_map_of_mem hp)))))) o y

section
variable {prog : Program} {w : World} {A : Around} {E E₂ E₃ : Value → Shared → Prop} {s : Shared} {Zn Zc : Shared → Prop} {env : Env} {I ax : Addr} {i : Nat} {items : Array Value} {xv : Str} {pt : Pos}
theorem listTurnC (hh : A.handled = none) (hit : s.heap.IsListIter I ax i) (hl : s.heap.IsList ax items)
    (hnil : items[i]? = none → ∀ h', (∀ b o, b ≠ I → s.heap.get? b = some o → h'.get? b = some o) → Zn { s with heap := h' })
    (hcons : ∀ v, items[i]? = some v → ∀ h', h'.IsListIter I ax (i + 1) → (∀ b o, b ≠ I → s.heap.get? b = some o → h'.get? b = some o) → wpAny (model prog w) A (storeName env xv v) (fun _ s₃ => Zc s₃) E₃ { s with heap := h' }) :
    wpAny (model prog w) A (pyNext (.ref I)) (fun r s₁ => match r with
      | none => Zn s₁
      | some v => wpAny (model prog w) A (letOwnedTupleGo (.Name xv pt) (.ref I) v) (fun _ s₂ =>
          wpAny (model prog w) A (assign (.Name xv pt) env v) (fun _ s₃ => Zc s₃) E₃ s₂) E₂ s₁) E s := by
  cases hv : items[i]? with
  | none => exact wpAny_pyNext_list_end hh hit hl hv fun h' he => hnil hv h' fun b o hb y => he b o hb y
  | some v =>
    refine wpAny_pyNext_list_item hit hl hv fun h₁ hit₁ s₁ => ?_
    show wpAny _ _ (pure ()) _ _ _
    exact wpAny_pure (wpAny_assign_Name (hcons v hv h₁ hit₁ fun b o hb y => s₁.extBut b o hb y))
end

section
variable {w : World} {A : Around} {E : Value → Shared → Prop} {s₀ s : Shared} {m : Str → Option Value} {c1 c2 c3 c4 : Option Value} {pm cd doc : Value} {f : Addr} {mean : ExcName → Option Value} {mg mb : Str → Option Value}
variable {S P Sg O Da : Addr} {sl : List (Int × Tok)} {pl : List (Str × Tok)} {ls : List (Addr × List (Str × Tok))} {os : List (Addr × List (Int × Tok))}

/-- the sizes that a turn asks for -/
structure Fits (sl : List (Int × Tok)) (pl : List (Str × Tok)) (ls : List (Addr × List (Str × Tok))) (os : List (Addr × List (Int × Tok))) : Prop where
  s4 : sl.length = 4
  sn : -900 ≤ (sl.map (·.1)).sum ∧ (sl.map (·.1)).sum ≤ 4
  p4 : pl.length = 4
  pn : ∀ p ∈ pl, p.1.length ≤ 10
  l4 : ls.length = 4
  ln : ∀ p ∈ ls, p.2.length ≤ 100
  on : ∀ p ∈ os, p.2.length = 4 ∧ ∀ x ∈ p.2, 0 ≤ x.1 ∧ x.1 < 4
  oz : os.length ≤ 900

/-- one turn -/
theorem turn_body {o : Addr} {ol : List (Int × Tok)} {bs : List Bool} {n : Int} {t : Tok} {Q : Flow → Shared → Prop} (hh : A.handled = none) (hd : A.depth + 7 < recursionLimit) (hu : A.units < cLine) (T : Top q loose mean mg mb s₀.heap) (K : Cl s₀.heap) (hmg : mg "_Accumulator" = some (.ref 101))
    (X : Fits sl pl ls os) (D : Dat s₀ S P Sg O sl pl ls os s.heap) (hA : ∀ b ∈ adrs S P Sg O ls os, b ≠ s₀.heap.objs.size ∧ b ≠ Da) (ho : (o, ol) ∈ os)
    (F : LSt s₀ m (some (.ref S)) (some (.ref P)) (some (.ref Sg)) (some (.ref o)) s) (hmn : m "many" = some (.int n t)) (hma : m "asked" = some (.ref Da)) (hD : PlainL s.heap Da (boolVs bs).toArray) (hbs : bs.length ≤ 1000) (hoff : Off s₀ Da) (hDn : s₀.heap.get? Da = none)
    (hQ : ∀ s' m' t', LSt s₀ m' (some (.ref S)) (some (.ref P)) (some (.ref Sg)) (some (.ref o)) s' → (∀ b o, b ≠ s₀.heap.objs.size → b ≠ Da → s.heap.get? b = some o → s'.heap.get? b = some o) →
      m' "many" = some (.int (n + turnMany (ls.map fun p => p.2.map (·.1)) (ol.map (·.1))) t') → m' "asked" = some (.ref Da) →
      PlainL s'.heap Da (boolVs (bs ++ [turnAsk (sl.map (·.1)) (pl.map (·.1)) (ls.map fun p => p.2.map (·.1)) (ol.map (·.1))])).toArray → Q .next s') :
    wpAny (model pw w) A (execs for7.1.2.2 (envL pm cd doc s₀.heap.objs.size f)) Q E s := by
  have hDoL : Da ≠ s₀.heap.objs.size := hoff.l
  have ob := X.on _ ho
  refine wpAny_execs_cons (turn_counts hh hd T K hmg F D.lists (fun p hp => ⟨D.signs p hp, X.ln p hp⟩) X.l4 (D.order _ ho) ob.1 ob.2 fun h₁ tk₁ a cl F₁ k₁ ha hcl => ?_)
  have D₁ := D.keep fun b hb o y => k₁ b o (hA b hb).1 y
  have P₁ : PlainL h₁ Da (boolVs bs).toArray := let ⟨ob, nn, e, r⟩ := hD; ⟨ob, nn, k₁ _ _ hDoL e, r⟩
  have haL := (Off.of_list F₁ ha).l
  have hclz : cl.length = 4 := by
    have := congrArg List.length hcl
    rw [List.length_map, List.length_map, openCounts_len, pick, List.length_map, List.length_map, ob.1] at this
    exact this
  refine wpAny_execs_cons (turn_text hh F₁ D₁.pieces X.p4 X.pn (D₁.order _ ho) ob.1 ob.2 fun h₂ tk₂ t₂ F₂ k₂ => ?_)
  have D₂ := D₁.keep fun b hb o y => k₂ b o (hA b hb).1 y
  have P₂ : PlainL h₂ Da (boolVs bs).toArray := let ⟨ob, nn, e, r⟩ := P₁; ⟨ob, nn, k₂ _ _ hDoL e, r⟩
  have a₂ : h₂.IsList a (intVs cl).toArray := ha.at fun o y => k₂ _ o haL y
  refine wpAny_execs_cons (turn_taken hh (by omega) T F₂ D₂.steps X.sn D₂.pieces X.p4 X.pn (D₂.order _ ho) ob.1 ob.2 rfl fun s₃ F₃ k₃ => ?_)
  have D₃ := D₂.keep fun b hb o y => k₃ b o (hA b hb).1 y
  have P₃ : PlainL s₃.heap Da (boolVs bs).toArray := let ⟨ob, nn, e, r⟩ := P₂; ⟨ob, nn, k₃ _ _ hDoL e, r⟩
  have a₃ : s₃.heap.IsList a (intVs cl).toArray := a₂.at fun o y => k₃ _ o haL y
  refine wpAny_execs_cons (turn_sums hh T F₃ D₃.steps X.s4 (D₃.order _ ho) ob.1 ob.2 fun h₄ tk₄ b sul F₄ k₄ hb hsu => ?_)
  have P₄ : PlainL h₄ Da (boolVs bs).toArray := let ⟨ob, nn, e, r⟩ := P₃; ⟨ob, nn, k₄ _ _ hDoL e, r⟩
  have a₄ : h₄.IsList a (intVs cl).toArray := a₃.at fun o y => k₄ _ o haL y
  have hbL := (Off.of_list F₄ hb).l
  have hsuz : sul.length = 4 := by
    have := congrArg List.length hsu
    simpa [sumsP] using this
  refine wpAny_execs_cons (turn_stays (a := a) hh T F₄ rfl a₄ hclz fun h₅ tk₅ F₅ k₅ => ?_)
  have P₅ : PlainL h₅ Da (boolVs bs).toArray := let ⟨ob, nn, e, r⟩ := P₄; ⟨ob, nn, k₅ _ _ hDoL e, r⟩
  refine wpAny_execs_cons (turn_ask (a := a) (b := b) hh hu T F₅ rfl (a₄.at fun o y => k₅ _ o haL y) hclz rfl (hb.at fun o y => k₅ _ o hbL y) hsuz rfl rfl hma P₅ hbs hoff hDn fun h₆ tk₆ F₆ k₆ P₆ => ?_)
  refine wpAny_execs_cons (turn_many F₆ rfl hmn fun h₇ tk₇ t₇ F₇ k₇ => wpAny_execs_nil ?_)
  rw [hcl, hsu] at P₆
  refine hQ _ _ t₇ F₇ (fun b o hb hb' y => k₇ b o hb (k₆ b o hb' (k₅ b o hb (k₄ b o hb (k₃ b o hb (k₂ b o hb (k₁ b o hb y))))))) ?_ hma ?_
  · rw [hcl]; rfl
  · obtain ⟨ob, nn, e, r⟩ := P₆
    exact ⟨ob, nn, k₇ _ _ hDoL e, r⟩
end
end Mine
/-! Law15 -/
namespace Mine
open PySem PySem.W PySem.Spec PySem.Calls PyProof.Rows PySem.SeqAt

section
variable {w : World} {A : Around} {E : Value → Shared → Prop} {s₀ s : Shared} {m : Str → Option Value} {c1 c2 c3 c4 : Option Value} {pm cd doc : Value} {f : Addr} {mean : ExcName → Option Value} {mg mb : Str → Option Value}
variable {S P Sg O Da : Addr} {sl : List (Int × Tok)} {pl : List (Str × Tok)} {ls : List (Addr × List (Str × Tok))} {os : List (Addr × List (Int × Tok))}
variable {Q : Flow → Shared → Prop}

def manyP (ls : List (List Str)) (ops : List (List Int)) : Int := (ops.map (turnMany ls)).sum

set_option maxHeartbeats 2000000 in
theorem law_loop {t : Tok} (hh : A.handled = none) (hd : A.depth + 7 < recursionLimit) (hu : A.units < cLine) (T : Top q loose mean mg mb s₀.heap) (K : Cl s₀.heap) (hmg : mg "_Accumulator" = some (.ref 101))
    (X : Fits sl pl ls os) (D : Dat s₀ S P Sg O sl pl ls os s.heap) (hA : ∀ b ∈ adrs S P Sg O ls os, Off s₀ b ∧ b ≠ Da)
    (F : LSt s₀ m (some (.ref S)) (some (.ref P)) (some (.ref Sg)) c4 s) (hmo : m "orders" = some (.ref O)) (hmn : m "many" = some (.int 0 t)) (hma : m "asked" = some (.ref Da)) (hD : PlainL s.heap Da #[]) (hoff : Off s₀ Da) (hDn : s₀.heap.get? Da = none)
    (hQ : ∀ s' m' t' c4', LSt s₀ m' (some (.ref S)) (some (.ref P)) (some (.ref Sg)) c4' s' → Dat s₀ S P Sg O sl pl ls os s'.heap →
      m' "many" = some (.int (manyP (ls.map fun p => p.2.map (·.1)) (os.map fun p => p.2.map (·.1))) t') → m' "asked" = some (.ref Da) →
      PlainL s'.heap Da (boolVs ((os.map fun p => p.2.map (·.1)).map (turnAsk (sl.map (·.1)) (pl.map (·.1)) (ls.map fun p => p.2.map (·.1))))).toArray → Q .next s') :
    wpAny (model pw w) A (exec st7.1 (envL pm cd doc s₀.heap.objs.size f)) Q E s := by
  have hbody : for7.1 = for7.1 := rfl
  show wpAny (model pw w) A (exec (.For for7.1.1 for7.1.2.1 for7.1.2.2 [] _) (envL pm cd doc s₀.heap.objs.size f)) Q E s
  refine wpAny_For ?_
  refine ldLw (x := "orders") F hmo (wpAny_pyIter_list D.orders ?_)
  have hnoI : ∀ b o, s.heap.get? b = some o → b ≠ s.heap.objs.size := fun b o y => Nat.ne_of_lt (Heap.lt_size y)
  have it₁ : (s.heap.push { cls := .type "list_iterator", data := .fields #[.ref O, .int 0 0] }).IsListIter s.heap.objs.size O 0 := ⟨_, Heap.get?_push_size _ rfl, rfl, rfl⟩
  have k₁ : ∀ b o, s.heap.get? b = some o → (s.heap.push { cls := .type "list_iterator", data := .fields #[.ref O, .int 0 0] }).get? b = some o := fun b o y => Heap.get?_push_of_some _ y
  have F₁ := F.tk (tk := s.toks) k₁
  have hnone : s.heap.get? s.heap.objs.size = none := by
    cases hg : s.heap.get? s.heap.objs.size with
    | none => rfl
    | some o => exact absurd (Heap.lt_size hg) (Nat.lt_irrefl _)
  have hIoff : Off s₀ s.heap.objs.size := F.off hnone
  have hI₀ : s₀.heap.get? s.heap.objs.size = none := by
    cases hg : s₀.heap.get? s.heap.objs.size with
    | none => rfl
    | some o => rw [F.kp.keep _ _ hg] at hnone; cases hnone
  have hDI : Da ≠ s.heap.objs.size := let ⟨o, nn, e, r⟩ := hD; hnoI _ _ e
  have hAI : ∀ b ∈ adrs S P Sg O ls os, b ≠ s.heap.objs.size := by
    intro b hb
    simp only [adrs, List.mem_cons, List.mem_append, List.mem_map] at hb
    have il : ∀ {a xs}, s.heap.IsList a xs → a ≠ s.heap.objs.size := fun ⟨o, e, _⟩ => hnoI _ _ e
    rcases hb with rfl | rfl | rfl | rfl | ⟨p, hp, rfl⟩ | ⟨p, hp, rfl⟩
    · exact il D.steps
    · exact il D.pieces
    · exact il D.lists
    · exact il D.orders
    · exact il (D.signs p hp)
    · exact il (D.order p hp)
  generalize hIg : s.heap.objs.size = I at *
  refine codeAny_forLoop_any (fun n s' => ∃ i m' c4' bs nn t', n = os.length - i ∧ i ≤ os.length ∧ LSt s₀ m' (some (.ref S)) (some (.ref P)) (some (.ref Sg)) c4' s' ∧ Dat s₀ S P Sg O sl pl ls os s'.heap ∧ s'.heap.IsListIter I O i ∧
      m' "many" = some (.int nn t') ∧ m' "asked" = some (.ref Da) ∧ PlainL s'.heap Da (boolVs bs).toArray ∧ nn = manyP (ls.map fun p => p.2.map (·.1)) ((os.take i).map fun p => p.2.map (·.1)) ∧
      bs = ((os.take i).map fun p => p.2.map (·.1)).map (turnAsk (sl.map (·.1)) (pl.map (·.1)) (ls.map fun p => p.2.map (·.1)))) ?_ _
    ⟨0, m, c4, [], 0, t, rfl, Nat.zero_le _, F₁, D.keep fun b _ o y => k₁ _ _ y, it₁, hmn, hma, hD.keeps k₁, rfl, rfl⟩
  rintro n s₂ ⟨i, m', c4', bs, nn, t', rfl, hi, F₂, D₂, it₂, hmn₂, hma₂, P₂, hnn, hbs⟩
  refine listTurnC (xv := "order") (env := envL pm cd doc s₀.heap.objs.size f) hh it₂ D₂.orders ?_ ?_
  · intro hnil h₃ k₃
    have hin : i = os.length := by
      have : os.length ≤ i := by simpa [refsI] using hnil
      omega
    subst hin
    rw [List.take_length] at hnn hbs
    refine wpAny_execs_nil ?_
    refine hQ { s₂ with heap := h₃ } m' t' c4' (F₂.butOff hIoff hI₀ k₃) (D₂.keep fun b hb o y => k₃ b o (hAI b hb) y) (by rw [hmn₂, hnn]) hma₂ ?_
    rw [← hbs]
    obtain ⟨ob, n', e, r⟩ := P₂
    exact ⟨ob, n', k₃ _ _ hDI e, r⟩
  · intro v hv h₃ it₃ k₃
    have hlt : i < os.length := by
      rcases Nat.lt_or_ge i os.length with h | h
      · exact h
      · rw [show (refsI os).toArray[i]? = none by simpa [refsI] using h] at hv; cases hv
    have hve : v = .ref (os[i]'hlt).1 := by
      have : (refsI os).toArray[i]? = some (.ref (os[i]'hlt).1) := by simp [refsI, hlt]
      rw [this] at hv; exact (Option.some.inj hv).symm
    subst hve
    have hmem : os[i]'hlt ∈ os := List.getElem_mem hlt
    have htake : os.take (i + 1) = os.take i ++ [os[i]'hlt] := by rw [List.take_succ_eq_append_getElem hlt]
    generalize os[i]'hlt = pr at *
    obtain ⟨o, ol⟩ := pr
    have F₃ := F₂.butOff hIoff hI₀ k₃
    refine stOrder F₃ fun h₄ F₄ k₄ => ?_
    dsimp only at k₄
    have hbk : ∀ b, Off s₀ b → b ≠ I → ∀ o, s₂.heap.get? b = some o → h₄.get? b = some o := fun b hb hbI o y => k₄ b o hb.c4 (k₃ b o hbI y)
    have D₄ := D₂.keep fun b hb o y => hbk b (hA b hb).1 (hAI b hb) o y
    have P₄ : PlainL h₄ Da (boolVs bs).toArray := let ⟨ob, n', e, r⟩ := P₂; ⟨ob, n', hbk _ hoff hDI _ e, r⟩
    have it₄ : h₄.IsListIter I O (i + 1) := it₃.at fun o y => k₄ _ o hIoff.c4 y
    have hbsl : bs.length ≤ 1000 := by
      have hoz := X.oz
      rw [hbs, List.length_map, List.length_map, List.length_take]; omega
    refine turn_body hh hd hu T K hmg X D₄ (fun b hb => ⟨(hA b hb).1.l, (hA b hb).2⟩) hmem F₄ hmn₂ hma₂ P₄ hbsl hoff hDn fun s₅ m₅ t₅ F₅ k₅ hmn₅ hma₅ P₅ => ?_
    refine ⟨os.length - (i + 1), by omega, i + 1, m₅, _, _, _, t₅, rfl, hlt, F₅, D₄.keep fun b hb o y => k₅ b o (hA b hb).1.l (hA b hb).2 y, it₄.at fun o y => k₅ _ o hIoff.l (Ne.symm hDI) y, hmn₅, hma₅, P₅, ?_, ?_⟩
    · rw [htake, hnn]
      unfold manyP
      simp [List.map_append, List.sum_append]
    · rw [htake, hbs]
      simp [List.map_append]

theorem law_if {n : Int} {t : Tok} (hh : A.handled = none) (T : Top q loose mean mg mb s₀.heap)
    (F : LSt s₀ m (some (.ref S)) c2 c3 c4 s) (hS : s.heap.IsList S (intVs sl).toArray) (hn : -900 ≤ (sl.map (·.1)).sum ∧ (sl.map (·.1)).sum ≤ 4) (hmn : m "many" = some (.int n t)) (heq : n = 6 * max (sl.map (·.1)).sum 0)
    (hQ : ∀ h' tk, LSt s₀ m (some (.ref S)) c2 c3 c4 { s with heap := h', toks := tk } → (∀ b o, s.heap.get? b = some o → h'.get? b = some o) → Q .next { s with heap := h', toks := tk }) :
    wpAny (model pw w) A (exec st8.1 (envL pm cd doc s₀.heap.objs.size f)) Q E s := by
  dsimp only [st8]
  refine wpAny_If (wpAny_isTrue_Compare1 ?_)
  refine ldLw F hmn (wpAny_BinOp (wpAny_Constant_int ?_))
  refine Call_ (ldBuil (s := { s with toks := _ }) (T.keeps F.kp.keep) (v := .builtin "max") boot_max ?_)
  refine PyProof.Rows.callWith_builtin1 ?_
  refine spliced_more ?_
  refine Call_ (ldBuil (s := { s with toks := _ }) (T.keeps F.kp.keep) (v := .builtin "sum") boot_sum ?_)
  refine PyProof.Rows.callWith_builtin1 ?_
  refine spliced_more (ldCell (s := { s with toks := _ }) F.steps (spliced_none ?_))
  refine sum_intVs hh hS fun h₁ tk₁ t₁ k₁ => ?_
  refine spliced_more (wpAny_Constant_int (spliced_none ?_))
  refine max_two_ints hh fun h₂ tk₂ k₂ => ?_
  have k' : ∀ b o, s.heap.get? b = some o → h₂.get? b = some o := fun b o y => k₂ _ _ (k₁ _ _ y)
  have hmx : ∃ t₃, (if (0 : Int) > (sl.map (·.1)).sum then Value.int 0 (tk₁) else .int (sl.map (·.1)).sum t₁) = .int (max (sl.map (·.1)).sum 0) t₃ := by
    by_cases h0 : (0 : Int) > (sl.map (·.1)).sum
    · rw [if_pos h0, Int.max_eq_right (by omega)]; exact ⟨_, rfl⟩
    · rw [if_neg h0, Int.max_eq_left (by omega)]; exact ⟨_, rfl⟩
  obtain ⟨t₃, hmx⟩ := hmx
  dsimp only
  rw [hmx]
  have hmb : 0 ≤ max (sl.map (·.1)).sum 0 ∧ max (sl.map (·.1)).sum 0 ≤ 4 := by omega
  generalize hM : max (sl.map (·.1)).sum 0 = M at *
  refine mul_int (ne_int (wpAny_truthy_bool ?_)) ?_
  · have : (n != 6 * M) = false := by rw [heq]; simp
    rw [this, if_neg (by decide)]
    refine wpAny_execs_nil ?_
    exact hQ h₂ _ (F.tk k') k'
  · exact IntMulOk.of_left (PySem.intBits_le_64 (by omega) (by omega))

theorem law_end {bs : List Bool} (F : LSt s₀ m c1 c2 c3 c4 s) (hma : m "asked" = some (.ref Da)) (hD : PlainL s.heap Da (boolVs bs).toArray) (hbs : ∀ b ∈ bs, b = true)
    (hQ : ∀ tk, Kp s₀ { s with toks := tk } → Q (.ret (.bool true)) { s with toks := tk }) :
    wpAny (model pw w) A (exec st9.1 (envL pm cd doc s₀.heap.objs.size f)) Q E s := by
  dsimp only [st9]
  refine wpAny_Return_some (wpAny_Compare1 (wpAny_Constant_bool (ldLw F hma ?_)))
  refine notIn_listAt (e := fun y => match y with | .bool b => b == false | _ => false) hD.isList (fun y hy => ?_) ?_
  · have : y ∈ boolVs bs := by simpa using hy
    obtain ⟨b, _, rfl⟩ := List.mem_map.mp this
    exact EqAt.bool_bool b false
  · have hany : ((boolVs bs).toArray.any fun y => match y with | .bool b => b == false | _ => false) = false := by
      rw [List.any_toArray]
      simp only [boolVs, List.any_map]
      rw [List.any_eq_false]
      intro b hb
      rw [hbs b hb]
      simp
    rw [hany]
    exact hQ s.toks F.kp
end
end Mine
/-! Plain1 -/
namespace Mine
open PySem PySem.W PySem.Spec PySem.Calls PyProof.Rows

/-! the seven kinds of pieces -/
def pcs (r : Int) : Str :=
  if r = 0 then Str.ofString "\\é(" else if r = 1 then Str.ofString "\\)(" else if r = 2 then Str.ofString "(\\(" else if r = 3 then Str.ofString "\\(" else if r = 4 then Str.ofString "\"(\""
  else if r = 5 then Str.ofString ")\\)" else Str.ofString ")\\()"
def stp (r : Int) : Int := if r = 0 then 1 else if r = 1 then 1 else if r = 2 then 1 else if r = 3 then 0 else if r = 4 then 0 else if r = 5 then -1 else -2

theorem mod7 (a : Int) : a.fmod 7 = 0 ∨ a.fmod 7 = 1 ∨ a.fmod 7 = 2 ∨ a.fmod 7 = 3 ∨ a.fmod 7 = 4 ∨ a.fmod 7 = 5 ∨ a.fmod 7 = 6 := by
  have := fmod_cases7 a
  omega

def pieceB (r k : Int) : Str :=
  let h := Str.ofString "\\" ++ sMk k
  if r = 0 then Str.ofString "\\é(" else if r = 1 then h ++ Str.ofString ")(" else if r = 2 then Str.ofString "(" ++ h ++ Str.ofString "("
  else if r = 3 then h ++ Str.ofString "(" else if r = 4 then Str.ofString "\"(\"" else if r = 5 then Str.ofString ")" ++ h ++ Str.ofString ")" else Str.ofString ")" ++ h ++ Str.ofString "()"
def keptB (r k : Int) : Str := Txt.join sE (((pieceB r k).cps.toList.filter stays).map fun c => ⟨#[c]⟩)
theorem pieceF_B (a : Int) : pieceF a = keptB (a.fmod 7) ((a.fdiv 7).fmod 3) := rfl
theorem kept_all : ([0, 1, 2, 3, 4, 5, 6] : List Int).all (fun r => ([0, 1, 2] : List Int).all fun k => keptB r k == pcs r) = true := by decide +kernel

theorem pieceF_eq (a : Int) : pieceF a = pcs (a.fmod 7) := by
  have h3 := fmod_cases3 (a.fdiv 7)
  rw [pieceF_B]
  have h := kept_all
  rw [List.all_eq_true] at h
  have h' := h (a.fmod 7) (by have := mod7 a; simp only [List.mem_cons, List.not_mem_nil, or_false]; exact this)
  rw [List.all_eq_true] at h'
  exact beq_iff_eq.mp (h' _ (by simp only [List.mem_cons, List.not_mem_nil, or_false]; omega))
theorem stepOf_eq (a : Int) : stepOf a = stp (a.fmod 7) := rfl

theorem sizes_all : ([0, 1, 2, 3, 4, 5, 6] : List Int).all (fun r => decide ((pcs r).length ≤ 10) && decide ((strip (pcs r)).length ≤ 1000) && decide ((signsOf (pcs r)).length ≤ 100)) = true := by decide +kernel
theorem sizes (a : Int) : (pieceF a).length ≤ 10 ∧ (strip (pieceF a)).length ≤ 1000 ∧ (signsOf (pieceF a)).length ≤ 100 := by
  rw [pieceF_eq]
  have h := sizes_all
  rw [List.all_eq_true] at h
  have := h (a.fmod 7) (by have := mod7 a; simp only [List.mem_cons, List.not_mem_nil, or_false]; exact this)
  simp only [Bool.and_eq_true, decide_eq_true_eq] at this
  exact ⟨this.1.1, this.1.2, this.2⟩
end Mine
/-! Plain2 -/
namespace Mine
open PySem PySem.W PySem.Spec PySem.Calls PyProof.Rows

/-! a text of closed blocks -/
def tok : Bool → List Nat → List Str
  | true, [] => [sBS]
  | false, [] => []
  | true, c :: r => (sBS ++ ⟨#[c]⟩) :: tok false r
  | false, c :: r => if ((⟨#[c]⟩ : Str) == sBS) = true then tok true r else ⟨#[c]⟩ :: tok false r
def escE : Bool → List Nat → Bool
  | b, [] => b
  | true, _ :: r => escE false r
  | false, c :: r => if ((⟨#[c]⟩ : Str) == sBS) = true then escE true r else escE false r

theorem escOut_tok : ∀ (l : List Nat) (b : Bool) (i : Nat), (escOut b i l).map (·.2) = tok b l
  | [], true, _ => rfl
  | [], false, _ => rfl
  | c :: r, true, i => by simp only [escOut, tok, List.map_cons, escOut_tok r false]
  | c :: r, false, i => by
    simp only [escOut, tok]
    split
    · exact escOut_tok r true _
    · rw [List.map_cons, escOut_tok r false]

theorem escOut_append : ∀ (l r : List Nat) (b : Bool) (i : Nat), escE b l = false → escOut b i (l ++ r) = escOut b i l ++ escOut false (i + l.length) r
  | [], r, true, i, h => by cases h
  | [], r, false, i, _ => by simp [escOut]
  | c :: l, r, true, i, h => by
    simp only [List.cons_append, escOut, List.length_cons]
    rw [escOut_append l r false (i + 1) h, show i + 1 + l.length = i + (l.length + 1) by omega]
  | c :: l, r, false, i, h => by
    simp only [List.cons_append, escOut, List.length_cons]
    simp only [escE] at h
    split
    · rename_i hc
      rw [if_pos hc] at h
      rw [escOut_append l r true (i + 1) h, show i + 1 + l.length = i + (l.length + 1) by omega]
    · rename_i hc
      rw [if_neg hc] at h
      rw [escOut_append l r false (i + 1) h, show i + 1 + l.length = i + (l.length + 1) by omega, List.cons_append]

theorem tok_append (l r : List Nat) (h : escE false l = false) : tok false (l ++ r) = tok false l ++ tok false r := by
  rw [← escOut_tok (l ++ r) false 0, escOut_append l r false 0 h, List.map_append, escOut_tok, escOut_tok]

def checkT : List Str → Int → Bool
  | [], n => n == 0
  | t :: r, n => if (t == Str.ofString "(") = true then checkT r (n + 1) else if (t == Str.ofString ")") = true then (if n - 1 < 0 then false else checkT r (n - 1)) else checkT r n
theorem checkGo_T : ∀ (l : List (Nat × Str)) (n : Int), checkGo l n = checkT (l.map (·.2)) n
  | [], n => rfl
  | (_, t) :: r, n => by simp only [checkGo, List.map_cons, checkT, checkGo_T r]

/-- the signs of the joined texts -/
def cat (ys : List Str) : List Nat := ys.flatMap fun y => y.cps.toList
theorem cat_join : ∀ ys : List Str, (Str.join sE ys).cps.toList = cat ys
  | [] => rfl
  | [x] => by simp [Str.join, cat]
  | x :: y :: r => by
    have ih := cat_join (y :: r)
    show ((x ++ sE) ++ Str.join sE (y :: r)).cps.toList = _
    have e : ∀ a b : Str, (a ++ b).cps.toList = a.cps.toList ++ b.cps.toList := fun a b => by
      show (a.cps ++ b.cps).toList = _
      simp
    rw [e, e, ih]
    have : (sE : Str).cps.toList = [] := rfl
    rw [this]
    simp [cat]
theorem cat_join' (ys : List Str) : (Txt.join sE ys).cps.toList = cat ys := by
  rw [show Txt.join sE ys = Str.join sE ys from StrLaws.glued_eq_join _ _, cat_join]

def qB : List Nat := [34, 40, 34]
/-- a block: the quoted bracket, or closed signs without a mark of quotation -/
def Blk (l : List Nat) : Prop := l = qB ∨ (escE false l = false ∧ 34 ∉ l)
theorem tok_noq : ∀ (l : List Nat) (b : Bool), 34 ∉ l → ∀ t ∈ tok b l, (t == sQ) = false
  | [], true, _, t, ht => by simp only [tok, List.mem_singleton] at ht; subst ht; decide
  | [], false, _, t, ht => by simp [tok] at ht
  | c :: r, true, h, t, ht => by
    simp only [tok, List.mem_cons] at ht
    rcases ht with rfl | ht
    · rw [← Bool.not_eq_true, beq_iff_eq]
      intro e
      have := congrArg Str.length e
      rw [PySem.Str.length_append] at this
      exact absurd (show (2 : Nat) = 1 from this) (by decide)
    · exact tok_noq r false (fun x => h (List.mem_cons_of_mem _ x)) t ht
  | c :: r, false, h, t, ht => by
    simp only [tok] at ht
    split at ht
    · exact tok_noq r true (fun x => h (List.mem_cons_of_mem _ x)) t ht
    · rcases List.mem_cons.mp ht with rfl | ht
      · rw [← Bool.not_eq_true, beq_iff_eq]
        intro e
        have : c = 34 := by
          have := congrArg (fun s : Str => s.cps.toList) e
          have h2 : [c] = [34] := this
          exact (List.cons.inj h2).1
        exact h (this ▸ List.mem_cons_self)
      · exact tok_noq r false (fun x => h (List.mem_cons_of_mem _ x)) t ht

theorem stripGo_skip (x : Str) : ∀ (outs rest : List (Nat × Str)) (st : Nat) (op : Option Nat) (res : List Str), (∀ p ∈ outs, (p.2 == sQ) = false) → stripGo x (outs ++ rest) st op res = stripGo x rest st op res
  | [], _, _, _, _, _ => rfl
  | (p, t) :: r, rest, st, op, res, h => by
    have h1 := h (p, t) List.mem_cons_self
    cases op <;> (rw [List.cons_append, stripGo, if_neg (by rw [h1]; decide)]; exact stripGo_skip x r rest st _ res fun p hp => h p (List.mem_cons_of_mem _ hp))

theorem stripGo_q (x : Str) (i st : Nat) (rest : List (Nat × Str)) (res : List Str) :
    stripGo x (escOut false i qB ++ rest) st none res = stripGo x rest (i + 3) none (if ((st : Int) != (i : Int)) = true then res ++ [Txt.slice x (some (st : Int)) (some (i : Int))] else res) := by
  have e : escOut false i qB = [(i, ⟨#[34]⟩), (i + 1, ⟨#[40]⟩), (i + 1 + 1, ⟨#[34]⟩)] := by
    simp only [qB, escOut]
    rw [if_neg (by decide), if_neg (by decide), if_neg (by decide)]
  rw [e]
  show stripGo x ((i, ⟨#[34]⟩) :: (i + 1, ⟨#[40]⟩) :: (i + 1 + 1, ⟨#[34]⟩) :: rest) st none res = _
  rw [stripGo, if_pos (by decide)]
  show stripGo x ((i + 1, ⟨#[40]⟩) :: (i + 1 + 1, ⟨#[34]⟩) :: rest) st (some i) res = _
  rw [stripGo, if_neg (by decide), stripGo, if_pos (by decide)]

def noQB (bs : List (List Nat)) : List (List Nat) := bs.filter (· != qB)

theorem strip_blocks (x : Str) : ∀ (bs : List (List Nat)) (pre : List Nat) (st : Nat) (res : List Str), (∀ b ∈ bs, Blk b) → x.cps.toList = pre ++ bs.flatten → st ≤ pre.length →
    cat (stripGo x (escOut false pre.length bs.flatten) st none res) = cat res ++ pre.drop st ++ (noQB bs).flatten
  | [], pre, st, res, _, hx, hst => by
    have hl : x.length = pre.length := by
      show x.cps.size = _
      rw [← Array.length_toList, hx]; simp
    rw [List.flatten_nil, escOut, stripGo, hl]
    by_cases h : (st : Int) < (pre.length : Int)
    · rw [if_pos h, slice_from_eq (b := (pre.length : Int)) (by omega) (by rw [hl]; omega) (by rw [hl])]
      simp only [cat, List.flatMap_append, List.flatMap_cons, List.flatMap_nil, List.append_nil, noQB, List.filter_nil, List.flatten_nil]
      congr 1
      rw [hx, List.flatten_nil, List.append_nil]
      show (List.take _ (List.drop _ pre)).toArray.toList = _
      rw [List.toList_toArray, List.take_of_length_le (by simp)]
      rfl
    · rw [if_neg h]
      have : pre.drop st = [] := List.drop_of_length_le (by omega)
      rw [this]
      simp [noQB]
  | b :: bs, pre, st, res, hb, hx, hst => by
    have hbs : ∀ b ∈ bs, Blk b := fun y hy => hb y (List.mem_cons_of_mem _ hy)
    have hx' : x.cps.toList = (pre ++ b) ++ bs.flatten := by rw [hx]; simp
    rcases hb b List.mem_cons_self with rfl | ⟨hc, hq⟩
    · rw [List.flatten_cons, escOut_append qB _ false _ (by decide), stripGo_q]
      have ih := strip_blocks x bs (pre ++ qB) (pre.length + 3) (if ((st : Int) != (pre.length : Int)) = true then res ++ [Txt.slice x (some (st : Int)) (some (pre.length : Int))] else res) hbs hx' (by simp [qB])
      have e1 : (pre ++ qB).length = pre.length + qB.length := List.length_append
      rw [e1] at ih
      rw [ih]
      have e2 : (pre ++ qB).drop (pre.length + 3) = [] := List.drop_of_length_le (by simp [qB])
      have e3 : noQB (qB :: bs) = noQB bs := by simp [noQB]
      rw [e2, e3, List.append_nil]
      congr 1
      have hl : pre.length ≤ x.length := by
        show _ ≤ x.cps.size
        rw [← Array.length_toList, hx]; simp
      by_cases h : st = pre.length
      · subst h
        rw [if_neg (by simp)]
        simp
      · rw [if_pos (by simp; omega)]
        have hsl := slice_closesL (x := x) (i := (st : Int)) (j := (pre.length : Int)) (by omega) (by omega) (by omega)
        rw [beq_iff_eq] at hsl
        rw [hsl]
        simp only [cat, List.flatMap_append, List.flatMap_cons, List.flatMap_nil, List.append_nil]
        congr 1
        rw [List.toList_toArray, hx, Int.toNat_natCast, List.drop_append_of_le_length hst, show ((pre.length : Int) - (st : Int)).toNat = (pre.drop st).length by rw [List.length_drop]; omega, List.take_left']
        rfl
    · rw [List.flatten_cons, escOut_append b _ false _ hc, stripGo_skip]
      · have ih := strip_blocks x bs (pre ++ b) st res hbs hx' (by rw [List.length_append]; omega)
        have e1 : (pre ++ b).length = pre.length + b.length := List.length_append
        rw [e1] at ih
        rw [ih, List.drop_append_of_le_length hst]
        have hne : (b != qB) = true := by
          rw [bne_iff_ne]
          rintro rfl
          exact hq (by decide)
        have e3 : noQB (b :: bs) = b :: noQB bs := List.filter_cons_of_pos hne
        rw [e3, List.flatten_cons]
        simp
      · intro p hp
        refine tok_noq b false hq p.2 ?_
        rw [← escOut_tok b false pre.length]
        exact List.mem_map_of_mem hp

theorem strip_eq (x : Str) (bs : List (List Nat)) (hb : ∀ b ∈ bs, Blk b) (hx : x.cps.toList = bs.flatten) : (strip x).cps.toList = (noQB bs).flatten := by
  unfold strip
  by_cases hq : noQ x = true
  · rw [if_pos hq, hx]
    have hno : 34 ∉ x.cps.toList := by
      unfold noQ at hq
      have := StrLaws.found_one x 34
      rw [show (sQ : Str) = ⟨#[34]⟩ from rfl, this] at hq
      simpa using hq
    have : noQB bs = bs := by
      refine List.filter_eq_self.mpr fun b hb' => ?_
      rw [bne_iff_ne]
      rintro rfl
      exact hno (by rw [hx]; exact List.mem_flatten.mpr ⟨qB, hb', by decide⟩)
    rw [this]
  · rw [if_neg hq, cat_join', hx]
    have := strip_blocks x bs [] 0 [] hb (by simpa using hx) (Nat.zero_le _)
    simpa [cat] using this
end Mine
/-! Plain3 -/
namespace Mine
open PySem PySem.W PySem.Spec PySem.Calls PyProof.Rows

def tk (l : List Nat) : List Str := if l = qB then [] else tok false l
theorem tok_flat : ∀ bs : List (List Nat), (∀ b ∈ bs, Blk b) → tok false (noQB bs).flatten = bs.flatMap tk
  | [], _ => rfl
  | b :: bs, h => by
    have ih := tok_flat bs fun y hy => h y (List.mem_cons_of_mem _ hy)
    rcases h b List.mem_cons_self with rfl | ⟨hc, hq⟩
    · have e : noQB (qB :: bs) = noQB bs := by simp [noQB]
      rw [e, ih, List.flatMap_cons]
      rfl
    · have hn : b ≠ qB := by rintro rfl; exact hq (by decide)
      have e : noQB (b :: bs) = b :: noQB bs := List.filter_cons_of_pos (by rw [bne_iff_ne]; exact hn)
      rw [e, List.flatten_cons, tok_append _ _ hc, ih, List.flatMap_cons, tk, if_neg hn]

def run : List Int → Int → Bool
  | [], n => n == 0
  | d :: r, n => if n + d < 0 then false else run r (n + d)

/-- a block and what it does to the count -/
def Good (p : List Nat × Int) : Prop := Blk p.1 ∧ ∀ (rest : List Str) (n : Int), 0 ≤ n → checkT (tk p.1 ++ rest) n = if n + p.2 < 0 then false else checkT rest (n + p.2)

theorem check_run : ∀ (ps : List (List Nat × Int)) (n : Int), (∀ p ∈ ps, Good p) → 0 ≤ n → checkT ((ps.map (·.1)).flatMap tk) n = run (ps.map (·.2)) n
  | [], _, _, _ => rfl
  | p :: ps, n, h, hn => by
    rw [List.map_cons, List.flatMap_cons, (h p List.mem_cons_self).2 _ n hn, List.map_cons, run]
    by_cases hd : n + p.2 < 0
    · rw [if_pos hd, if_pos hd]
    · rw [if_neg hd, if_neg hd]
      exact check_run ps _ (fun y hy => h y (List.mem_cons_of_mem _ hy)) (by omega)

theorem taken_run (x : Str) (ps : List (List Nat × Int)) (h : ∀ p ∈ ps, Good p) (hx : x.cps.toList = (ps.map (·.1)).flatten) : checkGo (escOut false 0 (strip x).cps.toList) 0 = run (ps.map (·.2)) 0 := by
  have hb : ∀ b ∈ ps.map (·.1), Blk b := fun b hb => by
    obtain ⟨p, hp, rfl⟩ := List.mem_map.mp hb
    exact (h p hp).1
  rw [checkGo_T, escOut_tok, strip_eq x _ hb hx, tok_flat _ hb, check_run ps 0 h (Int.le_refl _)]

theorem T_open (r : List Str) (n : Int) : checkT (Str.ofString "(" :: r) n = checkT r (n + 1) := by rw [checkT, if_pos (by decide)]
theorem T_close (r : List Str) (n : Int) : checkT (Str.ofString ")" :: r) n = if n - 1 < 0 then false else checkT r (n - 1) := by rw [checkT, if_neg (by decide), if_pos (by decide)]
theorem T_else (t : Str) (r : List Str) (n : Int) (h1 : (t == Str.ofString "(") = false) (h2 : (t == Str.ofString ")") = false) : checkT (t :: r) n = checkT r n := by
  rw [checkT, if_neg (by rw [h1]; decide), if_neg (by rw [h2]; decide)]

def blk (r : Int) : List Nat := (pcs r).cps.toList
def is7 (r : Int) : Prop := r = 0 ∨ r = 1 ∨ r = 2 ∨ r = 3 ∨ r = 4 ∨ r = 5 ∨ r = 6

theorem tk_blk : tk (blk 0) = [Str.ofString "\\é", Str.ofString "("] ∧ tk (blk 1) = [Str.ofString "\\)", Str.ofString "("] ∧ tk (blk 2) = [Str.ofString "(", Str.ofString "\\("] ∧ tk (blk 3) = [Str.ofString "\\("] ∧
    tk (blk 4) = [] ∧ tk (blk 5) = [Str.ofString ")", Str.ofString "\\)"] ∧ tk (blk 6) = [Str.ofString ")", Str.ofString "\\(", Str.ofString ")"] := by decide +kernel

theorem blk_ok {r : Int} (h : is7 r) : Blk (blk r) := by
  rcases h with rfl | rfl | rfl | rfl | rfl | rfl | rfl
  · exact .inr (by decide +kernel)
  · exact .inr (by decide +kernel)
  · exact .inr (by decide +kernel)
  · exact .inr (by decide +kernel)
  · exact .inl (by decide +kernel)
  · exact .inr (by decide +kernel)
  · exact .inr (by decide +kernel)

theorem good_blk {r : Int} (h : is7 r) : Good (blk r, stp r) := by
  refine ⟨blk_ok h, fun rest n hn => ?_⟩
  obtain ⟨h0, h1, h2, h3, h4, h5, h6⟩ := tk_blk
  dsimp only
  rcases h with rfl | rfl | rfl | rfl | rfl | rfl | rfl
  · rw [h0, show stp 0 = 1 from rfl, if_neg (by omega)]
    show checkT (_ :: _ :: rest) n = _
    rw [T_else _ _ _ (by decide +kernel) (by decide +kernel), T_open]
  · rw [h1, show stp 1 = 1 from rfl, if_neg (by omega)]
    show checkT (_ :: _ :: rest) n = _
    rw [T_else _ _ _ (by decide +kernel) (by decide +kernel), T_open]
  · rw [h2, show stp 2 = 1 from rfl, if_neg (by omega)]
    show checkT (_ :: _ :: rest) n = _
    rw [T_open, T_else _ _ _ (by decide +kernel) (by decide +kernel)]
  · rw [h3, show stp 3 = 0 from rfl, if_neg (by omega), Int.add_zero]
    show checkT (_ :: rest) n = _
    rw [T_else _ _ _ (by decide +kernel) (by decide +kernel)]
  · rw [h4, show stp 4 = 0 from rfl, if_neg (by omega), Int.add_zero]
    rfl
  · rw [h5, show stp 5 = -1 from rfl]
    show checkT (_ :: _ :: rest) n = _
    rw [T_close, T_else _ _ _ (by decide +kernel) (by decide +kernel)]
    rfl
  · rw [h6, show stp 6 = -2 from rfl]
    show checkT (_ :: _ :: _ :: rest) n = _
    rw [T_close, T_else _ _ _ (by decide +kernel) (by decide +kernel), T_close]
    by_cases h1 : n - 1 < 0
    · rw [if_pos h1, if_pos (by omega)]
    · rw [if_neg h1]
      by_cases h2 : n - 1 - 1 < 0
      · rw [if_pos h2, if_pos (by omega)]
      · rw [if_neg h2, if_neg (by omega), show n - 1 - 1 = n + -2 by omega]

theorem good_close : Good ([41], -1) := by
  refine ⟨.inr (by decide +kernel), fun rest n hn => ?_⟩
  have e : tk [41] = [Str.ofString ")"] := by decide +kernel
  dsimp only
  rw [e]
  show checkT (_ :: rest) n = _
  rw [T_close]
  rfl

/-! the pile -/
theorem signs_blk {r : Int} (h : is7 r) : signsOf (pcs r) = tk (blk r) := by
  rcases h with rfl | rfl | rfl | rfl | rfl | rfl | rfl <;> decide +kernel
theorem P_open (r : List Str) (n : Nat) : pileGo (Str.ofString "(" :: r) n = pileGo r (n + 1) := by rw [pileGo, if_pos (by decide)]
theorem P_close (r : List Str) (n : Nat) : pileGo (Str.ofString ")" :: r) n = pileGo r (n - 1) := by rw [pileGo, if_neg (by decide), if_pos (by decide)]
theorem P_else (t : Str) (r : List Str) (n : Nat) (h1 : (t == Str.ofString "(") = false) (h2 : (t == Str.ofString ")") = false) : pileGo (t :: r) n = pileGo r n := by
  rw [pileGo, if_neg (by rw [h1]; decide), if_neg (by rw [h2]; decide)]
theorem pile_blk {r : Int} (h : is7 r) (n : Nat) : pileGo (signsOf (pcs r)) n = ((n : Int) + stp r).toNat := by
  rw [signs_blk h]
  obtain ⟨h0, h1, h2, h3, h4, h5, h6⟩ := tk_blk
  rcases h with rfl | rfl | rfl | rfl | rfl | rfl | rfl
  · rw [h0, show stp 0 = 1 from rfl, P_else _ _ _ (by decide +kernel) (by decide +kernel), P_open, pileGo]; omega
  · rw [h1, show stp 1 = 1 from rfl, P_else _ _ _ (by decide +kernel) (by decide +kernel), P_open, pileGo]; omega
  · rw [h2, show stp 2 = 1 from rfl, P_open, P_else _ _ _ (by decide +kernel) (by decide +kernel), pileGo]; omega
  · rw [h3, show stp 3 = 0 from rfl, P_else _ _ _ (by decide +kernel) (by decide +kernel), pileGo]; omega
  · rw [h4, show stp 4 = 0 from rfl, pileGo]; omega
  · rw [h5, show stp 5 = -1 from rfl, P_close, P_else _ _ _ (by decide +kernel) (by decide +kernel), pileGo]; omega
  · rw [h6, show stp 6 = -2 from rfl, P_close, P_else _ _ _ (by decide +kernel) (by decide +kernel), P_close, pileGo]; omega

def cts : Nat → List Int → List Nat
  | _, [] => []
  | n, d :: r => ((n : Int) + d).toNat :: cts ((n : Int) + d).toNat r
theorem open_cts : ∀ (rs : List Int) (n : Nat), (∀ r ∈ rs, is7 r) → openCounts n (rs.map fun r => signsOf (pcs r)) = cts n (rs.map stp)
  | [], _, _ => rfl
  | r :: rs, n, h => by
    rw [List.map_cons, openCounts, pile_blk (h r List.mem_cons_self), open_cts rs _ fun y hy => h y (List.mem_cons_of_mem _ hy), List.map_cons, cts]
end Mine
/-! Plain4 -/
namespace Mine
open PySem PySem.W PySem.Spec PySem.Calls PyProof.Rows

/-! the law over the steps -/
def runP (ds : List Int) (k : Int) : Bool := run (ds.getD 0 0 :: -1 :: (ds.drop 1 ++ List.replicate k.toNat (-1))) 0
def psums (ds : List Int) : List Int := [(ds.take 1).sum, (ds.take 2).sum, (ds.take 3).sum, (ds.take 4).sum]
def okOne (ds : List Int) : Bool :=
  let cs := (cts 0 ds).map Int.ofNat
  askP (allPos cs) (runP ds (ds.sum - 1)) cs (psums ds)
/-- does the count stay above nought -/
def up : Int → List Int → Bool
  | _, [] => true
  | n, d :: r => decide (0 < n + d) && up (n + d) r
theorem up_cts : ∀ (ds : List Int) (n : Nat), allPos ((cts n ds).map Int.ofNat) = up n ds
  | [], _ => rfl
  | d :: r, n => by
    have ih := up_cts r ((n : Int) + d).toNat
    rw [cts, List.map_cons, allPos, List.all_cons]
    rw [allPos] at ih
    rw [ih, up]
    by_cases h : 0 < (n : Int) + d
    · have e : (((n : Int) + d).toNat : Int) = (n : Int) + d := Int.toNat_of_nonneg (by omega)
      have e' : Int.ofNat ((n : Int) + d).toNat = (n : Int) + d := e
      rw [e', e]
    · have e' : Int.ofNat ((n : Int) + d).toNat = 0 := by
        show (((n : Int) + d).toNat : Int) = 0
        omega
      rw [e', decide_eq_false h, decide_eq_false (by omega)]
      rfl
def okMany (ss : List Int) : Bool := (ordersP.map fun op => if up 0 (pick ss 0 op) = true then (1 : Int) else 0).sum == 6 * max ss.sum 0
def st4s : List Int := [1, 0, -1, -2]
theorem one_all : (st4s.all fun a => st4s.all fun b => st4s.all fun c => st4s.all fun d => okOne [a, b, c, d]) = true := by decide +kernel
theorem many_all : (st4s.all fun a => st4s.all fun b => st4s.all fun c => st4s.all fun d => okMany [a, b, c, d]) = true := by decide +kernel
theorem orders_ok : ordersP.all (fun op => decide (op.length = 4) && op.all fun k => decide (0 ≤ k) && decide (k < 4)) = true := by decide +kernel
theorem orders_len : ordersP.length = 24 := by decide +kernel

theorem pick_map' {α β : Type} (g : α → β) (xs : List α) (d : α) (d' : β) (op : List Int) (h : ∀ k ∈ op, 0 ≤ k ∧ k < (xs.length : Int)) : pick (xs.map g) d' op = (pick xs d op).map g := by
  simp only [pick, List.map_map]
  refine List.map_congr_left fun k hk => ?_
  obtain ⟨h0, h1⟩ := h k hk
  have hlt : k.toNat < xs.length := by omega
  simp [List.getD_eq_getElem?_getD, hlt]

theorem is7_mod (a : Int) : is7 (a.fmod 7) := mod7 a

theorem orders_are : ordersP = [[0, 1, 2, 3], [0, 1, 3, 2], [0, 2, 1, 3], [0, 2, 3, 1], [0, 3, 1, 2], [0, 3, 2, 1], [1, 0, 2, 3], [1, 0, 3, 2], [1, 2, 0, 3], [1, 2, 3, 0], [1, 3, 0, 2], [1, 3, 2, 0],
    [2, 0, 1, 3], [2, 0, 3, 1], [2, 1, 0, 3], [2, 1, 3, 0], [2, 3, 0, 1], [2, 3, 1, 0], [3, 0, 1, 2], [3, 0, 2, 1], [3, 1, 0, 2], [3, 1, 2, 0], [3, 2, 0, 1], [3, 2, 1, 0]] := by decide +kernel
theorem sum_perm (xs : List Int) (hl : xs.length = 4) : ∀ op ∈ ordersP, (pick xs 0 op).sum = xs.sum := by
  obtain ⟨a, b, c, d, rfl⟩ : ∃ a b c d, xs = [a, b, c, d] := by
    match xs, hl with
    | [a, b, c, d], _ => exact ⟨a, b, c, d, rfl⟩
  intro op ho
  rw [orders_are] at ho
  simp only [List.mem_cons, List.not_mem_nil, or_false] at ho
  have S : ∀ x y z u : Int, ([x, y, z, u] : List Int).sum = x + (y + (z + (u + 0))) := fun _ _ _ _ => rfl
  rw [S]
  rcases ho with rfl | rfl | rfl | rfl | rfl | rfl | rfl | rfl | rfl | rfl | rfl | rfl | rfl | rfl | rfl | rfl | rfl | rfl | rfl | rfl | rfl | rfl | rfl | rfl <;>
    (refine (S _ _ _ _).trans ?_; simp; try omega)

/-- the law, over the numbers -/
theorem plain (ns : List Int) (hn : ns.length = 4) :
    manyP ((ns.map pieceF).map signsOf) ordersP = 6 * max (ns.map stepOf).sum 0 ∧ ∀ op ∈ ordersP, turnAsk (ns.map stepOf) (ns.map pieceF) ((ns.map pieceF).map signsOf) op = true := by
  -- the kinds
  generalize hrs : ns.map (fun a => a.fmod 7) = rs
  have hrl : rs.length = 4 := by rw [← hrs, List.length_map, hn]
  have hr7 : ∀ r ∈ rs, is7 r := fun r hr => by
    rw [← hrs] at hr
    obtain ⟨a, _, rfl⟩ := List.mem_map.mp hr
    exact is7_mod a
  have hps : ns.map pieceF = rs.map pcs := by rw [← hrs, List.map_map]; exact List.map_congr_left fun a _ => pieceF_eq a
  have hss : ns.map stepOf = rs.map stp := by rw [← hrs, List.map_map]; rfl
  rw [hps, hss]
  have hls : (rs.map pcs).map signsOf = rs.map fun r => signsOf (pcs r) := by rw [List.map_map]; rfl
  rw [hls]
  have hop : ∀ op ∈ ordersP, op.length = 4 ∧ ∀ k ∈ op, 0 ≤ k ∧ k < (rs.length : Int) := fun op ho => by
    have := List.all_eq_true.mp orders_ok op ho
    simp only [Bool.and_eq_true, decide_eq_true_eq, List.all_eq_true] at this
    exact ⟨this.1, fun k hk => by have := this.2 k hk; rw [hrl]; exact this⟩
  have hmem : ∀ op ∈ ordersP, ∀ r ∈ pick rs 0 op, is7 r := fun op ho r hr => hr7 r (pick_mem (hop op ho).2 r hr)
  have hcount : ∀ op ∈ ordersP, countsP (rs.map fun r => signsOf (pcs r)) op = (cts 0 (pick (rs.map stp) 0 op)).map Int.ofNat := fun op ho => by
    unfold countsP
    rw [pick_map' (fun r => signsOf (pcs r)) rs 0 [] op (hop op ho).2, open_cts _ _ (hmem op ho), pick_map' stp rs 0 0 op (hop op ho).2]
  have htaken : ∀ op ∈ ordersP, ∀ k : Int, takenP (rs.map pcs) op k = runP (pick (rs.map stp) 0 op) k := fun op ho k => by
    obtain ⟨hl, hb⟩ := hop op ho
    obtain ⟨o0, os, rfl⟩ : ∃ o0 os, op = o0 :: os := by
      cases op with
      | nil => simp at hl
      | cons x r => exact ⟨x, r, rfl⟩
    have hb' : ∀ k ∈ os, 0 ≤ k ∧ k < (rs.length : Int) := fun k hk => hb k (List.mem_cons_of_mem _ hk)
    have hp : pick (rs.map stp) 0 (o0 :: os) = stp (rs.getD o0.toNat 0) :: (pick rs 0 os).map stp := by
      rw [pick_map' stp rs 0 0 _ hb]
      rfl
    have h0 : (rs.map pcs).getD o0.toNat sE = pcs (rs.getD o0.toNat 0) := by
      have := pick_map' pcs rs 0 sE [o0] (fun k hk => by rw [List.mem_singleton.mp hk]; exact hb o0 List.mem_cons_self)
      exact (List.cons.inj this).1
    unfold takenP runP
    rw [hp]
    rw [taken_run (takenT (rs.map pcs) (o0 :: os) k) ((blk (rs.getD o0.toNat 0), stp (rs.getD o0.toNat 0)) :: ([41], -1) :: ((pick rs 0 os).map (fun r => (blk r, stp r)) ++ List.replicate k.toNat ([41], -1)))]
    · simp only [List.map_cons, List.map_append, List.map_map, List.map_replicate]
      rfl
    · intro p hp
      rcases List.mem_cons.mp hp with rfl | hp
      · exact good_blk (hmem _ ho _ List.mem_cons_self)
      rcases List.mem_cons.mp hp with rfl | hp
      · exact good_close
      rcases List.mem_append.mp hp with hp | hp
      · obtain ⟨r, hr, rfl⟩ := List.mem_map.mp hp
        exact good_blk (hmem _ ho _ (List.mem_cons_of_mem _ hr))
      · rw [List.eq_of_mem_replicate hp]
        exact good_close
    · have e : ∀ a b : Str, (a ++ b).cps.toList = a.cps.toList ++ b.cps.toList := fun a b => by
        show (a.cps ++ b.cps).toList = _
        simp
      unfold takenT
      rw [e, e, e, show (o0 :: os).getD 0 0 = o0 from rfl, h0]
      unfold textP
      rw [cat_join', show (o0 :: os).drop 1 = os from rfl, pick_map' pcs rs 0 sE os hb']
      have e1 : (rp k).cps.toList = (List.replicate k.toNat [41]).flatten := by
        unfold rp
        rw [List.toList_toArray]
        induction k.toNat with
        | zero => rfl
        | succ n ih => rw [List.replicate_succ, List.replicate_succ, List.flatten_cons, ← ih]; rfl
      rw [e1]
      have e2 : (Str.ofString ")").cps.toList = [41] := rfl
      rw [e2]
      simp only [cat, List.flatMap_map, List.map_cons, List.map_append, List.map_map, List.map_replicate, List.flatten_cons, List.flatten_append]
      rw [List.append_assoc, List.append_assoc]
      congr 1
  -- the steps
  obtain ⟨a, b, c, d, hs⟩ : ∃ a b c d, rs = [a, b, c, d] := by
    match rs, hrl with
    | [a, b, c, d], _ => exact ⟨a, b, c, d, rfl⟩
  have hstp : ∀ r, is7 r → stp r ∈ st4s := fun r h => by rcases h with rfl | rfl | rfl | rfl | rfl | rfl | rfl <;> decide
  have all4 : ∀ {g : List Int → Bool}, (st4s.all fun a => st4s.all fun b => st4s.all fun c => st4s.all fun d => g [a, b, c, d]) = true → ∀ xs : List Int, xs.length = 4 → (∀ x ∈ xs, x ∈ st4s) → g xs = true := by
    intro g h xs hl hx
    obtain ⟨a, b, c, d, rfl⟩ : ∃ a b c d, xs = [a, b, c, d] := by
      match xs, hl with
      | [a, b, c, d], _ => exact ⟨a, b, c, d, rfl⟩
    have h1 := List.all_eq_true.mp h _ (hx a (by simp))
    have h2 := List.all_eq_true.mp h1 _ (hx b (by simp))
    have h3 := List.all_eq_true.mp h2 _ (hx c (by simp))
    exact List.all_eq_true.mp h3 _ (hx d (by simp))
  have hs4 : ∀ x ∈ rs.map stp, x ∈ st4s := fun x hx => by
    obtain ⟨r, hr, rfl⟩ := List.mem_map.mp hx
    exact hstp r (hr7 r hr)
  have hsl : (rs.map stp).length = 4 := by rw [List.length_map, hrl]
  refine ⟨?_, fun op ho => ?_⟩
  · have h1 := all4 many_all _ hsl hs4
    unfold okMany at h1
    rw [beq_iff_eq] at h1
    rw [← h1]
    unfold manyP
    congr 1
    refine List.map_congr_left fun op ho => ?_
    unfold turnMany
    rw [hcount op ho, up_cts]
    rfl
  · have hpk : ∀ x ∈ pick (rs.map stp) 0 op, x ∈ st4s := fun x hx => hs4 x (pick_mem (fun k hk => by rw [List.length_map]; exact (hop op ho).2 k hk) x hx)
    have h2 := all4 one_all _ (by rw [pick, List.length_map]; exact (hop op ho).1) hpk
    have hsum : (pick (rs.map stp) 0 op).sum = (rs.map stp).sum := sum_perm _ hsl op ho
    have hps : sumsP (rs.map stp) op = psums (pick (rs.map stp) 0 op) := by
      unfold sumsP psums sumTo pick
      simp only [List.map_cons, List.map_nil, List.map_take]
      rfl
    unfold turnAsk
    rw [hcount op ho, htaken op ho, hps, ← hsum]
    exact h2
end Mine
/-! Law16 -/
namespace Mine
open PySem PySem.W PySem.Spec PySem.Calls PyProof.Rows

section
variable {w : World} {A : Around} {mean : ExcName → Option Value} {mg mb : Str → Option Value} {s : Shared} {f a : Addr} {o : Obj} {pm cd doc : Value} {R : Result → Shared → Prop} {l : List (Int × Tok)}

theorem sum_bounds : ∀ (xs : List Int), (∀ x ∈ xs, -2 ≤ x ∧ x ≤ 1) → -2 * (xs.length : Int) ≤ xs.sum ∧ xs.sum ≤ xs.length
  | [], _ => by simp
  | x :: r, h => by
    have h1 := h x List.mem_cons_self
    have h2 := sum_bounds r fun y hy => h y (List.mem_cons_of_mem _ hy)
    simp only [List.sum_cons, List.length_cons]
    push_cast
    omega
theorem step_bounds (a : Int) : -2 ≤ stepOf a ∧ stepOf a ≤ 1 := by
  unfold stepOf
  simp only []
  split; omega; split; omega; split; omega; split; omega; split; omega; split; omega; omega

theorem mem_of_maps {α β γ : Type} {g : α → β} {h : γ → β} : ∀ {xs : List α} {ys : List γ}, xs.map g = ys.map h → ∀ x ∈ xs, ∃ y ∈ ys, g x = h y := by
  intro xs ys e x hx
  have : g x ∈ ys.map h := e ▸ List.mem_map_of_mem hx
  obtain ⟨y, hy, he⟩ := List.mem_map.mp this
  exact ⟨y, hy, he.symm⟩

set_option maxHeartbeats 4000000 in
theorem law_call (hh : A.handled = none) (hd : A.depth + 8 < recursionLimit) (hu : A.units + 3 < cLine) (T : Top q loose mean mg mb s.heap) (K : Cl s.heap) (HB : B1 w mg s.heap) (hmg : mg "_Accumulator" = some (.ref 101))
    (hl : s.heap.IsList a (intVs l).toArray) (hz : l.length ≤ 63)
    (ho : s.heap.get? f = some o) (hdat : o.data = .func (fdLaw pm cd doc)) (hcd : s.heap.CodeRec cd rLaw.1.name)
    (hR : ∀ s', Kp s s' → R (.ok (.ret (.bool true))) s') : codeAny (model pw w) A (.call (.ref f) ⟨[.ref a], []⟩) R s := by
  refine codeAny_call_cells (fd := fdLaw pm cd doc) (binds := [(Str.ofString "script", .ref a)]) (by omega) ho hdat T.nolimit hcd rfl rfl rfl ?_ ?_ (by rfl) (by rfl) (by rfl)
  · intro x hx
    rw [List.mem_singleton.mp hx]
    exact .inl (by rfl)
  intro s₁ x
  have hF : LSt s (bindL (callEnvC (fdLaw pm cd doc) s.heap.objs.size f).kindOf [(Str.ofString "script", .ref a)] fun _ => none) none none none none s₁ := by
    obtain ⟨h', tk, rfl, kk⟩ := x.toInCall.done
    refine ⟨(Kp.refl s).step fun b o y _ => kk b o y, x.toInCall.ns, ?_, ?_, ?_, ?_⟩
    · exact x.cell "steps" _ (by rfl)
    · exact x.cell "pieces" _ (by rfl)
    · exact x.cell "lists" _ (by rfl)
    · exact x.cell "order" _ (by rfl)
  have hh' : (A.deeper (callEnvC (fdLaw pm cd doc) s.heap.objs.size f)).handled = none := hh
  have hdd : (A.deeper (callEnvC (fdLaw pm cd doc) s.heap.objs.size f)).depth = A.depth + 1 := rfl
  have huu : (A.deeper (callEnvC (fdLaw pm cd doc) s.heap.objs.size f)).units < cLine := hu
  generalize A.deeper (callEnvC (fdLaw pm cd doc) s.heap.objs.size f) = A' at *
  -- numbers
  refine wpAny_execs_cons (law_numbers T hF (by rfl) hl hz fun h₁ tk₁ N nl F₁ hNo hN hnl => ?_)
  have hnz : nl.length = 4 := by
    have := congrArg List.length hnl
    rw [List.length_map, numsOf4_len] at this; exact this
  generalize hns : numsOf4 (l.map (·.1)) = ns at *
  have hns4 : ns.length = 4 := by rw [← hnl, List.length_map, hnz]
  -- steps
  refine wpAny_execs_cons (law_steps hh' F₁ (by rfl) hN hnz fun h₂ tk₂ S sl F₂ hSo k₂ hS hsl => ?_)
  rw [hnl] at hsl
  have N₂ : h₂.IsList N (intVs nl).toArray := hN.at fun o y => k₂ _ o hNo.c1 y
  -- pieces
  refine wpAny_execs_cons (law_pieces hh' (by omega) T HB F₂ (by rfl) N₂ hnz fun h₃ tk₃ P pl F₃ hPo k₃ hP hpl => ?_)
  rw [hnl] at hpl
  have S₃ : h₃.IsList S (intVs sl).toArray := hS.at fun o y => k₃ _ o hSo.c2 y
  have hp4 : pl.length = 4 := by
    have := congrArg List.length hpl
    rw [List.length_map, List.length_map, hns4] at this; exact this
  have hpm : ∀ p ∈ pl, ∃ v ∈ ns, p.1 = pieceF v := mem_of_maps (g := fun p : Str × Tok => p.1) hpl
  -- lists
  refine wpAny_execs_cons (law_lists hh' (by omega) T F₃ hP hp4 (fun p hp => ?_) fun s₄ Sg ls F₄ hSgo k₄ hSg hls hlm => ?_)
  · obtain ⟨v, _, e⟩ := hpm p hp
    rw [e]
    have := sizes v
    omega
  have S₄ : s₄.heap.IsList S (intVs sl).toArray := S₃.at fun o y => k₄ _ o hSo.c3 y
  have P₄ : s₄.heap.IsList P (strValues pl).toArray := hP.at fun o y => k₄ _ o hPo.c3 y
  have hlp : (ls.map fun p => p.2.map (·.1)) = (ns.map pieceF).map signsOf := by rw [hlm, ← hpl, List.map_map]; rfl
  have hl4 : ls.length = 4 := by
    have := congrArg List.length hlp
    rw [List.length_map, List.length_map, List.length_map, hns4] at this; exact this
  -- orders
  refine wpAny_execs_cons (law_orders hh' T F₄ fun h₅ tk₅ O os F₅ hOo k₅ hO hos hom => ?_)
  have S₅ : h₅.IsList S (intVs sl).toArray := S₄.at fun o y => k₅ _ o hSo.l y
  have P₅ : h₅.IsList P (strValues pl).toArray := P₄.at fun o y => k₅ _ o hPo.l y
  have G₅ : h₅.IsList Sg (refsOf ls).toArray := hSg.at fun o y => k₅ _ o hSgo.l y
  have D₅ : Dat s S P Sg O sl pl ls os h₅ := ⟨S₅, P₅, G₅, fun p hp => (hls p hp).1.at fun o y => k₅ _ o (hls p hp).2.l y, hO, fun p hp => (hos p hp).1⟩
  have hOff : ∀ b ∈ adrs S P Sg O ls os, Off s b := by
    intro b hb
    simp only [adrs, List.mem_cons, List.mem_append, List.mem_map] at hb
    rcases hb with rfl | rfl | rfl | rfl | ⟨p, hp, rfl⟩ | ⟨p, hp, rfl⟩
    · exact hSo
    · exact hPo
    · exact hSgo
    · exact hOo
    · exact (hls p hp).2
    · exact (hos p hp).2
  -- many, asked
  refine wpAny_execs_cons (law_many F₅ fun h₆ tk₆ t₆ F₆ k₆ => ?_)
  have D₆ := D₅.keep fun b hb o y => k₆ b o (hOff b hb).l y
  refine wpAny_execs_cons (law_asked F₆ fun h₇ tk₇ Da F₇ hDo hDn hD k₇ => ?_)
  have D₇ := D₆.keep fun b hb o y => k₇ b o (hOff b hb).l y
  have hne : ∀ b ∈ adrs S P Sg O ls os, b ≠ Da := by
    intro b hb
    have il : ∀ {a xs}, h₆.IsList a xs → a ≠ Da := by
      rintro a xs ⟨o, e, _⟩ rfl
      rw [show h₆.get? a = none from hDn] at e; cases e
    simp only [adrs, List.mem_cons, List.mem_append, List.mem_map] at hb
    rcases hb with rfl | rfl | rfl | rfl | ⟨p, hp, rfl⟩ | ⟨p, hp, rfl⟩
    · exact il D₆.steps
    · exact il D₆.pieces
    · exact il D₆.lists
    · exact il D₆.orders
    · exact il (D₆.signs p hp)
    · exact il (D₆.order p hp)
  have hD₀ : s.heap.get? Da = none := by
    cases hg : s.heap.get? Da with
    | none => rfl
    | some o => have := F₆.kp.keep _ _ hg; rw [hDn] at this; cases this
  have hsum : -900 ≤ (sl.map (·.1)).sum ∧ (sl.map (·.1)).sum ≤ 4 := by
    have hb := sum_bounds (sl.map (·.1)) fun x hx => by
      rw [hsl] at hx
      obtain ⟨v, _, rfl⟩ := List.mem_map.mp hx
      exact step_bounds v
    have hlen : (sl.map (·.1)).length = 4 := by rw [hsl, List.length_map, hns4]
    rw [hlen] at hb
    omega
  have X : Fits sl pl ls os := by
    refine ⟨?_, hsum, hp4, fun p hp => ?_, hl4, fun p hp => ?_, fun p hp => ?_, ?_⟩
    · have := congrArg List.length hsl
      rw [List.length_map, List.length_map, hns4] at this; exact this
    · obtain ⟨v, _, e⟩ := hpm p hp
      rw [e]; exact (sizes v).1
    · obtain ⟨q', hq, e⟩ := mem_of_maps (g := fun p : Addr × List (Str × Tok) => p.2.map (·.1)) hlm p hp
      obtain ⟨v, _, e'⟩ := hpm q' hq
      have h1 := (sizes v).2.2
      rw [← e', ← e, List.length_map] at h1
      exact h1
    · have hm : p.2.map (·.1) ∈ ordersP := hom ▸ List.mem_map_of_mem hp
      have := List.all_eq_true.mp orders_ok _ hm
      simp only [Bool.and_eq_true, decide_eq_true_eq, List.all_eq_true] at this
      refine ⟨by rw [← this.1, List.length_map], fun x hx => this.2 _ (List.mem_map_of_mem hx)⟩
    · have := congrArg List.length hom
      rw [List.length_map, orders_len] at this; omega
  obtain ⟨pl1, pl2⟩ := plain ns hns4
  -- the loop
  refine wpAny_execs_cons (law_loop hh' (by omega) huu T K hmg X D₇ (fun b hb => ⟨hOff b hb, hne b hb⟩) F₇ (by rfl) (by rfl) (by rfl) hD hDo hD₀ fun s₈ m₈ t₈ c₈ F₈ D₈ hmn hma hP₈ => ?_)
  rw [hlp, hom, pl1, ← hsl] at hmn
  rw [hlp, hom, hsl, hpl] at hP₈
  refine wpAny_execs_cons (law_if hh' T F₈ D₈.steps hsum hmn rfl fun h₉ tk₉ F₉ k₉ => ?_)
  refine wpAny_execs_cons (law_end F₉ hma (hP₈.keeps k₉) (fun b hb => ?_) fun tk hk => hR _ hk)
  obtain ⟨op, hop, rfl⟩ := List.mem_map.mp hb
  exact pl2 op hop
end
end Mine
/-! Head1 -/
namespace Mine
open PySem PySem.W PySem.Spec PySem.Calls PyProof.Rows

/-! the top's run, and what it leaves -/
def Xt (s : Shared) : Bool := xlAt q [] s && recOk [] s

def o101 : Obj := { cls := .type "type", data := .cls { name := Str.ofString "_Accumulator", bases := [.type "list"], mro := [.ref 101, .type "list", .type "object"], ns := 100, qualname := Str.ofString "_Accumulator" }, slots := #[some (.ref 22), none, some (.str (Str.ofString "_Accumulator") 198), some (.str (Str.ofString "_Accumulator") 206), some (.builtin "list.__new__"), some (.bool true)] }
def oF (d : Str × Arguments × List Stmt × Scope) (qual : Str) (cl : List (Str × Addr)) (dflt code ct : Value) : Obj := { cls := .type "function", data := .func (fdOf d qual cl dflt (.str (Str.ofString "cpy313.email.header") 194) code ct) }
def o134 (led : Bool) : Obj := { cls := .type "set", data := .set #[(65024, Value.int 65024 345), (65025, Value.int 65025 346), (65026, Value.int 65026 347), (65027, Value.int 65027 348), (65028, Value.int 65028 349), (65029, Value.int 65029 350), (6150, Value.int 6150 331), (65030, Value.int 65030 351), (65031, Value.int 65031 352), (65032, Value.int 65032 353), (65033, Value.int 65033 354), (6155, Value.int 6155 332), (6156, Value.int 6156 333), (6157, Value.int 6157 334), (8203, Value.int 8203 335), (8204, Value.int 8204 336), (8205, Value.int 8205 337), (65034, Value.int 65034 355), (65035, Value.int 65035 356), (65036, Value.int 65036 357), (65037, Value.int 65037 358), (65038, Value.int 65038 359), (65039, Value.int 65039 360), (173, Value.int 173 329), (847, Value.int 847 330), (8288, Value.int 8288 338), (65279, Value.int 65279 339)] 29 { mask := 127, place := #[0, 1, 2, 3, 4, 5, 6, 7, 8, 9, 10, 11, 12, 13, 14, 15, 16, 17, 18, 19, 20, 21, 22, 45, 79, 96, 127], dummies := #[], finger := 0, led := led, moves := 2, plain := true } }

def codeSeen (h : Heap) (a : Addr) : Option (Option Value × Option Value) := match h.get? a with
  | some o => (match o.data with | .fields vs => some (vs[1]?, vs[2]?) | _ => none)
  | none => none

def Yf (s : Shared) : List (Option Obj) × List (Option (Option Value × Option Value)) × (Bool × List (Option Value)) × (Bool × Option Value) × List (Option Value) :=
  ([s.heap.get? 25, s.heap.get? 30, s.heap.get? 38, s.heap.get? 45, s.heap.get? 61, s.heap.get? 98, s.heap.get? 101, s.heap.get? 134],
   [codeSeen s.heap 37, codeSeen s.heap 44, codeSeen s.heap 60, codeSeen s.heap 97],
   (s.heap.isNs 100, [Str.ofString "__init__", "push", "pop", "part_count", "__getattribute__", "__getattr__", "__setattr__", "_initial_size", "append", "__new__", "__del__"].map (s.heap.nsMap 100)),
   (s.heap.isNs cStatics, s.heap.nsMap cStatics "thirdparty.any"),
   [s.heap.nsMap mainGlobals "_Accumulator", s.heap.nsMap mainGlobals "b1_set"])
def Ya (w : World) : List (Option Obj) × List (Option (Option Value × Option Value)) × (Bool × List (Option Value)) × (Bool × Option Value) × List (Option Value) :=
  ([some { cls := .type "cell", data := .cell (some (.ref 101)) }, some { cls := .type "tuple", data := .seq #[.int 0 210] }, some (oF mInit.1 qInit cCell (.ref 30) (.ref 37) (.ref 31)), some (oF mPush.1 qPush [] .none (.ref 44) .none),
    some (oF mPop.1 qPop cCell .none (.ref 60) (.ref 54)), some (oF mPart.1 qPart cCell .none (.ref 97) (.ref 91)), some o101, some (o134 (!w.params.followText "set-order"))],
   [some (some (.str (Str.ofString "_Accumulator.__init__") 212), some (.str (Str.ofString "/claim/cut.py") 213)), some (some (.str (Str.ofString "_Accumulator.push") 221), some (.str (Str.ofString "/claim/cut.py") 222)),
    some (some (.str (Str.ofString "_Accumulator.pop") 239), some (.str (Str.ofString "/claim/cut.py") 240)), some (some (.str (Str.ofString "_Accumulator.part_count") 276), some (.str (Str.ofString "/claim/cut.py") 277))],
   (true, [some (.ref 38), some (.ref 45), some (.ref 61), some (.ref 98), none, none, none, none, none, none, none]),
   (true, none),
   [some (.ref 101), some (.ref 134)])

/-- what a world must show for the head -/
def shown : { P : World → Prop // LeftO pw q loose Xt Yf Ya 1900 = ∀ w, P w } := ⟨_, rfl⟩

-- each way is a lemma of its own, so that the kernel's memory is let go between the two
set_option maxHeartbeats 0 in
theorem way0 (w : World) : shown.1 (w.withFollow "special-get-raises" false) := by
  show Option.map _ _ = _
  unfold openEnds fencedOpening topFrom
  rw [PySem.W.Fast.te10274390034422433532, PySem.W.Fast.te14364793385576792824, PySem.W.Fast.te14082659384304107361, PySem.W.Fast.te4187177175401517315]
  kernel_rfl
set_option maxHeartbeats 0 in
theorem way1 (w : World) : shown.1 (w.withFollow "special-get-raises" true) := by
  show Option.map _ _ = _
  unfold openEnds fencedOpening topFrom
  rw [PySem.W.Fast.te10274390034422433532, PySem.W.Fast.te14364793385576792824, PySem.W.Fast.te14082659384304107361, PySem.W.Fast.te4187177175401517315]
  kernel_rfl
theorem left : LeftO pw q loose Xt Yf Ya 1900 := fun w => byRow2 "special-get-raises" (P := shown.1) way0 way1 w
end Mine
/-! Head2 -/
namespace Mine
open PySem PySem.W PySem.Spec PySem.Calls PyProof.Rows

theorem code_seen {h : Heap} {a : Addr} {x : Option Value × Option Value} (e : codeSeen h a = some x) : ∃ o vs, h.get? a = some o ∧ o.data = .fields vs ∧ vs[1]? = x.1 ∧ vs[2]? = x.2 := by
  unfold codeSeen at e
  cases ho : h.get? a with
  | none => rw [ho] at e; cases e
  | some o =>
    rw [ho] at e
    dsimp only at e
    cases hd : o.data with
    | fields vs => rw [hd] at e; cases e; exact ⟨o, vs, rfl, hd, rfl, rfl⟩
    | _ => rw [hd] at e; cases e

def b1p : List (Int × Nat) := [(65024, 345), (65025, 346), (65026, 347), (65027, 348), (65028, 349), (65029, 350), (6150, 331), (65030, 351), (65031, 352), (65032, 353), (65033, 354), (6155, 332), (6156, 333), (6157, 334), (8203, 335), (8204, 336),
  (8205, 337), (65034, 355), (65035, 356), (65036, 357), (65037, 358), (65038, 359), (65039, 360), (173, 329), (847, 330), (8288, 338), (65279, 339)]
theorem b1p_hash : b1p.all (fun p => decide (p.1 = hashInt p.1)) = true := by decide +kernel
theorem b1p_sub : b1p.all (fun p => (b1s.map Int.ofNat).contains p.1) = true := by decide +kernel
theorem b1p_sup : (b1s.map Int.ofNat).all (fun k => b1p.any fun p => p.1 == k) = true := by decide +kernel

theorem set_of {w : World} {h : Heap} {led : Bool} (e : h.get? 134 = some (o134 led)) : h.SetOf (intKind pw w) 134 isB1 27 := by
  refine ⟨o134 led, (b1p.map fun p => (p.1, Value.int p.1 p.2)).toArray, 29, _, e, ⟨rfl, rfl, rfl⟩, rfl, ?_, ?_, by decide +kernel, by cases led <;> decide +kernel, by decide +kernel⟩
  · intro x hx
    rw [List.toList_toArray] at hx
    obtain ⟨p, hp, rfl⟩ := List.mem_map.mp hx
    refine ⟨⟨p.1, by simp [intKind, Value.isInt], ?_⟩, rfl⟩
    have := List.all_eq_true.mp b1p_hash p hp
    exact of_decide_eq_true this
  · intro k
    rw [List.toList_toArray]
    constructor
    · intro hk
      unfold isB1 at hk
      have h1 := List.all_eq_true.mp b1p_sup k (List.contains_iff_mem.mp hk)
      obtain ⟨p, hp, hpk⟩ := List.any_eq_true.mp h1
      exact ⟨_, List.mem_map_of_mem hp, hpk⟩
    · rintro ⟨x, hx, hxk⟩
      obtain ⟨p, hp, rfl⟩ := List.mem_map.mp hx
      have h1 := List.all_eq_true.mp b1p_sub p hp
      have : p.1 = k := by
        have : (p.1 == k) = true := hxk
        exact beq_iff_eq.mp this
      rw [← this]
      exact h1

structure Facts (w : World) (h : Heap) : Prop where
  cl : Cl h
  set : h.SetOf (intKind pw w) 134 isB1 27
  acc : h.nsMap mainGlobals "_Accumulator" = some (.ref 101)
  b1 : h.nsMap mainGlobals "b1_set" = some (.ref 134)

theorem facts {w : World} {s : Shared} (e : Yf s = Ya w) : Facts w s.heap := by
  unfold Yf Ya at e
  simp only [Prod.mk.injEq, List.cons.injEq, List.map_cons, List.map_nil, and_true] at e
  obtain ⟨⟨e25, e30, e38, e45, e61, e98, e101, e134⟩, ⟨c37, c44, c60, c97⟩, ⟨n100, ni, npu, npo, npa, nx⟩, ⟨nst, nth⟩, mA, mB⟩ := e
  obtain ⟨o37, v37, g37, d37, r37, f37⟩ := code_seen c37
  obtain ⟨o44, v44, g44, d44, r44, f44⟩ := code_seen c44
  obtain ⟨o60, v60, g60, d60, r60, f60⟩ := code_seen c60
  obtain ⟨o97, v97, g97, d97, r97, f97⟩ := code_seen c97
  refine ⟨⟨⟨Str.ofString "_Accumulator", [], some (.ref 22), none, some (.str (Str.ofString "_Accumulator") 198), some (.str (Str.ofString "_Accumulator") 206), some (.bool true), e101⟩, ⟨_, .of_isNs n100, ni, npu, npo, npa, ?_⟩, ⟨_, e25, rfl⟩,
    ⟨_, _, _, e38, rfl, rfl⟩, ⟨_, _, e45, rfl, rfl⟩, ⟨_, _, _, e61, rfl, rfl⟩, ⟨_, _, _, e98, rfl, rfl⟩, ⟨_, _, _, e30, rfl⟩, ?_, ⟨_, .of_isNs nst, nth⟩,
    ⟨_, _, _, _, rfl, g37, d37, r37⟩, ⟨_, _, _, _, rfl, g44, d44, r44⟩, ⟨_, _, _, _, rfl, g60, d60, r60⟩, ⟨_, _, _, _, rfl, g97, d97, r97⟩⟩, set_of e134, mA, mB⟩
  · intro y hy
    obtain ⟨h1, h2, h3, h4, h5, h6, h7⟩ := nx
    simp only [List.mem_cons, List.not_mem_nil, or_false] at hy
    rcases hy with rfl | rfl | rfl | rfl | rfl | rfl | rfl
    · exact h1
    · exact h2
    · exact h3
    · exact h4
    · exact h5
    · exact h6
    · exact h7
  · intro c hc
    simp only [List.mem_cons, List.not_mem_nil, or_false] at hc
    rcases hc with rfl | rfl | rfl | rfl
    · exact ⟨_, _, _, g37, d37, f37⟩
    · exact ⟨_, _, _, g44, d44, f44⟩
    · exact ⟨_, _, _, g60, d60, f60⟩
    · exact ⟨_, _, _, g97, d97, f97⟩
theorem intVs_of : ∀ {vs : List Value} {ns : List Int}, IntsAre vs ns → ∃ l, vs = intVs l ∧ l.map (·.1) = ns
  | _, _, .nil => ⟨[], rfl, rfl⟩
  | _, _, .cons n t h => by
    obtain ⟨l, rfl, e⟩ := intVs_of h
    exact ⟨(n, t) :: l, rfl, by rw [List.map_cons, e]⟩

theorem ns_up {h h' : Heap} {a : Addr} {x : Str} {v : Value} (k : ∀ b o, h.get? b = some o → h'.get? b = some o) (e : h.nsMap a x = some v) : h'.nsMap a x = some v := by
  unfold Heap.nsMap at e ⊢
  cases ho : h.get? a with
  | none => rw [ho] at e; cases e
  | some o => rw [ho] at e; rw [k _ _ ho]; exact e

theorem Facts.keeps {w : World} {h h' : Heap} (x : Facts w h) (k : ∀ b o, h.get? b = some o → h'.get? b = some o) : Facts w h' :=
  ⟨x.cl.keeps k, let ⟨o, es, ep, t, ho, r⟩ := x.set; ⟨o, es, ep, t, k _ _ ho, r⟩, ns_up k x.acc, ns_up k x.b1⟩

/-- the law, called from outside -/
theorem law_out {w : World} {s : Shared} {mean : ExcName → Option Value} {mg mb : Str → Option Value} {f a : Addr} {o : Obj} {pm cd doc : Value} {vs : List Value} {ns : List Int} {Q : Value → Shared → Prop} {E : Value → Shared → Prop}
    (T : Top q loose mean mg mb s.heap) (X : Facts w s.heap) (hl : s.heap.IsList a vs.toArray) (hi : IntsAre vs ns) (hz : ns.length ≤ 63)
    (ho : s.heap.get? f = some o) (hdat : o.data = .func (fdLaw pm cd doc)) (hcd : s.heap.CodeRec cd rLaw.1.name) (hR : ∀ s', Kp s s' → Q (.bool true) s') : wpAny (model pw w) callerA (call (.ref f) [.ref a]) Q E s := by
  obtain ⟨l, rfl, rfl⟩ := intVs_of hi
  have hmg := Heap.Ns.eq_nsMap T.g
  refine wpAny_call (law_call rfl (by decide) (by decide) T X.cl ⟨134, 27, hmg ▸ X.b1, X.set⟩ (hmg ▸ X.acc) hl (by simpa using hz) ho hdat hcd fun s' k => ?_)
  exact hR s' k
end Mine

open PySem PySem.W PySem.Spec PySem.Calls PyProof.Rows
theorem PySem.Challenge.cw_wf0018_01_holds : PySem.Challenge.rw_wf0018_01.Holds := by
  w_on
  o_law
  refine holds_openX (q := Mine.q) (loose := Mine.loose) (Xt := Mine.Xt) (XP := XL Mine.q []) (Yf := Mine.Yf) (Ya := Mine.Ya) (N := 1900) Mine.left (fun s e => xl_of s (Bool.and_eq_true_iff.mp e).1) XL.keeps (by rfl) (by rfl) (by rfl) (fun s e => recFacts_of (Bool.and_eq_true_iff.mp e).2) (by rfl) (by decide +kernel) (by decide +kernel) ⟨rfl, rfl, rfl, rfl, rfl, by decide +kernel⟩ ?hw ?hc
  case hw => w_witness2
  case hc =>
    intro w s₀ s₁ mg mb G Y a o pm cd doc dV kV ho hdat hcd hdf hmg hgens args vals as L hpre hlay hreads hwell hsys
    have hX := (Mine.facts Y).keeps L.keeps
    obtain rfl := hdf.none rfl
    obtain rfl := hdf.noKw
    clear hdf Y
    wrow_args hpre hlay hreads hwell hsys
    rename_i ns hs hlay0 hL1 hr1 hl2 w4 w3 A1 vs w0 hL ra w1 r0 hI hr hc1 hc2
    refine Mine.law_out G.T hX hL hI (by omega) ho hdat hcd fun s' k => ?_
    refine ⟨.inl ⟨_, .bool true, [], rfl, fun _ => rfl, .bool true, ?_, fun _ => ⟨.nil, fun _ ha => nomatch ha⟩⟩, .of_keep k.keep, ?_, ?_⟩
    · wrow_post
    · obtain ⟨h', tk, gs', rfl, kk, GG⟩ := k
      rfl
    · obtain ⟨h', tk, gs', rfl, kk, GG⟩ := k
      exact GG.2.2 fun y hy => by rw [hgens] at hy; simp at hy
