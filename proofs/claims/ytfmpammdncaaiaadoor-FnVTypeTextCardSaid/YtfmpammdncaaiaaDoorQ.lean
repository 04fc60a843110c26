/-
  A GENERAL LAW, of whatever program: a function that only reckons (its callees too; no memory is read or written; it may draw orders, and it may loop) returns what the model's own evaluation of its body gives ('Q.run'); of the world at most the count of draws turns. The evaluation is left to the kernel; a frame's slots stand in a list of those that were written; where a test's answer is open a script says it, and the evaluation lists what must hold for that.
  No condition beside that the evaluation ends in a value and that what it lists holds.
-/
import Derived.Tactics2
import Derived.Deep.QuietTactic
import Derived.LoopN
import Derived.KernelRfl
namespace Go.Q
open Go

/-- What an evaluation ends in: a value, and what was taken for true. -/
abbrev Out := Option (Value × List (Bool × Bool))
abbrev Env := List (Nat × Value)
/-- A script: so many tests are reckoned; the next one's answer is this. -/
abbrev St := List (Nat × Bool)
abbrev CallK := FuncId → Array Value → (Value → St → Out) → St → Out

def note (t b : Bool) : Out → Out
  | some (v, obs) => some (v, (t, b) :: obs)
  | none => none

def get : Env → Nat → Value
  | [], _ => undef
  | (k, v) :: r, t => match Nat.beq k t with | true => v | false => get r t

def eval (env : Env) : Operand → Value
  | .tmp t => get env t
  | .const v => v
  | .global g => .pointer (some ⟨g, 0, none⟩)
  | .func f => .func (.func f) #[] #[]

def wanted (all : Array Oper) (env : Env) (o : Oper) : Bool :=
  match o.guard with
  | none => true
  | some (j, want) =>
    match (all[j]?).bind (·.dst) with
    | none => false
    | some t => (match get env t with | .bool b => b == want | _ => false)

/-- The value of a step that touches no memory. -/
def pureOf (P : Program) {α : Type} : Sem α → Option α
  | .pure a => some a
  | .program k => pureOf P (k P)
  | .mark _ k => pureOf P k
  | _ => none

def ops (P : Program) (call : CallK) (n : Nat) (all : Array Oper) (K : Env → St → Out) : List Oper → Env → St → Out
  | [], env, st => K env st
  | o :: rest, env, st =>
    match o.dst with
    | none => none
    | some d =>
      match Nat.blt d n with
      | false => none
      | true =>
        match wanted all env o with
        | true =>
          match pureOf P (execOp (eval env) o) with
          | some (.value v) => ops P call n all K rest ((d, v) :: env) st
          | some (.enter f args) => call f args (fun v st => ops P call n all K rest ((d, v) :: env) st) st
          | _ => none
        | false => ops P call n all K rest ((d, undef) :: env) st

def loop (body : (Exit → Env → St → Out) → Env → St → Out) : Nat → (Exit → Env → St → Out) → Env → St → Out
  | 0, _, _, _ => none
  | k + 1, K, env, st => body (fun e env st => match e with | .normal => loop body k K env st | e => K e env st) env st

def code (P : Program) (call : CallK) (fuel n : Nat) : Code → (Exit → Env → St → Out) → Env → St → Out
  | .skip, K, env, st => K .normal env st
  | .label _, K, env, st => K .normal env st
  | .exit id, K, env, st => K (.exit id) env st
  | .ret, K, env, st => K .ret env st
  | .region _ all false, K, env, st => ops P call n all (K .normal) all.toList env st
  | .region _ all true, K, env, st => match Region.lexB .any all with | true => ops P call n all (K .normal) all.toList env st | false => none
  | .seq x y, K, env, st => code P call fuel n x (fun e env st => match e with | .normal => code P call fuel n y K env st | e => K e env st) env st
  | .cond c x y, K, env, st =>
    match eval env c with
    | .bool t =>
      match st with
      | (0, true) :: st' => note t true (code P call fuel n x K env st')
      | (0, false) :: st' => note t false (code P call fuel n y K env st')
      | (k + 1, b) :: st' => bif t then code P call fuel n x K env ((k, b) :: st') else code P call fuel n y K env ((k, b) :: st')
      | [] => bif t then code P call fuel n x K env [] else code P call fuel n y K env []
    | _ => none
  | .block id c, K, env, st => code P call fuel n c (fun e env st => match e with | .exit i => (match Nat.beq i id with | true => K .normal env st | false => K (.exit i) env st) | e => K e env st) env st
  | .loop c, K, env, st => loop (code P call fuel n c) fuel K env st
  | _, _, _, _ => none

def post (rs : List ResultVar) (K : Value → St → Out) : Exit → Env → St → Out
  | .normal, env, st => match rs with | [.tmp t] => K (get env t) st | [.tmp t, .tmp u] => K (.tuple #[get env t, get env u]) st | _ => none
  | .ret, env, st => match rs with | [.tmp t] => K (get env t) st | [.tmp t, .tmp u] => K (.tuple #[get env t, get env u]) st | _ => none
  | _, _, _ => none

def init : Nat → List Value → Env
  | _, [] => []
  | i, v :: r => (i, v) :: init (i + 1) r

/-- What a call comes to: 'depth' calls deep, 'fuel' rounds a loop. -/
def call (P : Program) (fuel : Nat) : Nat → CallK
  | 0, _, _, _, _ => none
  | depth + 1, f, args, K, st =>
    match P.funcs[f]? with
    | none => none
    | some fn =>
      match fn.body with
      | some c => (match Nat.ble args.toList.length fn.ntmps with | true => code P (call P fuel depth) fuel fn.ntmps c (post fn.results.toList K) (init 0 args.toList) st | false => none)
      | none => none

def run (P : Program) (fuel depth : Nat) (st : St) (f : FuncId) (args : Array Value) : Out := call P fuel depth f args (fun v _ => some (v, [])) st

/-- What was taken for true is true. -/
def Holds : List (Bool × Bool) → Prop
  | [] => True
  | p :: r => p.1 = p.2 ∧ Holds r

/-- The same value, and no more taken for true. -/
def Within (r' r : Value × List (Bool × Bool)) : Prop := r'.1 = r.1 ∧ (Holds r.2 → Holds r'.2)

theorem Within.refl (r : Value × List (Bool × Bool)) : Within r r := ⟨rfl, id⟩
theorem Within.trans {a b c : Value × List (Bool × Bool)} (h : Within a b) (h' : Within b c) : Within a c := ⟨h.1.trans h'.1, fun x => h.2 (h'.2 x)⟩
theorem note_some {t b : Bool} {o : Out} {r : Value × List (Bool × Bool)} (h : note t b o = some r) (hr : Holds r.2) : t = b ∧ ∃ r', o = some r' ∧ Within r' r ∧ Holds r'.2 := by
  cases o with
  | none => cases h
  | some p =>
    obtain ⟨v, obs⟩ := p
    cases h
    exact ⟨hr.1, _, rfl, ⟨rfl, fun x => x.2⟩, hr.2⟩

structure Rel (n : Nat) (env : Env) (a : Act) : Prop where
  size : a.tmps.size = n
  defers : a.defers = []
  slot : ∀ t, a.tmps.getD t undef = get env t

theorem Rel.eval {n : Nat} {env : Env} {a : Act} (h : Rel n env a) (x : Operand) : a.eval x = Q.eval env x := by
  cases x with
  | tmp t => exact h.slot t
  | _ => rfl

theorem Rel.put {n : Nat} {env : Env} {a : Act} (h : Rel n env a) {d : Nat} (hd : Nat.blt d n = true) (v : Value) : Rel n ((d, v) :: env) (a.put (some d) v) := by
  have hlt : d < a.tmps.size := by rw [h.size]; exact Nat.le_of_ble_eq_true hd
  refine ⟨by simp [Act.put, h.size], h.defers, fun t => ?_⟩
  show (a.tmps.setIfInBounds d v).getD t undef = get ((d, v) :: env) t
  unfold get
  cases hb : Nat.beq d t with
  | true =>
    have := Nat.eq_of_beq_eq_true hb
    subst this
    simp [Array.getD, hlt]
  | false =>
    have hne := Nat.ne_of_beq_eq_false hb
    rw [← h.slot t]
    simp only [Array.getD_eq_getD_getElem?, Array.getElem?_setIfInBounds_ne hne]

theorem Rel.wanted {n : Nat} {env : Env} {a : Act} (h : Rel n env a) (all : Array Oper) (o : Oper) : Region.wanted o (yielded all a.tmps) = Q.wanted all env o := by
  unfold Region.wanted Q.wanted
  cases hg : o.guard with
  | none => rfl
  | some p =>
    obtain ⟨j, want⟩ := p
    simp only [yielded]
    generalize (all[j]?).bind (·.dst) = z
    cases z with
    | none => rfl
    | some t =>
      have hs := h.slot t
      rw [Array.getD_eq_getD_getElem?] at hs
      show ((match (a.tmps[t]? : Option Value) with | some (.bool b) => some b | _ => none) == some want) = (match get env t with | .bool b => b == want | _ => false)
      rw [← hs]
      cases a.tmps[t]? with
      | none => rfl
      | some v => cases v <;> rfl

theorem pureOf_run {P : Program} {α : Type} : ∀ (s : Sem α) (a : α), pureOf P s = some a → ∀ w, s.run P w = .ok a w
  | .pure _, _, h, _ => by cases h; rfl
  | .program k, a, h, w => pureOf_run (k P) a h w
  | .mark _ k, a, h, w => pureOf_run k a h w
  | .load .., _, h, _ => by cases h
  | .store .., _, h, _ => by cases h
  | .new .., _, h, _ => by cases h
  | .shape .., _, h, _ => by cases h
  | .freeze .., _, h, _ => by cases h
  | .frozen .., _, h, _ => by cases h
  | .getObj .., _, h, _ => by cases h
  | .setObj .., _, h, _ => by cases h
  | .choose .., _, h, _ => by cases h
  | .sys .., _, h, _ => by cases h
  | .halt .., _, h, _ => by cases h

/-- A call that comes to a value, whatever the world: at most draws. -/
def Gives (P : Program) (f : FuncId) (args : Array Value) (v : Value) : Prop :=
  ∀ w, Calls P f args w fun e w' => e = .returned v ∧ ∃ m, w' = w.drewN m

abbrev Res := Value × List (Bool × Bool)

def CallOk (P : Program) (call : CallK) : Prop :=
  ∀ f args K st r, call f args K st = some r → Holds r.2 → ∃ v st' r', Gives P f args v ∧ K v st' = some r' ∧ Within r' r ∧ Holds r'.2

/-- The operations lead from one list of slots to another; in the order of the text, and (quiet as they are) in whatever order. -/
theorem ops_sound {P : Program} {call : CallK} (hc : CallOk P call) {n : Nat} {all : Array Oper} {K : Env → St → Out} :
    ∀ (l : List Oper) (env : Env) (st : St) (r : Res), ops P call n all K l env st = some r → Holds r.2 → ∃ env' st' r', K env' st' = some r' ∧ Within r' r ∧ Holds r'.2 ∧
      (∀ (a : Act) (w : World), Rel n env a → ∀ S : Exit → Act → World → Prop, (∀ (a' : Act) (w' : World), Rel n env' a' → (∃ m, w' = w.drewN m) → S .normal a' w') → wpList P all S l a w) ∧
      (∀ (a : Act) (w : World), Rel n env a → ∀ S : Act → Prop, (∀ a' : Act, Rel n env' a' → S a') → wpQuiet P all (fun w' => ∃ m, w' = w.drewN m) S l a)
  | [], env, st, r, h, hr => ⟨env, st, r, h, .refl _, hr, fun a w ha S hS => hS a w ha ⟨0, rfl⟩, fun a w ha S hS => hS a ha⟩
  | o :: rest, env, st, r, h, hr => by
    unfold ops at h
    revert h
    cases hd : o.dst with
    | none => intro h; cases h
    | some d =>
      simp only
      cases hb : Nat.blt d n with
      | false => intro h; cases h
      | true =>
        simp only
        cases hw : Q.wanted all env o with
        | false =>
          intro h
          obtain ⟨env', st', r', hK, hin, hr', h1, h2⟩ := ops_sound hc rest _ _ _ h hr
          refine ⟨env', st', r', hK, hin, hr', fun a w ha S hS => ?_, fun a w ha S hS => ?_⟩
          · unfold wpList
            rw [ha.wanted, hw, hd]
            simp only [Bool.false_eq_true, if_false]
            exact h1 _ w (ha.put hb _) S hS
          · unfold wpQuiet
            rw [ha.wanted, hw, hd]
            simp only [Bool.false_eq_true, if_false]
            exact h2 _ w (ha.put hb _) S hS
        | true =>
          simp only
          cases hp : pureOf P (execOp (Q.eval env) o) with
          | none => intro h; cases h
          | some nx =>
            have hrun := pureOf_run _ _ hp
            cases nx with
            | value v =>
              intro h
              obtain ⟨env', st', r', hK, hin, hr', h1, h2⟩ := ops_sound hc rest _ _ _ h hr
              refine ⟨env', st', r', hK, hin, hr', fun a w ha S hS => ?_, fun a w ha S hS => ?_⟩
              · unfold wpList
                rw [ha.wanted, hw]
                simp only [if_true]
                refine .inl ?_
                unfold Oper.wp
                rw [show a.eval = Q.eval env from funext ha.eval, hrun w, Oper.upon_value, hd]
                exact h1 _ w (ha.put hb _) S hS
              · unfold wpQuiet
                rw [ha.wanted, hw]
                simp only [if_true]
                refine ⟨v, fun w1 _ => ?_, ?_⟩
                · unfold Oper.quietAt
                  rw [show a.eval = Q.eval env from funext ha.eval, hrun w1]
                  exact ⟨rfl, rfl⟩
                · rw [hd]; exact h2 _ w (ha.put hb _) S hS
            | enter f args =>
              intro h
              obtain ⟨v, st1, r1, hg, hv, hin1, hr1⟩ := hc _ _ _ _ _ h hr
              obtain ⟨env', st', r', hK, hin, hr', h1, h2⟩ := ops_sound hc rest _ _ _ hv hr1
              refine ⟨env', st', r', hK, hin.trans hin1, hr', fun a w ha S hS => ?_, fun a w ha S hS => ?_⟩
              · unfold wpList
                rw [ha.wanted, hw]
                simp only [if_true]
                refine .inl ?_
                unfold Oper.wp
                rw [show a.eval = Q.eval env from funext ha.eval, hrun w, Oper.upon_enter, hd]
                refine (hg w).mono ?_
                rintro e w' ⟨rfl, m, rfl⟩
                refine h1 _ _ (ha.put hb _) S (fun a' w' ha' ⟨m', hm'⟩ => hS a' w' ha' ⟨m + m', ?_⟩)
                rw [hm', World.drewN_drewN]
              · unfold wpQuiet
                rw [ha.wanted, hw]
                simp only [if_true]
                refine ⟨v, fun w1 hw1 => ?_, ?_⟩
                · unfold Oper.quietAt
                  rw [show a.eval = Q.eval env from funext ha.eval, hrun w1]
                  refine ⟨rfl, (hg w1).mono ?_⟩
                  rintro e w' ⟨rfl, m, rfl⟩
                  obtain ⟨m1, rfl⟩ := hw1
                  exact ⟨rfl, m1 + m, World.drewN_drewN _ _ _⟩
                · rw [hd]; exact h2 _ w (ha.put hb _) S hS
            | _ => intro h; cases h

/-- The code leads from one list of slots to another, by one exit. -/
def Leads (P : Program) (n : Nat) (c : Code) (env : Env) (e : Exit) (env' : Env) : Prop :=
  ∀ a w, Rel n env a → c.wp P (fun e' a' w' => e' = e ∧ Rel n env' a' ∧ ∃ m, w' = w.drewN m) a w

/-- What an evaluator of code is good for. -/
def Sound (P : Program) (n : Nat) (c : Code) (body : (Exit → Env → St → Out) → Env → St → Out) : Prop :=
  ∀ K env st r, body K env st = some r → Holds r.2 → ∃ e env' st' r', Leads P n c env e env' ∧ K e env' st' = some r' ∧ Within r' r ∧ Holds r'.2

theorem rounds_mono {P : Program} {c : Code} {S S' : Exit → Act → World → Prop} (h : ∀ e a w, S e a w → S' e a w) :
    ∀ (k : Nat) (a : Act) (w : World), Code.rounds P c S k a w → Code.rounds P c S' k a w
  | 0, _, _, hr => hr
  | k + 1, a, w, hr => by
    refine Code.wp_mono ?_ (show c.wp P _ a w from hr)
    intro e a w hq
    cases e with
    | normal => exact rounds_mono h k _ _ hq
    | _ => exact h _ _ _ hq

theorem loop_sound {P : Program} {n : Nat} {c : Code} {body : (Exit → Env → St → Out) → Env → St → Out} (hbody : Sound P n c body) :
    ∀ (k : Nat) (K : Exit → Env → St → Out) (env : Env) (st : St) (r : Res), loop body k K env st = some r → Holds r.2 → ∃ e env' st' r', K e env' st' = some r' ∧ Within r' r ∧ Holds r'.2 ∧
      ∀ a w, Rel n env a → Code.rounds P c (fun e' a' w' => e' = e ∧ Rel n env' a' ∧ ∃ m, w' = w.drewN m) k a w
  | 0, K, env, st, r, h, _ => by cases h
  | k + 1, K, env, st, r, h, hr => by
    unfold loop at h
    obtain ⟨e, env1, st1, r1, hl, hk, hin1, hr1⟩ := hbody _ _ _ _ h hr
    by_cases he : e = .normal
    · subst he
      obtain ⟨e2, env2, st2, r2, hK, hin2, hr2, h2⟩ := loop_sound hbody k K env1 st1 r1 hk hr1
      refine ⟨e2, env2, st2, r2, hK, hin2.trans hin1, hr2, fun a w ha => ?_⟩
      show c.wp P _ a w
      refine Code.wp_mono ?_ (hl a w ha)
      rintro e' a' w' ⟨rfl, ha', m, rfl⟩
      have := h2 a' (w.drewN m) ha'
      refine rounds_mono ?_ k _ _ this
      rintro e' a' w' ⟨he, ha', m', rfl⟩
      exact ⟨he, ha', m + m', World.drewN_drewN _ _ _⟩
    · have hK : K e env1 st1 = some r1 := by cases e <;> first | exact absurd rfl he | exact hk
      refine ⟨e, env1, st1, r1, hK, hin1, hr1, fun a w ha => ?_⟩
      show c.wp P _ a w
      refine Code.wp_mono ?_ (hl a w ha)
      rintro e' a' w' ⟨rfl, ha', hm⟩
      cases e' <;> first | exact absurd rfl he | exact ⟨rfl, ha', hm⟩

theorem code_sound {P : Program} (hm : P.follows .mixedOrders = true) {call : CallK} (hc : CallOk P call) {fuel n : Nat} :
    ∀ (c : Code), Sound P n c (code P call fuel n c)
  | .skip => fun K env st r h hr => ⟨_, env, st, r, fun a w ha => wp_skip ⟨rfl, ha, 0, rfl⟩, h, .refl _, hr⟩
  | .label _ => fun K env st r h hr => ⟨_, env, st, r, fun a w ha => wp_label ⟨rfl, ha, 0, rfl⟩, h, .refl _, hr⟩
  | .exit id => fun K env st r h hr => ⟨_, env, st, r, fun a w ha => wp_exit ⟨rfl, ha, 0, rfl⟩, h, .refl _, hr⟩
  | .ret => fun K env st r h hr => ⟨_, env, st, r, fun a w ha => wp_ret ⟨rfl, ha, 0, rfl⟩, h, .refl _, hr⟩
  | .region _ all false => fun K env st r h hr => by
    obtain ⟨env', st', r', hK, hin, hr', h1, _⟩ := ops_sound hc _ _ _ _ h hr
    exact ⟨.normal, env', st', r', fun a w ha => wp_region_list (h1 a w ha _ (fun a' w' ha' hm' => ⟨rfl, ha', hm'⟩)), hK, hin, hr'⟩
  | .region _ all true => fun K env st r h hr => by
    unfold code at h
    revert h
    cases hB : Region.lexB .any all with
    | false => intro h; cases h
    | true =>
      intro h
      obtain ⟨env', st', r', hK, hin, hr', _, h2⟩ := ops_sound hc _ _ _ _ h hr
      exact ⟨.normal, env', st', r', fun a w ha => wp_region_quiet (C := fun w' => ∃ m, w' = w.drewN m) hm hB ⟨1, rfl⟩ (h2 a w ha _ (fun a' ha' w' hm' => ⟨rfl, ha', hm'⟩)), hK, hin, hr'⟩
  | .seq x y => fun K env st r h hr => by
    unfold code at h
    obtain ⟨e, env1, st1, r1, h1, hk, hin1, hr1⟩ := code_sound hm hc x _ _ _ _ h hr
    by_cases he : e = .normal
    · subst he
      obtain ⟨e2, env2, st2, r2, h2, hK, hin2, hr2⟩ := code_sound hm hc y _ _ _ _ hk hr1
      refine ⟨e2, env2, st2, r2, fun a w ha => wp_seq (Code.wp_mono ?_ (h1 a w ha)), hK, hin2.trans hin1, hr2⟩
      rintro e' a' w' ⟨rfl, ha', m, rfl⟩
      refine Code.wp_mono ?_ (h2 a' _ ha')
      rintro e' a' w' ⟨he, ha', m', rfl⟩
      exact ⟨he, ha', m + m', World.drewN_drewN _ _ _⟩
    · have hK : K e env1 st1 = some r1 := by cases e <;> first | exact absurd rfl he | exact hk
      refine ⟨e, env1, st1, r1, fun a w ha => wp_seq (Code.wp_mono ?_ (h1 a w ha)), hK, hin1, hr1⟩
      rintro e' a' w' ⟨rfl, ha', hm'⟩
      cases e' <;> first | exact absurd rfl he | exact ⟨rfl, ha', hm'⟩
  | .cond c x y => fun K env st r h hr => by
    unfold code at h
    revert h
    cases hv : Q.eval env c with
    | bool t =>
      simp only
      have yes : ∀ (st1 : St) (r1 : Res), t = true → code P call fuel n x K env st1 = some r1 → Within r1 r → Holds r1.2 →
          ∃ e env' st' r', Leads P n (.cond c x y) env e env' ∧ K e env' st' = some r' ∧ Within r' r ∧ Holds r'.2 := by
        rintro st1 r1 rfl h hin hr1
        obtain ⟨e, env1, st2, r2, h1, hK, hin2, hr2⟩ := code_sound hm hc x _ _ _ _ h hr1
        exact ⟨e, env1, st2, r2, fun a w ha => wp_cond_true ((ha.eval c).trans hv) (h1 a w ha), hK, hin2.trans hin, hr2⟩
      have no : ∀ (st1 : St) (r1 : Res), t = false → code P call fuel n y K env st1 = some r1 → Within r1 r → Holds r1.2 →
          ∃ e env' st' r', Leads P n (.cond c x y) env e env' ∧ K e env' st' = some r' ∧ Within r' r ∧ Holds r'.2 := by
        rintro st1 r1 rfl h hin hr1
        obtain ⟨e, env1, st2, r2, h1, hK, hin2, hr2⟩ := code_sound hm hc y _ _ _ _ h hr1
        exact ⟨e, env1, st2, r2, fun a w ha => wp_cond_false ((ha.eval c).trans hv) (h1 a w ha), hK, hin2.trans hin, hr2⟩
      split
      · intro h
        obtain ⟨ht, r1, h1, hin, hr1⟩ := note_some h hr
        exact yes _ _ ht h1 hin hr1
      · intro h
        obtain ⟨ht, r1, h1, hin, hr1⟩ := note_some h hr
        exact no _ _ ht h1 hin hr1
      · intro h
        cases t with
        | true => exact yes _ _ rfl h (.refl _) hr
        | false => exact no _ _ rfl h (.refl _) hr
      · intro h
        cases t with
        | true => exact yes _ _ rfl h (.refl _) hr
        | false => exact no _ _ rfl h (.refl _) hr
    | _ => intro h; cases h
  | .block id c => fun K env st r h hr => by
    unfold code at h
    obtain ⟨e, env1, st1, r1, h1, hk, hin, hr1⟩ := code_sound hm hc c _ _ _ _ h hr
    by_cases he : e = .exit id
    · subst he
      simp only [show Nat.beq id id = true from Nat.beq_refl id] at hk
      refine ⟨.normal, env1, st1, r1, fun a w ha => wp_block (Code.wp_mono ?_ (h1 a w ha)), hk, hin, hr1⟩
      rintro e' a' w' ⟨rfl, ha', hm'⟩
      show (if id = id then (fun e' a' w' => e' = Exit.normal ∧ Rel n env1 a' ∧ ∃ m, w' = w.drewN m) Exit.normal a' w' else _)
      rw [if_pos rfl]
      exact ⟨rfl, ha', hm'⟩
    · have hK : K e env1 st1 = some r1 := by
        cases e with
        | exit i =>
          have hne : Nat.beq i id = false := by
            cases hb : Nat.beq i id with
            | true => exact absurd (congrArg Exit.exit (Nat.eq_of_beq_eq_true hb)) he
            | false => rfl
          simpa only [hne] using hk
        | _ => exact hk
      refine ⟨e, env1, st1, r1, fun a w ha => wp_block (Code.wp_mono ?_ (h1 a w ha)), hK, hin, hr1⟩
      rintro e' a' w' ⟨rfl, ha', hm'⟩
      cases e' with
      | exit i =>
        have hne : ¬ i = id := fun hi => he (congrArg Exit.exit hi)
        show (if i = id then _ else (fun e' a' w' => e' = Exit.exit i ∧ Rel n env1 a' ∧ ∃ m, w' = w.drewN m) (Exit.exit i) a' w')
        rw [if_neg hne]
        exact ⟨rfl, ha', hm'⟩
      | _ => exact ⟨rfl, ha', hm'⟩
  | .loop c => fun K env st r h hr => by
    unfold code at h
    obtain ⟨e, env', st', r', hK, hin, hr', hl⟩ := loop_sound (code_sound hm hc c) fuel K env st r h hr
    exact ⟨e, env', st', r', fun a w ha => wp_loop_rounds fuel (hl a w ha), hK, hin, hr'⟩
  | .rangeFunc .. => fun K env st r h hr => by unfold code at h; cases h
  | .scope _ => fun K env st r h hr => by unfold code at h; cases h
  | .goto _ => fun K env st r h hr => by unfold code at h; cases h
  | .refuse _ => fun K env st r h hr => by unfold code at h; cases h

theorem post_sound {fn : Func} {n : Nat} {r : Res} {K : Value → St → Out} (e : Exit) (env : Env) (st : St) (h : post fn.results.toList K e env st = some r) :
    ∃ v, K v st = some r ∧ ∀ (P : Program) (a : Act) (w : World) (R : Ending → World → Prop), Rel n env a → R (.returned v) w → bodyPost P fn R e a w := by
  have go : ∀ rs : List ResultVar, rs = fn.results.toList → (match rs with | [.tmp t] => K (get env t) st | [.tmp t, .tmp u] => K (.tuple #[get env t, get env u]) st | _ => none) = some r →
      ∃ v, K v st = some r ∧ ∀ (P : Program) (a : Act) (w : World), Rel n env a → (results fn a.tmps).run P w = .ok v w := by
    intro rs hrs h
    split at h
    · rename_i t
      have hr' : fn.results = #[.tmp t] := by have := congrArg List.toArray hrs; simpa using this.symm
      exact ⟨_, h, fun P a w ha => by rw [results_tmp hr', ha.slot t]⟩
    · rename_i t u
      have hr' : fn.results = #[.tmp t, .tmp u] := by have := congrArg List.toArray hrs; simpa using this.symm
      exact ⟨_, h, fun P a w ha => by rw [results_tmp2 hr', ha.slot t, ha.slot u]⟩
    · cases h
  cases e with
  | normal => obtain ⟨v, hK, h1⟩ := go _ rfl h; exact ⟨v, hK, fun P a w R ha hR => ⟨ha.defers, v, h1 P a w ha, hR⟩⟩
  | ret => obtain ⟨v, hK, h1⟩ := go _ rfl h; exact ⟨v, hK, fun P a w R ha hR => ⟨ha.defers, v, h1 P a w ha, hR⟩⟩
  | _ => cases h

theorem get_init (r : List Value) : ∀ (i t : Nat), get (init i r) t = if i ≤ t then r.getD (t - i) undef else undef := by
  induction r with
  | nil => intro i t; simp [init, get]
  | cons v r ih =>
    intro i t
    show (match Nat.beq i t with | true => v | false => get (init (i + 1) r) t) = _
    cases hb : Nat.beq i t with
    | true => have := Nat.eq_of_beq_eq_true hb; subst this; simp
    | false =>
      have hne := Nat.ne_of_beq_eq_false hb
      simp only
      rw [ih]
      by_cases h : i + 1 ≤ t
      · rw [if_pos h, if_pos (by omega), show t - i = (t - (i + 1)) + 1 from by omega]; simp
      · rw [if_neg h, if_neg (by omega)]

theorem rel_init {n : Nat} {args : Array Value} (h : args.toList.length ≤ n) : Rel n (init 0 args.toList) { tmps := args ++ Array.replicate (n - args.size) undef, defers := [] } := by
  have hs : args.size ≤ n := by simpa using h
  refine ⟨by simp; omega, rfl, fun t => ?_⟩
  rw [get_init]
  simp only [Nat.zero_le, if_true, Nat.sub_zero, Array.getD_eq_getD_getElem?]
  rw [Array.getElem?_append]
  split
  · rename_i hlt; simp [List.getD, hlt]
  · rename_i hge
    have e1 : args.toList.getD t undef = undef := by simp [List.getD, Nat.le_of_not_lt hge]
    rw [e1]
    cases hr : (Array.replicate (n - args.size) undef)[t - args.size]? with
    | none => rfl
    | some z => simp [Array.getElem?_replicate] at hr; simp [hr.2.symm]

theorem call_sound {P : Program} (hm : P.follows .mixedOrders = true) (fuel : Nat) : ∀ depth, CallOk P (call P fuel depth)
  | 0 => fun f args K st r h _ => by cases h
  | depth + 1 => fun f args K st r h hr => by
    unfold call at h
    split at h
    · cases h
    · rename_i fn hf
      split at h
      · rename_i c hb
        split at h
        · rename_i hle
          obtain ⟨e, env', st', r', hl, hk, hin, hr'⟩ := code_sound hm (call_sound hm fuel depth) c _ _ _ _ h hr
          obtain ⟨v, hK, hp⟩ := post_sound (n := fn.ntmps) e env' st' hk
          refine ⟨v, st', r', fun w => calls_of_wp hf hb (Code.wp_mono ?_ (hl _ w (rel_init (Nat.le_of_ble_eq_true hle)))), hK, hin, hr'⟩
          rintro e' a' w' ⟨rfl, ha', m, rfl⟩
          exact hp P a' _ _ ha' ⟨rfl, m, rfl⟩
        · cases h
      · cases h

/-- THE LAW. -/
theorem gives {P : Program} (hm : P.follows .mixedOrders = true) {fuel depth : Nat} {st : St} {f : FuncId} {args : Array Value} {v : Value} {obs : List (Bool × Bool)}
    (h : run P fuel depth st f args = some (v, obs)) (ho : Holds obs) : Gives P f args v := by
  obtain ⟨v', st', r', hg, hv, hin, _⟩ := call_sound hm fuel depth f args _ _ _ h ho
  cases hv
  cases hin.1
  exact hg

/-- A value stated otherwise. -/
theorem Gives.eq {P : Program} {f : FuncId} {args : Array Value} {v v' : Value} (h : Gives P f args v) (e : v = v') : Gives P f args v' := e ▸ h

end Go.Q
