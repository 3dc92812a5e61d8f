import PyProof.Rows.All
import Wide.All
import OpenK.AllK
import Wide.FinOn
import PySem.Challenge.RW_pk0039_01
set_option Elab.async false
set_option maxRecDepth 100000
set_option maxHeartbeats 0
set_option linter.all false
set_option genSizeOf false
set_option genInjectivity false
namespace Mine
noncomputable section

section
open PySem PySem.Spec PySem.Calls PyProof.Rows PySem.W PySem.W.X
noncomputable def enterTail (st : List (Code × Pos)) : Sem Unit := match (Fast.tw15066281185411960212 0 : Sem Unit) with
  | .stack k => k st
  | t => t
noncomputable def roomTail (what : String) (st : List (Code × Pos)) : Sem Unit := match Fast.tw10648789137845014744 what with
  | .stack k => k st
  | t => t
theorem room_is (what : String) : cRoom what = .stack (roomTail what) := by
  rw [Fast.te10648789137845014744]
  rfl
theorem room_cases (what : String) (st : List (Code × Pos)) : roomTail what st = .pure () ∨ ∃ w, roomTail what st = .unsupported w := by
  have h := room_is what
  have e : cRoom what = .stack fun st => if (st.map (·.1.cUnits)).sum ≥ cLine then unsupported s!"recursion.c-limit:near:{what}" else .pure () := by
    unfold cRoom
    rfl
  rw [e] at h
  injection h with h
  have := congrFun h st
  rw [← this]
  split
  · exact .inr ⟨_, rfl⟩
  · exact .inl rfl
theorem room_nil (what : String) : roomTail what [] = .pure () := by
  have h := room_is what
  have e : cRoom what = .stack fun st => if (st.map (·.1.cUnits)).sum ≥ cLine then unsupported s!"recursion.c-limit:near:{what}" else .pure () := by
    unfold cRoom
    rfl
  rw [e] at h
  injection h with h
  rw [← congrFun h []]
  rfl
theorem onRaise_bind {α β : Type} (m : Sem α) (g : α → Sem β) (h : Value → Sem Unit) : (m.bind g).onRaise h = (m.onRaise h).bind fun a => (g a).onRaise h := by
  induction m with
  | pure | unsupported | finish => rfl
  | «raise» e => show (h e).bind _ = ((h e).bind _).bind _; rw [Sem.bind_assoc]; rfl
  | _ => rename_i ih; simp only [Sem.bind, Sem.onRaise, ih]
section
variable (env : Env)
noncomputable abbrev evalF := Fast.tw14044960220447912780
noncomputable abbrev execsF := Fast.tw12563942051412417395
noncomputable abbrev isTrueF := Fast.tw15418851999007992765
noncomputable abbrev operateF := Fast.tw8004119333741010377
noncomputable abbrev compareOpF := Fast.tw12886488535604756494
noncomputable abbrev truthyF := Fast.tw15245631507167962100
noncomputable abbrev leavingF := Fast.tw9442747609961115081
noncomputable abbrev markedF := Fast.tw2344580865713695371
noncomputable abbrev evalEachF := Fast.tw10458482166411082596
noncomputable def lf {α : Type} (m : Sem α) (k : α → Sem Fin) : Sem Fin := R.bindR (R.onRaiseR m (leavingF env)) k
noncomputable def hdS : List (Sem Value) → Sem Value
  | x :: _ => x
  | [] => .pure .none
noncomputable def roomed (D : Sem Value) (k : Value → Sem Fin) : Sem Fin := match D with
  | .stack F => .stack fun st => R.bindR (roomTail SL.s11780134324901847377x10 st) fun _ => R.bindR (F []) k
  | t => R.bindR t k
noncomputable def cOp (op : CmpOp) (a b : Value) (k : Value → Sem Fin) : Sem Fin := match op with
  | .Eq => match a, b with
    | .ref x, .ref y => roomed (R.onRaiseR (operateF [.ref x, .ref y] (compareOpF .Eq (.ref x) (.ref y))) (leavingF env)) k
    | a, b => lf env (operateF [a, b] (compareOpF .Eq a b)) k
  | .NotEq => match a, b with
    | .ref x, .ref y => roomed (R.onRaiseR (operateF [.ref x, .ref y] (compareOpF .NotEq (.ref x) (.ref y))) (leavingF env)) k
    | a, b => lf env (operateF [a, b] (compareOpF .NotEq a b)) k
  | op => lf env (operateF [a, b] (compareOpF op a b)) k
noncomputable def cV (l : PySem.Expr) (op : CmpOp) (r : PySem.Expr) (p : Pos) (k : Value → Sem Fin) : Sem Fin :=
  lf env (evalF l env) fun lv => lf env (Fast.tw17359229931016689406 [lv] (hdS (markedF [op] [r] (evalEachF [r] env)))) fun rv => .at p fun _ => cOp env op lv rv k
noncomputable def cC (x : PySem.Expr) (k : Bool → Sem Fin) : Sem Fin := match x with
  | .Compare l [op] [r] p => cV env l op r p fun c => lf env (Fast.tw17359229931016689406 [c] (truthyF c)) k
  | x => lf env (isTrueF x env (evalF x env)) k
noncomputable def cT (x : PySem.Expr) (k : Bool → Sem Fin) : Sem Fin := match x with
  | .BoolOp .Or [x, y] _ => cC env x fun b => match b with
    | true => k true
    | false => cC env y k
  | x => cC env x k
noncomputable def cX (s : Stmt) (k : Flow → Sem Fin) : Sem Fin := match s with
  | .If test body orelse p => .at p fun _ => cT env test fun b => match b with
    | true => lf env (execsF body env) k
    | false => lf env (execsF orelse env) k
  | .Return (some (.Compare l [op] [r] p)) p' => .at p' fun _ => cV env l op r p fun v => k (.ret v)
  | s => lf env (execsF [s] env) k
noncomputable def cS : List Stmt → Sem Fin
  | [] => .pure (.done (.ret .none))
  | s :: rest => cX env s fun fl => match fl with
    | .next => cS rest
    | .ret v => .pure (.done (.ret v))
    | _ => .pure (.done (.ret .none))
noncomputable def cF (body : List Stmt) : Sem Fin := .point [] fun _ => cS env body
theorem lf_eq {α : Type} (m : Sem α) (k : α → Sem Fin) : (m.onRaise (leaving env)).bind k = lf env m k := by
  unfold lf leavingF
  rw [← Fast.te9442747609961115081, ← R.bindR_eq, ← R.onRaiseR_eq]
theorem room_lift {α : Type} (w : String) (L : Sem Unit → Sem α) (hu : ∀ w', L (.unsupported w') = .unsupported w') (k : α → Sem Fin) :
    (fun st => (L (roomTail w st)).bind k) = fun st => (roomTail w st).bind fun _ => (L (roomTail w [])).bind k := by
  funext st
  rcases room_cases w st with e | ⟨w', e⟩
  · rw [e, room_nil]; rfl
  · rw [e, hu]; rfl
theorem rich_is (op : CmpOp) (x y : Addr) : ∃ G : Unit → Sem Value, richCompare op (.ref x) (.ref y) = ((cRoom "comparison").bind G).keep [.ref x, .ref y] := ⟨_, rfl⟩
theorem oper_is (vs : List Value) (m : Sem Value) : ∃ G : Value → Sem Value, operate vs m = (holding vs m).bind G := ⟨_, rfl⟩
theorem roomed_eq (op : CmpOp) (x y : Addr) (k : Value → Sem Fin) :
    ((operate [.ref x, .ref y] (richCompare op (.ref x) (.ref y))).onRaise (leaving env)).bind k = roomed (R.onRaiseR (operateF [.ref x, .ref y] (richCompare op (.ref x) (.ref y))) (leavingF env)) k := by
  obtain ⟨G, hG⟩ := rich_is op x y
  obtain ⟨G', hG'⟩ := oper_is [.ref x, .ref y] (richCompare op (.ref x) (.ref y))
  have e1 : R.onRaiseR (operateF [.ref x, .ref y] (richCompare op (.ref x) (.ref y))) (leavingF env) = (operate [.ref x, .ref y] (richCompare op (.ref x) (.ref y))).onRaise (leaving env) := by
    unfold operateF leavingF
    rw [← Fast.te8004119333741010377, ← Fast.te9442747609961115081, ← R.onRaiseR_eq]
  rw [e1, hG', hG, room_is]
  let L : Sem Unit → Sem Value := fun X => ((((X.bind G).keep [.ref x, .ref y]).keep [.ref x, .ref y]).bind G').onRaise (leaving env)
  have e2 : ((holding [.ref x, .ref y] (((Sem.stack (roomTail "comparison")).bind G).keep [.ref x, .ref y])).bind G').onRaise (leaving env) = .stack fun st => L (roomTail "comparison" st) := rfl
  rw [e2]
  show Sem.stack (fun st => (L (roomTail "comparison" st)).bind k) = Sem.stack fun st => R.bindR (roomTail SL.s11780134324901847377x10 st) fun _ => R.bindR (L (roomTail "comparison" [])) k
  rw [room_lift "comparison" L (fun _ => rfl) k, ← R.bindR_eq, SL.e11780134324901847377x10]
theorem cOp_eq (op : CmpOp) (a b : Value) (k : Value → Sem Fin) : ((operate [a, b] (compareOp op a b)).onRaise (leaving env)).bind k = cOp env op a b k := by
  have gen : ∀ op a b, ((operate [a, b] (compareOp op a b)).onRaise (leaving env)).bind k = lf env (operateF [a, b] (compareOpF op a b)) k := by
    intro op a b
    rw [lf_eq]
    unfold operateF compareOpF
    rw [← Fast.te8004119333741010377, ← Fast.te12886488535604756494]
  have rm : ∀ op x y, (compareOp op (.ref x) (.ref y) = richCompare op (.ref x) (.ref y)) → ((operate [.ref x, .ref y] (compareOp op (.ref x) (.ref y))).onRaise (leaving env)).bind k = roomed (R.onRaiseR (operateF [.ref x, .ref y] (compareOpF op (.ref x) (.ref y))) (leavingF env)) k := by
    intro op x y h
    have h2 : compareOpF op (.ref x) (.ref y) = richCompare op (.ref x) (.ref y) := by
      unfold compareOpF
      rw [← Fast.te12886488535604756494, h]
    rw [h, h2]
    exact roomed_eq env op x y k
  unfold cOp
  cases op with
  | Eq =>
    cases a <;> first | exact gen _ _ _ | skip
    cases b <;> first | exact gen _ _ _ | exact rm _ _ _ rfl
  | NotEq =>
    cases a <;> first | exact gen _ _ _ | skip
    cases b <;> first | exact gen _ _ _ | exact rm _ _ _ rfl
  | _ => exact gen _ _ _
theorem marked_is (op : CmpOp) (r : PySem.Expr) : ∃ t, markedEach [op] [r] (evalEach [r] env) = [t] ∧ hdS (markedF [op] [r] (evalEachF [r] env)) = t := by
  unfold markedF evalEachF
  rw [← Fast.te2344580865713695371, ← Fast.te10458482166411082596]
  exact ⟨_, rfl, rfl⟩
theorem cV_eq (l : PySem.Expr) (op : CmpOp) (r : PySem.Expr) (p : Pos) (k : Value → Sem Fin) : ((eval (.Compare l [op] [r] p) env).onRaise (leaving env)).bind k = cV env l op r p k := by
  obtain ⟨t, h1, h2⟩ := marked_is env op r
  have e : eval (.Compare l [op] [r] p) env = (eval l env).bind fun lv => compareChain p lv [op] (markedEach [op] [r] (evalEach [r] env)) := by first | rfl | (unfold eval; rfl)
  rw [e, onRaise_bind, Sem.bind_assoc]
  unfold cV
  rw [h1, h2]
  unfold evalF
  rw [← Fast.te14044960220447912780, ← Fast.te17359229931016689406, ← lf_eq]
  congr 1
  funext lv
  rw [← lf_eq]
  have e3 : compareChain p lv [op] [t] = (holding [lv] t).bind fun rv => Sem.at p fun _ => operate [lv, rv] (compareOp op lv rv) := rfl
  rw [e3, onRaise_bind, Sem.bind_assoc]
  congr 1
  funext rv
  rw [← cOp_eq]
  rfl
theorem cC_eq (x : PySem.Expr) (k : Bool → Sem Fin) : ((isTrue x env (eval x env)).onRaise (leaving env)).bind k = cC env x k := by
  have gen : ((isTrue x env (eval x env)).onRaise (leaving env)).bind k = lf env (isTrueF x env (evalF x env)) k := by
    rw [lf_eq]
    unfold isTrueF evalF
    rw [← Fast.te15418851999007992765, ← Fast.te14044960220447912780]
  cases x
  case Compare l ops rs p =>
    rcases ops with _ | ⟨op, _ | ⟨op2, ops⟩⟩
    · exact gen
    rotate_left
    · exact gen
    rcases rs with _ | ⟨r, _ | ⟨r2, rs⟩⟩
    · exact gen
    rotate_left
    · exact gen
    show _ = cV env l op r p fun c => lf env (Fast.tw17359229931016689406 [c] (truthyF c)) k
    clear gen
    rw [← cV_eq, ← funext (fun c => lf_eq env _ k)]
    unfold truthyF
    rw [← Fast.te17359229931016689406, ← Fast.te15245631507167962100]
    obtain ⟨t, h1, h2⟩ := marked_is env op r
    have e : eval (.Compare l [op] [r] p) env = (eval l env).bind fun lv => compareChain p lv [op] (markedEach [op] [r] (evalEach [r] env)) := by first | rfl | (unfold eval; rfl)
    have e' : isTrue (.Compare l [op] [r] p) env (eval (.Compare l [op] [r] p) env) = (eval l env).bind fun lv => testChain p lv [op] (markedEach [op] [r] (evalEach [r] env)) := by first | rfl | (unfold isTrue; rfl)
    rw [e', e, h1]
    have e3 : ∀ lv, testChain p lv [op] [t] = (compareChain p lv [op] [t]).bind fun c => holding [c] (truthy c) := by
      intro lv
      have z : compareChain p lv [op] [t] = (holding [lv] t).bind fun rv => Sem.at p fun _ => operate [lv, rv] (compareOp op lv rv) := rfl
      rw [z, Sem.bind_assoc]
      rfl
    rw [funext e3, ← Sem.bind_assoc, onRaise_bind, Sem.bind_assoc]
  all_goals exact gen
theorem cT_eq (x : PySem.Expr) (k : Bool → Sem Fin) : ((isTrue x env (eval x env)).onRaise (leaving env)).bind k = cT env x k := by
  have gen := cC_eq env x k
  cases x
  case BoolOp bop xs p =>
    cases bop
    · exact gen
    rcases xs with _ | ⟨x, _ | ⟨y, _ | ⟨z, xs⟩⟩⟩
    · exact gen
    · exact gen
    rotate_left
    · exact gen
    clear gen
    show _ = cC env x fun b => match b with
      | true => k true
      | false => cC env y k
    rw [← cC_eq]
    have e : isTrue (.BoolOp .Or [x, y] p) env (eval (.BoolOp .Or [x, y] p) env) = (isTrue x env (eval x env)).bind fun b => match b with
      | true => .pure true
      | false => isTrue y env (eval y env) := by
      have e1 : isTrue (.BoolOp .Or [x, y] p) env (eval (.BoolOp .Or [x, y] p) env) = allTrue .Or [x, y] env := by first | rfl | (unfold isTrue; rfl)
      have e2 : ∀ y, allTrue .Or [y] env = isTrue y env (eval y env) := by
        intro y
        have : allTrue .Or [y] env = (isTrue y env (eval y env)).bind fun b => match b with
          | true => .pure true
          | false => .pure false := by
          unfold allTrue
          show Sem.bind _ _ = _
          congr 1
          funext b
          cases b
          · show allTrue .Or [] env = _
            unfold allTrue; rfl
          · rfl
        rw [this]
        have : (fun b : Bool => (match b with
          | true => .pure true
          | false => .pure false : Sem Bool)) = .pure := by funext b; cases b <;> rfl
        rw [this, Sem.bind_pure]
      rw [e1]
      unfold allTrue
      show Sem.bind _ _ = _
      congr 1
      funext b
      cases b
      · exact e2 y
      · rfl
    rw [e, onRaise_bind, Sem.bind_assoc]
    congr 1
    funext b
    cases b
    · exact cC_eq env y k
    · rfl
  all_goals exact gen
theorem execs_one (s : Stmt) : execs [s] env = exec s env := by
  have : execs [s] env = (exec s env).bind fun fl => match fl with
    | .next => .pure .next
    | f => .pure f := by
    first | rfl | (unfold execs; show Sem.bind _ _ = _; congr 1; funext fl; cases fl <;> first | rfl | (show execs [] env = _; unfold execs; rfl))
  rw [this]
  have e : (fun fl : Flow => (match fl with
    | .next => .pure .next
    | f => .pure f : Sem Flow)) = .pure := by funext fl; cases fl <;> rfl
  rw [e, Sem.bind_pure]
theorem cX_eq (s : Stmt) (k : Flow → Sem Fin) : ((exec s env).onRaise (leaving env)).bind k = cX env s k := by
  have gen : ((exec s env).onRaise (leaving env)).bind k = lf env (execsF [s] env) k := by
    unfold execsF
    rw [← Fast.te12563942051412417395, ← lf_eq, execs_one]
  cases s
  case If test body orelse p =>
    clear gen
    have e : exec (.If test body orelse p) env = Sem.at p fun _ => (isTrue test env (eval test env)).bind fun b => if b = true then execs body env else execs orelse env := by first | rfl | (unfold exec; rfl)
    rw [e]
    show Sem.at p (fun _ => (((isTrue test env (eval test env)).bind fun b => if b = true then execs body env else execs orelse env).onRaise (leaving env)).bind k) = Sem.at p fun _ => cT env test fun b => match b with
      | true => lf env (execsF body env) k
      | false => lf env (execsF orelse env) k
    rw [onRaise_bind, Sem.bind_assoc, ← cT_eq]
    congr 1
    funext _
    congr 1
    funext b
    unfold execsF
    rw [← Fast.te12563942051412417395]
    cases b
    · exact lf_eq env (execs orelse env) k
    · exact lf_eq env (execs body env) k
  case Return v p' =>
    cases v
    · exact gen
    rename_i v
    cases v
    case Compare l ops rs p =>
     rcases ops with _ | ⟨op, _ | ⟨op2, ops⟩⟩
     · exact gen
     rotate_left
     · exact gen
     rcases rs with _ | ⟨r, _ | ⟨r2, rs⟩⟩
     · exact gen
     rotate_left
     · exact gen
     clear gen
     have e : exec (.Return (some (.Compare l [op] [r] p)) p') env = Sem.at p' fun _ => (eval (.Compare l [op] [r] p) env).bind fun v => .pure (.ret v) := by first | rfl | (unfold exec; rfl)
     rw [e]
     show Sem.at p' (fun _ => (((eval (.Compare l [op] [r] p) env).bind fun v => .pure (.ret v)).onRaise (leaving env)).bind k) = Sem.at p' fun _ => cV env l op r p fun v => k (.ret v)
     rw [onRaise_bind, Sem.bind_assoc, ← cV_eq]
     rfl
    all_goals exact gen
  all_goals exact gen
theorem cS_eq : ∀ body, ((execs body env).onRaise (leaving env)).bind (fun fl => match fl with
      | .ret v => ret v
      | _ => ret .none) = cS env body
  | [] => by first | rfl | (unfold execs; rfl)
  | s :: rest => by
    have e : execs (s :: rest) env = (exec s env).bind fun fl => match fl with
      | .next => execs rest env
      | f => .pure f := by first | rfl | (unfold execs; rfl)
    rw [e, onRaise_bind, Sem.bind_assoc]
    unfold cS
    rw [← cX_eq]
    congr 1
    funext fl
    cases fl
    · exact cS_eq rest
    all_goals rfl
theorem cF_eq (body : List Stmt) : denote table (.func body env) = cF env body := by
  unfold cF
  rw [← cS_eq]
  rfl
end
end
section
open PySem PySem.Spec PySem.Calls PyProof.Rows PySem.W PySem.W.X
noncomputable def den (c : Code) : Sem Fin := Fast.tw11892475500146522536 Fast.tw14364793385576792824 c
theorem den_eq (c : Code) : denote table c = den c := by
  unfold den
  rw [← Fast.te11892475500146522536, ← Fast.te14364793385576792824, ← table_eq_tree]
noncomputable abbrev N0 : Nat := 114
inductive Pair where
  | a (x y : Addr)
  | c (x y : Code)
  | v (x y : Value)
  | o (x y : Obj)
  | s (x y : List (Code × Pos) → Sem Fin)
  | q (x y : Setting → Sem Fin)
  | t (x y : Sem Fin)
inductive Side where
  | a (x : Addr)
  | c (x : Code)
  | v (x : Value)
  | o (x : Obj)
  | s (x : List (Code × Pos) → Sem Fin)
  | q (x : Setting → Sem Fin)
  | t (x : Sem Fin)
noncomputable def Pair.left : Pair → Side
  | .a x _ => .a x | .c x _ => .c x | .v x _ => .v x | .o x _ => .o x | .s x _ => .s x | .q x _ => .q x | .t x _ => .t x
noncomputable def Pair.right : Pair → Side
  | .a _ x => .a x | .c _ x => .c x | .v _ x => .v x | .o _ x => .o x | .s _ x => .s x | .q _ x => .q x | .t _ x => .t x
noncomputable def lefts (l : List Pair) : List Side := @List.rec Pair (fun _ => List Side) [] (fun p _ ih => p.left :: ih) l
noncomputable def rights (l : List Pair) : List Side := @List.rec Pair (fun _ => List Side) [] (fun p _ ih => p.right :: ih) l
inductive Kn where
  | base
  | ret (c : Code) (hd : Option Value) (k : Result → Sem Fin) (κ : Kn)
noncomputable def Facts (h : Heap) (l : List (Addr × Obj)) : Prop := ∀ q ∈ l, h.get? q.1 = some q.2
structure KeptBut (ks : List Addr) (h h' : Heap) : Prop where
  size : h.objs.size ≤ h'.objs.size
  keep : ∀ b o, h.get? b = some o → b ∉ ks → h'.get? b = some o
noncomputable def exB (a : Addr) : Bool := match Nat.beq a 79 with
  | true => true
  | false => match Nat.beq a 86 with
    | true => true
    | false => Nat.beq a 110
noncomputable def Stat (kt : KT) (h : Heap) : Prop := ∀ a o, a < N0 → kt.get a = some o → exB a = false → h.get? a = some o
structure Fresh (h h' : Heap) (as : List Addr) : Prop where
  nd : as.Nodup
  lo : ∀ a ∈ as, h.objs.size ≤ a ∧ a < h'.objs.size
structure Ck (prog : Program) (w : World) (kt : KT) where
  c : Code
  dep : Nat
  uni : Nat
  rd : List (Addr × Obj)
  po : List Addr → List Nat → List Obj
  na : Nat
  nw : List Addr → List Nat → List Obj
  nt : Nat
  res : List Addr → List Nat → Result
  ok : ∀ (A : Around) (s : Shared) (R : Result → Shared → Prop), A.depth ≤ dep → A.units ≤ uni → A.handled = none → N0 ≤ s.heap.objs.size → s.heap.NoLimit → Stat kt s.heap →
    Facts s.heap rd → (rd.map Prod.fst).Nodup → (∀ q ∈ rd, N0 ≤ q.1 ∨ exB q.1 = true) →
    (∀ as ts h' tk', as.length = na → ts.length = nt → Fresh s.heap h' as → Facts h' (as.zip (nw as ts)) → Facts h' ((rd.map Prod.fst).zip (po as ts)) → KeptBut (rd.map Prod.fst) s.heap h' →
      R (res as ts) ⟨h', s.gens, s.drawn, tk', s.os⟩) → codeAny (model prog w) A c R s
structure Fk (prog : Program) (w : World) where
  f : Code → List (Addr × Obj) → Option (List Pair × (List Nat → Result))
  nt : Nat
  ok : ∀ c rd ps r, f c rd = some (ps, r) → (∀ p ∈ ps, p.left = p.right) → ∀ (A : Around) (s : Shared) (R : Result → Shared → Prop), A.depth < 900 → A.units < 9000 →
    Facts s.heap rd → (∀ ts tk', ts.length = nt → R (r ts) { s with toks := tk' }) → codeAny (model prog w) A c R s
inductive Tg (prog : Program) (w : World) (kt : KT) where
  | i (n : Nat)
  | f (l : List Nat) (x : Fk prog w)
  | p (l : List Nat) (x : (Nat → Addr) → (Nat → Nat) → Ck prog w kt)
  | a (l : List Nat) (x : (Nat → Addr) → (Nat → Nat) → Ck prog w kt)
  | h
  | d
  | q
  | e
structure SE where
  gm : Bool
  db : Nat
  ub : Nat
section
variable {prog : Program} {w : World} {kt : KT}
noncomputable abbrev Cert (prog : Program) (w : World) (kt : KT) := List (Tg prog w kt)
inductive Out (prog : Program) (w : World) (kt : KT) where
  | done (r : Result) (G : List (Addr × Obj)) (T : BT) (m k : Nat) (o : List Pair)
  | halt (c' : Code) (c : Code) (hd : Option Value) (f : Result → Sem Fin) (κ : Kn) (G : List (Addr × Obj)) (T : BT) (m k : Nat) (o : List Pair)
  | agn (c' : Code) (κ : Kn) (G : List (Addr × Obj)) (T : BT) (m k : Nat) (o : List Pair)
  | stop (why : Nat) (cs : Cert prog w kt) (c : Code) (κ : Kn) (t : Sem Fin) (G : List (Addr × Obj)) (T : BT) (m k : Nat) (o : List Pair)
noncomputable def place (al : Nat → Addr) (T : BT) : List (Addr × Obj) → Nat → Option (Addr × Obj)
  | [], j => match T.get j with
    | some o => some (al j, o)
    | none => none
  | p :: r, j => match Nat.beq j 0 with
    | true => some p
    | false => place al T r (j - 1)
noncomputable def updG (f : Obj → Obj) : List (Addr × Obj) → Nat → List (Addr × Obj)
  | [], _ => []
  | p :: r, j => match Nat.beq j 0 with
    | true => (p.1, f p.2) :: r
    | false => p :: updG f r (j - 1)
noncomputable def updT (f : Obj → Obj) (T : BT) : List (Addr × Obj) → Nat → BT
  | [], j => T.set j f
  | _ :: r, j => match Nat.beq j 0 with
    | true => T
    | false => updT f T r (j - 1)
noncomputable def insAll (T : BT) (m : Nat) : List Obj → Option BT
  | [] => some T
  | o :: r => match (T.ins m o).get m with
    | some _ => insAll (T.ins m o) (m + 1) r
    | none => none
noncomputable def updAll (T : BT) (G : List (Addr × Obj)) : List Nat → List Obj → Option (List (Addr × Obj) × BT)
  | [], l => match l with
    | [] => some (G, T)
    | _ :: _ => none
  | j :: js, l => match l with
    | [] => none
    | o :: r => updAll (updT (fun _ => o) T G j) (updG (fun _ => o) G j) js r
noncomputable def nodupB : List Nat → Bool
  | [] => true
  | a :: r => match List.elem a r with
    | true => false
    | false => nodupB r
noncomputable def listFrom (f : Nat → Nat) (m : Nat) (n : Nat) : List Nat := @Nat.rec (fun _ => Nat → List Nat) (fun _ => []) (fun _ ih m => f m :: ih (m + 1)) n m
noncomputable def rdPairs (al : Nat → Addr) (T : BT) (G : List (Addr × Obj)) : List Nat → List (Addr × Obj) → Option (List Pair)
  | [], l => match l with
    | [] => some []
    | _ :: _ => none
  | j :: js, l => match l with
    | [] => none
    | q :: qs => match place al T G j with
      | none => none
      | some p => match rdPairs al T G js qs with
        | none => none
        | some r => some (.a p.1 q.1 :: .o p.2 q.2 :: r)
noncomputable def rdAll (al : Nat → Addr) (T : BT) (G : List (Addr × Obj)) : List Nat → Option (List (Addr × Obj))
  | [] => some []
  | j :: js => match place al T G j with
    | none => none
    | some p => match rdAll al T G js with
      | none => none
      | some r => some (p :: r)
noncomputable def gB (prog : Program) (P : Params) (b : Bool) : Setting := ⟨prog, { P with followText := fun _ => b }⟩
noncomputable def leafOf (o2 : Obj) (t : Sem Fin) : Option Code := match t with
  | .load _ _ k => match k o2 with
    | .pure fin => match fin with
      | .again c => some c
      | .done _ => none
    | _ => none
  | _ => none
noncomputable abbrev SimTy (prog : Program) (w : World) (kt : KT) := Cert prog w kt → Code → Kn → Sem Fin → List (Addr × Obj) → BT → Nat → Nat → List Pair → Out prog w kt
noncomputable def quietQ (c : Code) : Bool := ZFast.zw17772548960776305114 c
noncomputable def weightQ (c : Code) : Nat := ZFast.zw1243936422450756474 c
noncomputable def unitsQ (c : Code) : Nat := Fast.tw165980757501359005 c
noncomputable def depthOf (b : Nat) : Kn → Nat
  | .base => b
  | .ret c _ _ κ => depthOf b κ + weightQ c
noncomputable def unitsOfK (b : Nat) : Kn → Nat
  | .base => b
  | .ret c _ _ κ => unitsOfK b κ + unitsQ c
noncomputable def retS (ih : SimTy prog w kt) (r : Result) (cs : Cert prog w kt) (κ : Kn) (G : List (Addr × Obj)) (T : BT) (m k : Nat) (o : List Pair) : Out prog w kt := match κ with
  | .base => .done r G T m k o
  | .ret c _ f κ => ih cs c κ (f r) G T m k o
noncomputable def handledK : Kn → Option Value
  | .base => none
  | .ret _ hd _ κ => match hd with
    | some v => some v
    | none => handledK κ
noncomputable def compPlain (e : PySem.Expr) (dep : Nat) : Bool := match e with
  | .ListComp _ gens _ _ => match gens[dep]? with
    | some g => g.is_async == 0
    | none => false
  | _ => false
noncomputable def startS (al : Nat → Addr) (ih : SimTy prog w kt) (cs : Cert prog w kt) (c' : Code) (κ : Kn) (G : List (Addr × Obj)) (T : BT) (m k : Nat) (o : List Pair) : Out prog w kt :=
  match c' with
  | .compStart e dep it acc env => match cs with
    | .i n :: cs' => match it with
      | .ref a => match compPlain e dep with
       | false => .stop 25 cs c' κ (den c') G T m k o
       | true => match place al T G (n / 2) with
        | some p => ih cs' c' κ (.pure (.again (.compLoop e dep it acc env))) G T m k (.a a p.1 :: .v p.2.cls (.type (match Nat.beq (n % 2) 0 with | true => SL.s3492446563574874994x13 | false => SL.s15992201931430999065x14)) :: o)
        | none => .stop 5 cs c' κ (den c') G T m k o
      | _ => .stop 23 cs c' κ (den c') G T m k o
    | _ => .stop 24 cs c' κ (den c') G T m k o
  | .func body env => ih cs c' κ (cF env body) G T m k o
  | _ => ih cs c' κ (den c') G T m k o
noncomputable def clamp (f : Nat → Nat) (m i : Nat) : Nat := match Nat.blt i m with
  | true => f i
  | false => 0
noncomputable def useC (al : Nat → Addr) (tau : Nat → Nat) (dd uu : Nat) (hh : Option Value) (pl : List Nat) (x : Ck prog w kt) (c' : Code) (G : List (Addr × Obj)) (T : BT) (m k : Nat) (o : List Pair) (no : Nat → Out prog w kt) (go : Result → List (Addr × Obj) → BT → Nat → Nat → List Pair → Out prog w kt) : Out prog w kt :=
  match Nat.ble dd x.dep with
  | false => no 18
  | true => match Nat.ble uu x.uni with
    | false => no 19
    | true => match hh with
      | some _ => no 28
      | none => match nodupB pl with
        | false => no 29
        | true => match rdPairs al T G pl x.rd with
          | none => no 5
          | some l => match updAll T G pl (x.po (listFrom al m x.na) (listFrom tau k x.nt)) with
            | none => no 30
            | some gt => match Nat.beq (x.nw (listFrom al m x.na) (listFrom tau k x.nt)).length x.na with
              | false => no 31
              | true => match insAll gt.2 m (x.nw (listFrom al m x.na) (listFrom tau k x.nt)) with
                | some T' => go (x.res (listFrom al m x.na) (listFrom tau k x.nt)) gt.1 T' (m + x.na) (k + x.nt) (.c c' x.c :: (R.appendR l o))
                | none => no 9
noncomputable def isLoop : Code → Bool
  | .forLoop .. => true
  | .whileLoop .. => true
  | _ => false
noncomputable def stepD (E : SE) (al : Nat → Addr) (ih : SimTy prog w kt) (cs : Cert prog w kt) (c : Code) (κ : Kn) (t : Sem Fin) (c' : Code) (G : List (Addr × Obj)) (T : BT) (m k : Nat) (o : List Pair) : Out prog w kt := match E.gm with
  | false => startS al ih cs c' κ G T m k o
  | true => match c' with
    | .forLoop .. => .stop 26 cs c κ t G T m k o
    | .whileLoop .. => .stop 26 cs c κ t G T m k o
    | _ => startS al ih cs c' κ G T m k o
noncomputable def stepB (E : SE) (al : Nat → Addr) (tau : Nat → Nat) (ih : SimTy prog w kt) (cs : Cert prog w kt) (c : Code) (κ : Kn) (t : Sem Fin) (c' : Code) (G : List (Addr × Obj)) (T : BT) (m k : Nat) (o : List Pair) : Out prog w kt := match cs with
  | .h :: _ => match isLoop c' with
    | true => .agn c' κ G T m k o
    | false => startS al ih cs c' κ G T m k o
  | .a pl x :: cs' => useC al tau (depthOf E.db κ) (unitsOfK E.ub κ) (handledK κ) pl (x (clamp al m) (clamp tau k)) c' G T m k o (fun y => .stop y cs c κ t G T m k o) (fun r G T m k o => retS ih r cs' κ G T m k o)
  | .e :: cs' => match E.gm with
    | true => startS al ih cs' c' κ G T m k o
    | false => startS al ih cs c' κ G T m k o
  | _ => stepD E al ih cs c κ t c' G T m k o
noncomputable def stepA (E : SE) (al : Nat → Addr) (tau : Nat → Nat) (ih : SimTy prog w kt) (cs : Cert prog w kt) (c : Code) (κ : Kn) (t : Sem Fin) (c' : Code) (G : List (Addr × Obj)) (T : BT) (m k : Nat) (o : List Pair) : Out prog w kt := match quietQ c' with
  | true => stepB E al tau ih cs c κ t c' G T m k o
  | false => .stop 1 cs c κ t G T m k o
noncomputable def stepQ (E : SE) (al : Nat → Addr) (tau : Nat → Nat) (ih : SimTy prog w kt) (cs : Cert prog w kt) (c : Code) (κ : Kn) (t : Sem Fin) (f : Setting → Sem Fin) (G : List (Addr × Obj)) (T : BT) (m k : Nat) (o : List Pair) : Out prog w kt := match cs with
    | .d :: cs' => ih cs' c κ (f ⟨prog, w.params⟩) G T m k o
    | .q :: cs' => ih cs' c κ (f (gB prog w.params false)) G T m k (.q f (fun g => f (gB prog w.params (g.params.followText "special-get-raises"))) :: .t (f (gB prog w.params true)) (f (gB prog w.params false)) :: o)
    | _ => .stop 2 cs c κ t G T m k o
noncomputable def stepL (E : SE) (al : Nat → Addr) (tau : Nat → Nat) (ih : SimTy prog w kt) (cs : Cert prog w kt) (c : Code) (κ : Kn) (t : Sem Fin) (a : Addr) (f : Obj → Sem Fin) (G : List (Addr × Obj)) (T : BT) (m k : Nat) (o : List Pair) : Out prog w kt := match cs with
    | .i n :: cs' => match Nat.beq n 0 with
      | true => match Nat.blt a N0 with
        | true => match exB a with
          | true => .stop 12 cs c κ t G T m k o
          | false => match kt.get a with
            | some x => ih cs' c κ (f x) G T m k o
            | none => .stop 3 cs c κ t G T m k o
        | false => .stop 4 cs c κ t G T m k o
      | false => match place al T G (n - 1) with
        | some p => ih cs' c κ (f p.2) G T m k (.a a p.1 :: o)
        | none => .stop 5 cs c κ t G T m k o
    | _ => .stop 6 cs c κ t G T m k o
noncomputable def stepV (E : SE) (al : Nat → Addr) (tau : Nat → Nat) (ih : SimTy prog w kt) (cs : Cert prog w kt) (c : Code) (κ : Kn) (t : Sem Fin) (a : Addr) (f : Option Obj → Sem Fin) (G : List (Addr × Obj)) (T : BT) (m k : Nat) (o : List Pair) : Out prog w kt := match cs with
    | .i n :: cs' => match Nat.beq n 0 with
      | true => .stop 7 cs c κ t G T m k o
      | false => match place al T G (n - 1) with
        | some p => ih cs' c κ (f (some p.2)) G T m k (.a a p.1 :: o)
        | none => .stop 5 cs c κ t G T m k o
    | _ => .stop 6 cs c κ t G T m k o
noncomputable def stepW (E : SE) (al : Nat → Addr) (tau : Nat → Nat) (ih : SimTy prog w kt) (cs : Cert prog w kt) (c : Code) (κ : Kn) (t : Sem Fin) (x : Obj) (f : Addr → Sem Fin) (G : List (Addr × Obj)) (T : BT) (m k : Nat) (o : List Pair) : Out prog w kt := match x.isFreed with
    | true => .stop 8 cs c κ t G T m k o
    | false => match (T.ins m x).get m with
      | some _ => ih cs c κ (f (al m)) G (T.ins m x) (m + 1) k o
      | none => .stop 9 cs c κ t G T m k o
noncomputable def stepU (E : SE) (al : Nat → Addr) (tau : Nat → Nat) (ih : SimTy prog w kt) (cs : Cert prog w kt) (c : Code) (κ : Kn) (t : Sem Fin) (a : Addr) (g : Obj → Obj) (f : Unit → Sem Fin) (G : List (Addr × Obj)) (T : BT) (m k : Nat) (o : List Pair) : Out prog w kt := match cs with
    | .i n :: cs' => match Nat.beq n 0 with
      | true => .stop 12 cs c κ t G T m k o
      | false => match place al T G (n - 1) with
        | some p => match (g p.2).isFreed with
          | true => .stop 13 cs c κ t G T m k o
          | false => ih cs' c κ (f ()) (updG g G (n - 1)) (updT g T G (n - 1)) m k (.a a p.1 :: o)
        | none => .stop 5 cs c κ t G T m k o
    | _ => .stop 6 cs c κ t G T m k o
noncomputable def stepK (E : SE) (al : Nat → Addr) (tau : Nat → Nat) (ih : SimTy prog w kt) (cs : Cert prog w kt) (c : Code) (κ : Kn) (t : Sem Fin) (f : List (Code × Pos) → Sem Fin) (G : List (Addr × Obj)) (T : BT) (m k : Nat) (o : List Pair) : Out prog w kt := match cs with
    | .i n :: cs' => match Nat.beq n 0 with
      | true => match Nat.blt (depthOf E.db κ + weightQ c) 1000 with
        | true => match kt.get 2 with
          | some o2 => match leafOf o2 (f []) with
            | some c' => ih cs' c κ (.pure (.again c')) G T m k (.s f (fun st => R.bindR (enterTail st) (fun _ => .pure (.again c'))) :: o)
            | none => .stop 16 cs c κ t G T m k o
          | none => .stop 17 cs c κ t G T m k o
        | false => .stop 18 cs c κ t G T m k o
      | false => match Nat.blt (unitsOfK E.ub κ + unitsQ c) 9900 with
        | true => ih cs' c κ (f []) G T m k (.s f (fun st => R.bindR (roomTail (match Nat.beq n 1 with | true => SL.s11780134324901847377x10 | false => SL.s11705397079073618416x4) st) (fun _ => f [])) :: o)
        | false => .stop 19 cs c κ t G T m k o
    | _ => .stop 6 cs c κ t G T m k o
noncomputable def stepC (E : SE) (al : Nat → Addr) (tau : Nat → Nat) (ih : SimTy prog w kt) (cs : Cert prog w kt) (c : Code) (κ : Kn) (t : Sem Fin) (c' : Code) (hd : Option Value) (f : Result → Sem Fin) (G : List (Addr × Obj)) (T : BT) (m k : Nat) (o : List Pair) : Out prog w kt := match okMark hd with
    | false => .stop 20 cs c κ t G T m k o
    | true => match cs with
      | .p pl x :: cs' => useC al tau (depthOf E.db κ + weightQ c) (unitsOfK E.ub κ + unitsQ c) (handledK (.ret c hd f κ)) pl (x (clamp al m) (clamp tau k)) c' G T m k o (fun y => .stop y cs c κ t G T m k o) (fun r G T m k o => ih cs' c κ (f r) G T m k o)
      | .f pl x :: cs' => match Nat.blt (depthOf E.db κ + weightQ c) 900 with
        | false => .stop 18 cs c κ t G T m k o
        | true => match Nat.blt (unitsOfK E.ub κ + unitsQ c) 9000 with
          | false => .stop 19 cs c κ t G T m k o
          | true => match rdAll al T G pl with
            | none => .stop 5 cs c κ t G T m k o
            | some rd => match x.f c' rd with
              | none => .stop 27 cs c κ t G T m k o
              | some pr => ih cs' c κ (f (pr.2 (listFrom tau k x.nt))) G T m (k + x.nt) (R.appendR pr.1 o)
      | .h :: _ => .halt c' c hd f κ G T m k o
      | .e :: cs' => startS al ih cs' c' (.ret c hd f κ) G T m k o
      | _ => match E.gm with
        | true => .stop 22 cs c κ t G T m k o
        | false => startS al ih cs c' (.ret c hd f κ) G T m k o
noncomputable def step (E : SE) (al : Nat → Addr) (tau : Nat → Nat) (ih : SimTy prog w kt) (cs : Cert prog w kt) (c : Code) (κ : Kn) (t : Sem Fin) (G : List (Addr × Obj)) (T : BT) (m k : Nat) (o : List Pair) : Out prog w kt :=
  match t with
  | .pure fin => match fin with
    | .done f => retS ih (.ok f) cs κ G T m k o
    | .again c' => stepA E al tau ih cs c κ t c' G T m k o
  | .raise e => retS ih (.error e) cs κ G T m k o
  | .rule _ f => ih cs c κ (f ()) G T m k o
  | .at _ f => ih cs c κ (f ()) G T m k o
  | .point _ f => ih cs c κ (f ()) G T m k o
  | .ask f => stepQ E al tau ih cs c κ t f G T m k o
  | .load a _ f => stepL E al tau ih cs c κ t a f G T m k o
  | .loadIfAlive a f => stepV E al tau ih cs c κ t a f G T m k o
  | .alloc x f => stepW E al tau ih cs c κ t x f G T m k o
  | .update a _ g f => stepU E al tau ih cs c κ t a g f G T m k o
  | .fresh f => ih cs c κ (f (tau k)) G T m (k + 1) o
  | .handled own f => match own with
    | true => .stop 14 cs c κ t G T m k o
    | false => ih cs c κ (f (handledK κ)) G T m k o
  | .stack f => stepK E al tau ih cs c κ t f G T m k o
  | .call c' hd _ _ f => stepC E al tau ih cs c κ t c' hd f G T m k o
  | _ => .stop 21 cs c κ t G T m k o
noncomputable def sim (E : SE) (al : Nat → Addr) (tau : Nat → Nat) : Nat → SimTy prog w kt
  | 0 => fun cs c κ t G T m k o => .stop 0 cs c κ t G T m k o
  | n + 1 => step E al tau (sim E al tau n)
end
section
variable {prog : Program} {w : World} {kt : KT}
noncomputable def Out.ob : Out prog w kt → List Pair
  | .done _ _ _ _ _ o => o
  | .halt _ _ _ _ _ _ _ _ _ o => o
  | .agn _ _ _ _ _ _ o => o
  | .stop _ _ _ _ _ _ _ _ _ o => o
noncomputable def Out.ends : Out prog w kt → Bool
  | .done .. => true
  | _ => false
end
end
section
open PySem PySem.Spec PySem.Calls PyProof.Rows PySem.W PySem.W.X
theorem pairs_of {l : List Pair} (h : lefts l = rights l) : ∀ p ∈ l, p.left = p.right := by
  induction l with
  | nil => intro p hp; cases hp
  | cons x r ih =>
    have h' : x.left :: lefts r = x.right :: rights r := h
    injection h' with h1 h2
    intro p hp
    rcases List.mem_cons.mp hp with rfl | hp
    · exact h1
    · exact ih h2 p hp
section
structure SOk (kt : KT) (hb : Heap) (n : Nat) (Gk : List Addr) : Prop where
  size : hb.objs.size = n
  top : N0 ≤ n
  st : Stat kt hb
  hi : ∀ a ∈ Gk, (N0 ≤ a ∨ exB a = true) ∧ a < n
  nd : Gk.Nodup
  lim : hb.NoLimit
structure SRep (al : Nat → Addr) (hb h : Heap) (n : Nat) (G : List (Addr × Obj)) (T : BT) (m : Nat) : Prop where
  lo : n ≤ h.objs.size
  plc : ∀ j p, place al T G j = some p → h.get? p.1 = some p.2
  bnd : ∀ i o, T.get i = some o → i < m
  adr : ∀ i, i < m → n ≤ al i ∧ al i < h.objs.size
  inj : ∀ i j, i < m → j < m → al i = al j → i = j
  keep : ∀ b o, hb.get? b = some o → b ∉ G.map Prod.fst → h.get? b = some o
theorem place_upd (f : Obj → Obj) (T : BT) (al : Nat → Addr) : ∀ (G : List (Addr × Obj)) (i j : Nat),
    place al (updT f T G j) (updG f G j) i = if i = j then (place al T G j).map (fun p => (p.1, f p.2)) else place al T G i
  | [], i, j => by
    unfold place updT updG
    dsimp only
    rw [BT.get_set]
    by_cases h : i = j
    · subst h
      rw [if_pos rfl, if_pos rfl]
      cases T.get i <;> rfl
    · rw [if_neg h, if_neg h]
  | x :: r, i, j => by
    unfold updT updG
    cases j with
    | zero =>
      cases i with
      | zero => rfl
      | succ i => rw [if_neg (by omega)]; rfl
    | succ j =>
      show place al (updT f T r j) (x :: updG f r j) i = _
      cases i with
      | zero => rw [if_neg (by omega)]; rfl
      | succ i =>
        show place al (updT f T r j) (updG f r j) i = if i + 1 = j + 1 then (place al T r j).map _ else place al T r i
        rw [place_upd f T al r i j]
        by_cases h : i = j
        · rw [if_pos h, if_pos (by omega)]
        · rw [if_neg h, if_neg (by omega)]
theorem updG_keys (f : Obj → Obj) : ∀ (G : List (Addr × Obj)) (j : Nat), (updG f G j).map Prod.fst = G.map Prod.fst
  | [], _ => rfl
  | p :: r, j => by
    unfold updG
    cases Nat.beq j 0 with
    | true => rfl
    | false => show p.1 :: (updG f r (j - 1)).map Prod.fst = _; rw [updG_keys f r (j - 1)]; rfl
theorem updT_bnd (f : Obj → Obj) {T : BT} {m : Nat} (h : ∀ i o, T.get i = some o → i < m) : ∀ (G : List (Addr × Obj)) (j : Nat), ∀ i o, (updT f T G j).get i = some o → i < m
  | [], j, i, o, e => by
    unfold updT at e
    rw [BT.get_set] at e
    by_cases hi : i = j
    · subst hi
      rw [if_pos rfl] at e
      cases q : T.get i with
      | none => rw [q] at e; cases e
      | some x => exact h i x q
    · rw [if_neg hi] at e; exact h i o e
  | x :: r, j, i, o, e => by
    unfold updT at e
    cases q : Nat.beq j 0 with
    | true => rw [q] at e; exact h i o e
    | false => rw [q] at e; exact updT_bnd f h r (j - 1) i o e
theorem place_ins {T : BT} {o : Obj} {m : Nat} (al : Nat → Addr) (hg : ((T.ins m o).get m).isSome = true) : ∀ (G : List (Addr × Obj)) (i : Nat) (p : Addr × Obj),
    place al (T.ins m o) G i = some p → p = (al m, o) ∨ place al T G i = some p
  | [], i, p, e => by
    unfold place at e ⊢
    rw [BT.get_ins o T m hg] at e
    by_cases h : i = m
    · subst h; rw [if_pos rfl] at e; cases e; exact .inl rfl
    · rw [if_neg h] at e; exact .inr e
  | x :: r, i, p, e => by
    unfold place at e ⊢
    cases q : Nat.beq i 0 with
    | true => rw [q] at e; exact .inr e
    | false => rw [q] at e; exact place_ins al hg r (i - 1) p e
theorem place_congr {T : BT} {al al' : Nat → Addr} {m : Nat} (hb : ∀ i o, T.get i = some o → i < m) (ha : ∀ i, i < m → al' i = al i) : ∀ (G : List (Addr × Obj)) (j : Nat), place al' T G j = place al T G j
  | [], j => by
    unfold place
    cases q : T.get j with
    | none => rfl
    | some o => dsimp only; rw [ha j (hb j o q)]
  | x :: r, j => by
    unfold place
    cases Nat.beq j 0 with
    | true => rfl
    | false => exact place_congr hb ha r (j - 1)
theorem place_addr {T : BT} {al : Nat → Addr} : ∀ (G : List (Addr × Obj)) (j : Nat) (p : Addr × Obj), place al T G j = some p → p.1 ∈ G.map Prod.fst ∨ ∃ i, (T.get i = some p.2) ∧ p.1 = al i
  | [], j, p, e => by
    unfold place at e
    cases q : T.get j with
    | none => rw [q] at e; cases e
    | some o => rw [q] at e; cases e; exact .inr ⟨j, q, rfl⟩
  | x :: r, j, p, e => by
    unfold place at e
    cases q : Nat.beq j 0 with
    | true => rw [q] at e; cases e; exact .inl (.head _)
    | false =>
      rw [q] at e
      rcases place_addr r (j - 1) p e with h | h
      · exact .inl (.tail _ h)
      · exact .inr h
theorem beq0 {j : Nat} (q : Nat.beq j 0 = true) : j = 0 := Nat.eq_of_beq_eq_true q
theorem bne0 {j : Nat} (q : Nat.beq j 0 = false) : j ≠ 0 := fun e => by subst e; cases q
theorem place_inj {T : BT} {al : Nat → Addr} {m n : Nat} (hb : ∀ i o, T.get i = some o → i < m) (hn : ∀ i, i < m → n ≤ al i) (hi : ∀ i j, i < m → j < m → al i = al j → i = j) :
    ∀ (G : List (Addr × Obj)) (i j : Nat) (p q : Addr × Obj), (G.map Prod.fst).Nodup → (∀ a ∈ G.map Prod.fst, a < n) → place al T G i = some p → place al T G j = some q → p.1 = q.1 → i = j
  | [], i, j, p, q, _, _, ei, ej, h => by
    unfold place at ei ej
    cases z : T.get i with
    | none => rw [z] at ei; cases ei
    | some o =>
      cases z' : T.get j with
      | none => rw [z'] at ej; cases ej
      | some o' =>
        rw [z] at ei; rw [z'] at ej
        cases ei; cases ej
        exact hi i j (hb i o z) (hb j o' z') h
  | x :: r, i, j, p, q, hnd, hlt, ei, ej, h => by
    rw [List.map_cons, List.nodup_cons] at hnd
    have key : ∀ (k : Nat) (y : Addr × Obj), place al T r k = some y → y.1 ≠ x.1 := by
      intro k y ey z
      rcases place_addr r k y ey with h1 | ⟨i', h1, h2⟩
      · rw [z] at h1; exact hnd.1 h1
      · have h3 := hlt x.1 (.head _)
        have h4 := hn i' (hb i' _ h1)
        rw [← h2, z] at h4
        exact absurd h3 (Nat.not_lt.mpr h4)
    unfold place at ei ej
    cases z : Nat.beq i 0 with
    | true =>
      rw [z] at ei
      cases ei
      cases z' : Nat.beq j 0 with
      | true => rw [beq0 z, beq0 z']
      | false => rw [z'] at ej; exact absurd h.symm (key _ _ ej)
    | false =>
      rw [z] at ei
      cases z' : Nat.beq j 0 with
      | true => rw [z'] at ej; cases ej; exact absurd h (key _ _ ei)
      | false =>
        rw [z'] at ej
        have := place_inj hb hn hi r (i - 1) (j - 1) p q hnd.2 (fun a ha => hlt a (.tail _ ha)) ei ej h
        have := bne0 z
        have := bne0 z'
        omega
variable {kt : KT} {al al' : Nat → Addr} {hb h : Heap} {n : Nat} {G : List (Addr × Obj)} {T : BT} {m : Nat} {Gk : List Addr}
theorem SRep.congr (D : SRep al hb h n G T m) (ha : ∀ i, i < m → al' i = al i) : SRep al' hb h n G T m :=
  ⟨D.lo, fun j p e => D.plc j p (by rw [← place_congr D.bnd ha G j]; exact e), D.bnd, fun i hi => by rw [ha i hi]; exact D.adr i hi, fun i j hi hj e => D.inj i j hi hj (by rw [← ha i hi, ← ha j hj]; exact e), D.keep⟩
theorem ex_lt {a : Addr} (h : exB a = true) : a < N0 := by
  unfold exB at h
  split at h
  · rename_i q; rw [Nat.eq_of_beq_eq_true q]; decide
  · split at h
    · rename_i q; rw [Nat.eq_of_beq_eq_true q]; decide
    · rw [Nat.eq_of_beq_eq_true h]; decide
theorem SRep.static (S : SOk kt hb n Gk) (D : SRep al hb h n G T m) (hk : G.map Prod.fst = Gk) {a : Addr} {o : Obj} (ha : a < N0) (e : kt.get a = some o) (e1 : exB a = false) : h.get? a = some o :=
  D.keep a o (S.st a o ha e e1) (fun hm => by
    rcases (S.hi a (hk ▸ hm)).1 with h1 | h1
    · exact absurd ha (Nat.not_lt.mpr h1)
    · rw [e1] at h1; cases h1)
theorem SRep.stat (S : SOk kt hb n Gk) (D : SRep al hb h n G T m) (hk : G.map Prod.fst = Gk) : Stat kt h := fun _ _ ha e e1 => D.static S hk ha e e1
theorem SRep.noLimit (S : SOk kt hb n Gk) (D : SRep al hb h n G T m) (hk : G.map Prod.fst = Gk) : h.NoLimit := by
  refine Heap.NoLimit.at S.lim fun o e => ?_
  refine D.keep cStatics o e (fun hm => ?_)
  rcases (S.hi cStatics (hk ▸ hm)).1 with h1 | h1
  · exact absurd h1 (by decide)
  · exact absurd h1 (by decide)
theorem SRep.addr (S : SOk kt hb n Gk) (D : SRep al hb h n G T m) (hk : G.map Prod.fst = Gk) {j : Nat} {p : Addr × Obj} (e : place al T G j = some p) : N0 ≤ p.1 ∨ exB p.1 = true := by
  rcases place_addr G j p e with h1 | ⟨i, h1, h2⟩
  · exact (S.hi p.1 (hk ▸ h1)).1
  · rw [h2]; exact .inl (Nat.le_trans S.top (D.adr i (D.bnd i _ h1)).1)
theorem SRep.place_inj (S : SOk kt hb n Gk) (D : SRep al hb h n G T m) (hk : G.map Prod.fst = Gk) {i j : Nat} {p q : Addr × Obj} (ei : place al T G i = some p) (ej : place al T G j = some q) (hpq : p.1 = q.1) : i = j :=
  Mine.place_inj D.bnd (fun i hi => (D.adr i hi).1) D.inj G i j p q (hk ▸ S.nd) (fun a ha => (S.hi a (hk ▸ ha)).2) ei ej hpq
theorem SRep.alloc (S : SOk kt hb n Gk) (D : SRep al hb h n G T m) (hm : al m = h.objs.size) {o : Obj} (hf : o.isFreed = false) (hg : ((T.ins m o).get m).isSome = true) : SRep al hb (h.push o) n G (T.ins m o) (m + 1) := by
  have hsz : (h.push o).objs.size = h.objs.size + 1 := by rw [Heap.size_push]
  refine ⟨by rw [hsz]; exact Nat.le_succ_of_le D.lo, fun j p e => ?_, fun i o' e => ?_, fun i hi => ?_, fun i j hi hj e => ?_, fun b o' e h1 => Heap.get?_push_of_some _ (D.keep b o' e h1)⟩
  · rcases place_ins al hg G j p e with rfl | h1
    · show (h.push o).get? (al m) = some o
      rw [hm]; exact Heap.get?_push_size _ hf
    · exact Heap.get?_push_of_some _ (D.plc j p h1)
  · rw [BT.get_ins o T m hg] at e
    by_cases hi : i = m
    · omega
    · rw [if_neg hi] at e; exact Nat.lt_succ_of_lt (D.bnd i o' e)
  · rw [hsz]
    by_cases h1 : i = m
    · subst h1; rw [hm]; exact ⟨D.lo, Nat.lt_succ_self _⟩
    · have h2 := D.adr i (by omega); exact ⟨h2.1, Nat.lt_succ_of_lt h2.2⟩
  · by_cases h1 : i = m
    · by_cases h2 : j = m
      · omega
      · have h3 := (D.adr j (by omega)).2
        rw [h1, hm] at e; rw [← e] at h3; exact absurd h3 (Nat.lt_irrefl _)
    · by_cases h2 : j = m
      · have h3 := (D.adr i (by omega)).2
        rw [h2, hm] at e; rw [e] at h3; exact absurd h3 (Nat.lt_irrefl _)
      · exact D.inj i j (by omega) (by omega) e
theorem SRep.update (S : SOk kt hb n Gk) (D : SRep al hb h n G T m) (hk : G.map Prod.fst = Gk) {j : Nat} {p : Addr × Obj} {f : Obj → Obj} (e : Mine.place al T G j = some p) (hf : (f p.2).isFreed = false) :
    SRep al hb (h.update p.1 f) n (updG f G j) (updT f T G j) m := by
  have ho := D.plc j p e
  have hs : Heap.SameBut p.1 h (h.update p.1 f) := Heap.SameBut.update ..
  have ge : (h.update p.1 f).get? p.1 = some (f p.2) := by first | exact Heap.get?_update_self f ho hf | exact Heap.get?_update_self _ ho hf
  refine ⟨by rw [hs.1]; exact D.lo, fun i q eq => ?_, updT_bnd f D.bnd G j, fun i hi => by rw [hs.1]; exact D.adr i hi, D.inj, fun b o' e' h1 => ?_⟩
  · rw [place_upd] at eq
    by_cases hi : i = j
    · rw [if_pos hi, e] at eq
      cases eq
      exact ge
    · rw [if_neg hi] at eq
      refine (hs.2 _ fun z => hi (D.place_inj S hk eq e z)).trans (D.plc i q eq)
  · rw [updG_keys] at h1
    refine (hs.2 b fun z => ?_).trans (D.keep b o' e' h1)
    rcases place_addr G j p e with h2 | ⟨i, h2, h3⟩
    · exact h1 (z ▸ h2)
    · have h4 := Heap.lt_size e'
      have h5 := (D.adr i (D.bnd i _ h2)).1
      rw [S.size, z, h3] at h4
      exact absurd h4 (Nat.not_lt.mpr h5)
theorem rdPairs_congr {T : BT} (hb : ∀ i o, T.get i = some o → i < m) (ha : ∀ i, i < m → al' i = al i) (G : List (Addr × Obj)) : ∀ (js : List Nat) (qs : List (Addr × Obj)), rdPairs al' T G js qs = rdPairs al T G js qs
  | [], [] => rfl
  | [], _ :: _ => rfl
  | _ :: _, [] => rfl
  | j :: js, x :: qs => by
    unfold rdPairs
    dsimp only
    rw [place_congr hb ha G j, rdPairs_congr hb ha G js qs]
theorem rdAll_congr {T : BT} (hb : ∀ i o, T.get i = some o → i < m) (ha : ∀ i, i < m → al' i = al i) (G : List (Addr × Obj)) : ∀ (js : List Nat), rdAll al' T G js = rdAll al T G js
  | [] => rfl
  | j :: js => by
    unfold rdAll
    rw [place_congr hb ha G j, rdAll_congr hb ha G js]
inductive At (al : Nat → Addr) (T : BT) (G : List (Addr × Obj)) : List Nat → List (Addr × Obj) → Prop
  | nil : At al T G [] []
  | cons {j js q qs} : place al T G j = some q → At al T G js qs → At al T G (j :: js) (q :: qs)
theorem rdPairs_spec : ∀ (js : List Nat) (qs : List (Addr × Obj)) (l : List Pair), rdPairs al T G js qs = some l → (∀ p ∈ l, p.left = p.right) → At al T G js qs
  | [], [], _, _, _ => .nil
  | [], _ :: _, _, e, _ => nomatch e
  | _ :: _, [], _, e, _ => nomatch e
  | j :: js, x :: qs, l, e, hl => by
    unfold rdPairs at e
    dsimp only at e
    cases hp : Mine.place al T G j with
    | none => rw [hp] at e; cases e
    | some p =>
      rw [hp] at e
      dsimp only at e
      cases hr : rdPairs al T G js qs with
      | none => rw [hr] at e; cases e
      | some r =>
        rw [hr] at e
        cases e
        have e1 : Side.a p.1 = Side.a x.1 := hl (.a p.1 x.1) (.head _)
        have e2 : Side.o p.2 = Side.o x.2 := hl (.o p.2 x.2) (.tail _ (.head _))
        injection e1 with e1
        injection e2 with e2
        have hpx : p = x := by cases p; cases x; dsimp only at e1 e2; rw [e1, e2]
        refine .cons (by rw [hp, hpx]) (rdPairs_spec js qs r hr (fun p hp => hl p (.tail _ (.tail _ hp))))
theorem rdAll_spec : ∀ (js : List Nat) (rd : List (Addr × Obj)), rdAll al T G js = some rd → At al T G js rd
  | [], rd, e => by cases e; exact .nil
  | j :: js, rd, e => by
    unfold rdAll at e
    cases hp : Mine.place al T G j with
    | none => rw [hp] at e; cases e
    | some p =>
      rw [hp] at e
      dsimp only at e
      cases hr : rdAll al T G js with
      | none => rw [hr] at e; cases e
      | some r =>
        rw [hr] at e
        cases e
        exact .cons hp (rdAll_spec js r hr)
theorem At.mem {js : List Nat} {qs : List (Addr × Obj)} (H : At al T G js qs) : ∀ q ∈ qs, ∃ j ∈ js, place al T G j = some q := by
  induction H with
  | nil => intro q hq; cases hq
  | cons h1 _ ih =>
    intro q hq
    rcases List.mem_cons.mp hq with rfl | hq
    · exact ⟨_, .head _, h1⟩
    · obtain ⟨j, hj, e⟩ := ih q hq; exact ⟨j, .tail _ hj, e⟩
theorem At.facts {js : List Nat} {qs : List (Addr × Obj)} (D : SRep al hb h n G T m) (H : At al T G js qs) : Facts h qs := fun q hq => by
  obtain ⟨j, _, e⟩ := H.mem q hq
  exact D.plc j q e
theorem nodupB_not {a : Nat} {r : List Nat} (h : nodupB (a :: r) = true) : a ∉ r ∧ nodupB r = true := by
  unfold nodupB at h
  split at h
  · cases h
  · rename_i q
    refine ⟨fun hm => ?_, h⟩
    rw [List.elem_eq_true_of_mem hm] at q
    cases q
theorem At.nodup (S : SOk kt hb n Gk) (D : SRep al hb h n G T m) (hk : G.map Prod.fst = Gk) {js : List Nat} {qs : List (Addr × Obj)} (H : At al T G js qs) : nodupB js = true → (qs.map Prod.fst).Nodup := by
  induction H with
  | nil => intro _; exact List.nodup_nil
  | cons h1 h2 ih =>
    intro hn
    obtain ⟨hn1, hn2⟩ := nodupB_not hn
    rw [List.map_cons, List.nodup_cons]
    refine ⟨fun hm => ?_, ih hn2⟩
    obtain ⟨q', hq', e⟩ := List.mem_map.mp hm
    obtain ⟨j', hj', e'⟩ := h2.mem q' hq'
    have := D.place_inj S hk h1 e' e.symm
    subst this
    exact hn1 hj'
theorem At.upd {f : Obj → Obj} {j : Nat} {js : List Nat} {qs : List (Addr × Obj)} (H : At al T G js qs) (hj : j ∉ js) : At al (updT f T G j) (updG f G j) js qs := by
  induction H with
  | nil => exact .nil
  | cons h1 _ ih =>
    refine .cons ?_ (ih fun h => hj (.tail _ h))
    rw [place_upd, if_neg (fun z => hj (by rw [z]; exact .head _))]
    exact h1
theorem updAll_spec {h' : Heap} : ∀ (js : List Nat) (qs : List (Addr × Obj)) (l : List Obj) (T : BT) (G : List (Addr × Obj)) (gt : List (Addr × Obj) × BT), nodupB js = true → At al T G js qs → updAll T G js l = some gt → Facts h' ((qs.map Prod.fst).zip l) →
    (∀ i p, place al T G i = some p → i ∉ js → h'.get? p.1 = some p.2) → (∀ i o, T.get i = some o → i < m) →
    (∀ i p, place al gt.2 gt.1 i = some p → h'.get? p.1 = some p.2) ∧ (∀ i o, gt.2.get i = some o → i < m) ∧ gt.1.map Prod.fst = G.map Prod.fst
  | [], qs, [], T, G, gt, _, _, e, _, hp, hb => by
    cases e
    exact ⟨fun i p ei => hp i p ei (fun z => nomatch z), hb, rfl⟩
  | [], _, _ :: _, _, _, _, _, _, e, _, _, _ => nomatch e
  | _ :: _, _, [], _, _, _, _, _, e, _, _, _ => nomatch e
  | j :: js, qs, o :: r, T, G, gt, hn, H, e, hf, hp, hb => by
    obtain ⟨hn1, hn2⟩ := nodupB_not hn
    cases H with
    | cons h1 h2 =>
      rename_i q qs
      have e' : updAll (updT (fun _ => o) T G j) (updG (fun _ => o) G j) js r = some gt := e
      have z := updAll_spec js qs r (updT (fun _ => o) T G j) (updG (fun _ => o) G j) gt hn2 (h2.upd hn1) e' (fun y hy => hf y (.tail _ hy)) ?_ (updT_bnd _ hb G j)
      · exact ⟨z.1, z.2.1, z.2.2.trans (updG_keys ..)⟩
      · intro i p ei hi
        rw [place_upd] at ei
        by_cases hij : i = j
        · rw [if_pos hij, h1] at ei
          cases ei
          exact hf (q.1, o) (.head _)
        · rw [if_neg hij] at ei
          exact hp i p ei (fun hm => by
            rcases List.mem_cons.mp hm with hm | hm
            · exact hij hm
            · exact hi hm)
theorem listFrom_succ (f : Nat → Nat) (m n : Nat) : listFrom f m (n + 1) = f m :: listFrom f (m + 1) n := rfl
theorem listFrom_len (f : Nat → Nat) : ∀ n m, (listFrom f m n).length = n
  | 0, _ => rfl
  | n + 1, m => by rw [listFrom_succ, List.length_cons, listFrom_len f n (m + 1)]
theorem insAll_spec {h' : Heap} : ∀ (l : List Obj) (T T' : BT) (m : Nat), insAll T m l = some T' → Facts h' ((listFrom al m l.length).zip l) →
    (∀ i p, place al T G i = some p → h'.get? p.1 = some p.2) → (∀ i o, T.get i = some o → i < m) →
    (∀ i p, place al T' G i = some p → h'.get? p.1 = some p.2) ∧ (∀ i o, T'.get i = some o → i < m + l.length)
  | [], T, T', m, e, _, hp, hb => by cases e; exact ⟨hp, hb⟩
  | o :: r, T, T', m, e, hf, hp, hb => by
    unfold insAll at e
    cases hg : (T.ins m o).get m with
    | none => rw [hg] at e; cases e
    | some x =>
      rw [hg] at e
      have hg' : ((T.ins m o).get m).isSome = true := by rw [hg]; rfl
      rw [List.length_cons, listFrom_succ, List.zip_cons_cons] at hf
      have z := insAll_spec r (T.ins m o) T' (m + 1) e (fun y hy => hf y (.tail _ hy)) ?_ ?_
      · rw [List.length_cons, show m + (r.length + 1) = m + 1 + r.length by omega]
        exact z
      · intro i p ei
        rcases place_ins al hg' G i p ei with rfl | h1
        · exact hf (al m, o) (.head _)
        · exact hp i p h1
      · intro i o' ei
        rw [BT.get_ins o T m hg'] at ei
        by_cases hi : i = m
        · omega
        · rw [if_neg hi] at ei; exact Nat.lt_succ_of_lt (hb i o' ei)
theorem listFrom_mem (f : Nat → Nat) : ∀ n m i, m ≤ i → i < m + n → f i ∈ listFrom f m n
  | 0, m, i, h1, h2 => by omega
  | n + 1, m, i, h1, h2 => by
    rw [listFrom_succ]
    by_cases h : i = m
    · rw [h]; exact .head _
    · exact .tail _ (listFrom_mem f n (m + 1) i (by omega) (by omega))
theorem listFrom_inj (f : Nat → Nat) : ∀ n m i j, (listFrom f m n).Nodup → m ≤ i → i < m + n → m ≤ j → j < m + n → f i = f j → i = j
  | 0, m, i, j, _, h1, h2, _, _, _ => by omega
  | n + 1, m, i, j, hn, h1, h2, h3, h4, e => by
    rw [listFrom_succ, List.nodup_cons] at hn
    by_cases hi : i = m
    · by_cases hj : j = m
      · omega
      · exact absurd (listFrom_mem f n (m + 1) j (by omega) (by omega)) (by rw [← e, hi]; exact hn.1)
    · by_cases hj : j = m
      · exact absurd (listFrom_mem f n (m + 1) i (by omega) (by omega)) (by rw [e, hj]; exact hn.1)
      · exact listFrom_inj f n (m + 1) i j hn.2 (by omega) (by omega) (by omega) (by omega) e
theorem listFrom_congr {f g : Nat → Nat} : ∀ n m, (∀ i, m ≤ i → i < m + n → f i = g i) → listFrom f m n = listFrom g m n
  | 0, _, _ => rfl
  | n + 1, m, h => by rw [listFrom_succ, listFrom_succ, h m (Nat.le_refl _) (by omega), listFrom_congr n (m + 1) (fun i h1 h2 => h i (by omega) (by omega))]
theorem SRep.after (S : SOk kt hb n Gk) (D : SRep al hb h n G T m) (hk : G.map Prod.fst = Gk) {h' : Heap} {js : List Nat} {rd : List (Addr × Obj)} (hn : nodupB js = true) (H : At al T G js rd) {po nw : List Obj} {na : Nat} {gt : List (Addr × Obj) × BT} {T' : BT}
    (e1 : updAll T G js po = some gt) (e2 : insAll gt.2 m nw = some T') (hl : nw.length = na) (hF : Fresh h h' (listFrom al m na)) (f1 : Facts h' ((listFrom al m na).zip nw)) (f2 : Facts h' ((rd.map Prod.fst).zip po)) (hK : KeptBut (rd.map Prod.fst) h h') :
    SRep al hb h' n gt.1 T' (m + na) ∧ gt.1.map Prod.fst = Gk := by
  obtain ⟨p1, p2, p3⟩ := updAll_spec (m := m) (h' := h') js rd po T G gt hn H e1 f2 (fun i p ei hi => hK.keep _ _ (D.plc i p ei) (fun hm => by
    obtain ⟨q, hq, e⟩ := List.mem_map.mp hm
    obtain ⟨j, hj, ej⟩ := H.mem q hq
    exact hi (D.place_inj S hk ei ej e.symm ▸ hj))) D.bnd
  subst hl
  obtain ⟨q1, q2⟩ := insAll_spec (G := gt.1) nw gt.2 T' m e2 f1 p1 p2
  refine ⟨⟨Nat.le_trans D.lo hK.size, q1, q2, fun i hi => ?_, fun i j hi hj e => ?_, fun b o' e' h1 => ?_⟩, p3.trans hk⟩
  · by_cases h1 : i < m
    · have := D.adr i h1
      exact ⟨this.1, Nat.lt_of_lt_of_le this.2 hK.size⟩
    · have := hF.lo _ (listFrom_mem al nw.length m i (by omega) hi)
      exact ⟨Nat.le_trans D.lo this.1, this.2⟩
  · by_cases h1 : i < m
    · by_cases h2 : j < m
      · exact D.inj i j h1 h2 e
      · have h3 := (D.adr i h1).2
        have h4 := (hF.lo _ (listFrom_mem al nw.length m j (by omega) hj)).1
        rw [e] at h3; exact absurd h3 (Nat.not_lt.mpr h4)
    · by_cases h2 : j < m
      · have h3 := (D.adr j h2).2
        have h4 := (hF.lo _ (listFrom_mem al nw.length m i (by omega) hi)).1
        rw [← e] at h3; exact absurd h3 (Nat.not_lt.mpr h4)
      · exact listFrom_inj al nw.length m i j hF.nd (by omega) hi (by omega) hj e
  · rw [p3] at h1
    refine hK.keep b o' (D.keep b o' e' h1) fun hm => ?_
    obtain ⟨q, hq, e⟩ := List.mem_map.mp hm
    obtain ⟨j, hj, ej⟩ := H.mem q hq
    rcases place_addr G j q ej with h2 | ⟨i, h2, h3⟩
    · exact h1 (e ▸ h2)
    · have h4 := Heap.lt_size e'
      have h5 := (D.adr i (D.bnd i _ h2)).1
      rw [S.size, ← e, h3] at h4
      exact absurd h4 (Nat.not_lt.mpr h5)
end
end
section
open PySem PySem.Spec PySem.Calls PyProof.Rows PySem.W PySem.W.X
section
variable {prog : Program} {w : World} {kt : KT}
noncomputable def aroundK (A₀ : Around) : Kn → Around
  | .base => A₀
  | .ret c hd _ κ => ((aroundK A₀ κ).under c).mark hd
noncomputable def endK (prog : Program) (w : World) (A₀ : Around) (R₀ : Result → Shared → Prop) : Kn → Result → Shared → Prop
  | .base => R₀
  | .ret c _ k κ => postR prog w (aroundK A₀ κ) c (postC prog w (aroundK A₀ κ) (endK prog w A₀ R₀ κ)) (postE (endK prog w A₀ R₀ κ)) k
noncomputable def MeansK (prog : Program) (w : World) (A₀ : Around) (R₀ : Result → Shared → Prop) (c : Code) (κ : Kn) (t : Sem Fin) (s : Shared) : Prop :=
  wpOwn (model prog w) (aroundK A₀ κ) c t (postC prog w (aroundK A₀ κ) (endK prog w A₀ R₀ κ)) (postE (endK prog w A₀ R₀ κ)) s
structure AOk (E : SE) (A₀ : Around) : Prop where
  depth : A₀.depth ≤ E.db
  units : A₀.units ≤ E.ub
  handled : A₀.handled = none
theorem weight_eq (c : Code) : c.weight = weightQ c := by unfold weightQ; rw [← ZFast.ze1243936422450756474]
theorem units_eq (c : Code) : c.cUnits = unitsQ c := by unfold unitsQ; rw [← Fast.te165980757501359005]
theorem quiet_eq (c : Code) : c.quiet = quietQ c := by unfold quietQ; rw [← ZFast.ze17772548960776305114]
theorem depth_le {E : SE} {A₀ : Around} (hA : AOk E A₀) : ∀ κ, (aroundK A₀ κ).depth ≤ depthOf E.db κ
  | .base => hA.depth
  | .ret c hd k κ => by
    show (aroundK A₀ κ).depth + c.weight ≤ depthOf E.db κ + weightQ c
    rw [weight_eq]
    exact Nat.add_le_add_right (depth_le hA κ) _
theorem units_le {E : SE} {A₀ : Around} (hA : AOk E A₀) : ∀ κ, (aroundK A₀ κ).units ≤ unitsOfK E.ub κ
  | .base => hA.units
  | .ret c hd k κ => by
    show (aroundK A₀ κ).units + c.cUnits ≤ unitsOfK E.ub κ + unitsQ c
    rw [units_eq]
    exact Nat.add_le_add_right (units_le hA κ) _
theorem handled_is {E : SE} {A₀ : Around} (hA : AOk E A₀) : ∀ κ, (aroundK A₀ κ).handled = handledK κ
  | .base => hA.handled
  | .ret c hd k κ => by
    show hd.or (aroundK A₀ κ).handled = _
    rw [handled_is hA κ]
    cases hd <;> rfl
theorem enter_is : (enterFrame : Sem Unit) = .stack enterTail := by
  rw [Fast.te15066281185411960212]
  rfl
noncomputable def Good (A₀ : Around) (R₀ : Result → Shared → Prop) (hb : Heap) (n : Nat) (g : Array GenState) (d : Drawn) (os : OsState) (al : Nat → Addr) : Out prog w kt → Prop
  | .done r G T m k o => (∀ p ∈ o, p.left = p.right) ∧ ∀ h toks, SRep al hb h n G T m → R₀ r ⟨h, g, d, toks, os⟩
  | .halt c' c hd f κ G T m k o => (∀ p ∈ o, p.left = p.right) ∧ ∀ h toks, SRep al hb h n G T m →
      codeAny (model prog w) (((aroundK A₀ κ).under c).mark hd) c' (postR prog w (aroundK A₀ κ) c (postC prog w (aroundK A₀ κ) (endK prog w A₀ R₀ κ)) (postE (endK prog w A₀ R₀ κ)) f) ⟨h, g, d, toks, os⟩
  | .agn c' κ G T m k o => (∀ p ∈ o, p.left = p.right) ∧ ∀ h toks, SRep al hb h n G T m → codeAny (model prog w) (aroundK A₀ κ) c' (endK prog w A₀ R₀ κ) ⟨h, g, d, toks, os⟩
  | .stop .. => False
theorem okMark_ne {hd : Option Value} (q : okMark hd = true) : hd ≠ some byPass := by
  intro e
  subst e
  simp [okMark] at q
variable {A₀ : Around} {R₀ : Result → Shared → Prop} {hb : Heap} {n : Nat} {Gk : List Addr} {g : Array GenState} {d : Drawn} {os : OsState}
noncomputable def Agr (m k : Nat) (al : Nat → Addr) (tau : Nat → Nat) (al' : Nat → Addr) (tau' : Nat → Nat) : Prop := (∀ i, i < m → al' i = al i) ∧ ∀ i, i < k → tau' i = tau i
theorem Agr.refl (m k : Nat) (al : Nat → Addr) (tau : Nat → Nat) : Agr m k al tau al tau := ⟨fun _ _ => rfl, fun _ _ => rfl⟩
noncomputable def Obs (A₀ : Around) (R₀ : Result → Shared → Prop) (hb : Heap) (n : Nat) (g : Array GenState) (d : Drawn) (os : OsState) (al : Nat → Addr) (ih : SimTy prog w kt) : Prop :=
  ∀ cs c κ t G T m k o, Good A₀ R₀ hb n g d os al (ih cs c κ t G T m k o) → ∀ p ∈ o, p.left = p.right
noncomputable def IH (A₀ : Around) (R₀ : Result → Shared → Prop) (hb : Heap) (n : Nat) (Gk : List Addr) (g : Array GenState) (d : Drawn) (os : OsState) (ih : (Nat → Addr) → (Nat → Nat) → SimTy prog w kt) : Prop :=
  ∀ al tau cs c κ t G T m k o h toks, G.map Prod.fst = Gk → SRep al hb h n G T m → (∀ al' tau', Agr m k al tau al' tau' → Good A₀ R₀ hb n g d os al' (ih al' tau' cs c κ t G T m k o)) →
    MeansK prog w A₀ R₀ c κ t ⟨h, g, d, toks, os⟩
noncomputable def leafT : Result → Sem Fin
  | .ok f => .pure (.done f)
  | .error e => .raise e
theorem comp_start {A : Around} {R : Result → Shared → Prop} {s : Shared} {e : PySem.Expr} {dep : Nat} {a : Addr} {acc : Value} {env : Env} {o : Obj} (hp : compPlain e dep = true) (ho : s.heap.get? a = some o)
    (hc : o.cls = .type "list_iterator" ∨ o.cls = .type "range_iterator")
    (h0 : codeAny (model prog w) A (.compLoop e dep (.ref a) acc env) R s) : codeAny (model prog w) A (.compStart e dep (.ref a) acc env) R s := by
  have hit : ∀ {A : Around} {E : Value → Shared → Prop} {Q : Value → Shared → Prop}, Q (.ref a) s → wpAny (model prog w) A (pyIter (.ref a)) Q E s := by
    intro A E Q hq
    rcases hc with hc | hc
    · have hT : s.TypeIs (.ref a) "list_iterator" := ⟨_, ho, hc⟩
      refine wpAny_pyIter_slot hT slot_listiter_iter (wpAny_call_entry slot_listiter_iter hT entry_listiter_iter ?_ (args_listiter_iter _))
      show wpAny _ _ (ret (.ref a)) _ _ s
      exact wpAny_pure ⟨_, rfl, "list_iterator", _, hT, slot_listiter_next.lookup, hq⟩
    · have hT : s.TypeIs (.ref a) "range_iterator" := ⟨_, ho, hc⟩
      refine wpAny_pyIter_slot hT F.slot_range_iterator_iter (wpAny_call_entry F.slot_range_iterator_iter hT F.entry_range_iterator_iter ?_ (F.args_range_iterator_iter_1 _))
      show wpAny _ _ (ret (.ref a)) _ _ s
      exact wpAny_pure ⟨_, rfl, "range_iterator", _, hT, F.slot_range_iterator_next.lookup, hq⟩
  unfold compPlain at hp
  split at hp
  · rename_i elt gens scope pos
    split at hp
    · rename_i g hg
      refine codeAny_of_tree ?_
      show wpAny _ _ ((compStart (.ListComp elt gens scope pos) dep (.ref a) acc env).onRaise (fun x => do noteFrame x env; standAt theWindowsPlace)) _ _ s
      refine wpAny_notedAt ?_
      have h1 : ((clausesOf (.ListComp elt gens scope pos))[dep]?).elim false (fun c => c.is_async != 0) = false := by
        show (gens[dep]?).elim false (fun c => c.is_async != 0) = false
        rw [hg]
        show (g.is_async != 0) = false
        rw [bne, hp]; rfl
      unfold compStart
      rw [h1]
      show wpAny _ _ (ask >>= _) _ _ s
      refine wpAny_bind (wpAny_askSetting (wpAny_ite ?_))
      split
      · first
          | exact wpAny_bind (wpAny_pure (wpAny_pure (And.intro rfl h0)))
          | exact wpAny_pure (And.intro rfl h0)
      · refine wpAny_bind (wpAny_rule ?_)
        have hcl : (clausesOf (.ListComp elt gens scope pos))[dep]? = some g := hg
        rw [hcl]
        exact wpAny_bind (wpAny_standAt (wpAny_bind (hit (wpAny_pure (And.intro rfl h0)))))
    · cases hp
  · cases hp
section
variable {al : Nat → Addr} {ih : SimTy prog w kt} (O : Obs A₀ R₀ hb n g d os al ih)
include O
theorem retS_obs {r : Result} {cs : Cert prog w kt} {κ : Kn} {G : List (Addr × Obj)} {T : BT} {m k : Nat} {o : List Pair} (X : Good A₀ R₀ hb n g d os al (retS ih r cs κ G T m k o)) : ∀ p ∈ o, p.left = p.right := by
  cases κ with
  | base => exact X.1
  | ret c₁ hd f κ₁ => exact O _ _ _ _ _ _ _ _ _ X
theorem startS_obs {cs : Cert prog w kt} {c' : Code} {κ : Kn} {G : List (Addr × Obj)} {T : BT} {m k : Nat} {o : List Pair} (X : Good A₀ R₀ hb n g d os al (startS al ih cs c' κ G T m k o)) : ∀ p ∈ o, p.left = p.right := by
  cases c' with
  | compStart e dep it acc env =>
    unfold startS at X
    dsimp only at X
    split at X
    · split at X
      · split at X
        · cases X
        · split at X
          · exact fun p hp => O _ _ _ _ _ _ _ _ _ X p (.tail _ (.tail _ hp))
          · cases X
      · cases X
    · cases X
  | _ => exact O _ _ _ _ _ _ _ _ _ X
end
section
variable {ih : (Nat → Addr) → (Nat → Nat) → SimTy prog w kt} (O : ∀ al tau, Obs A₀ R₀ hb n g d os al (ih al tau)) (H : IH A₀ R₀ hb n Gk g d os ih)
include H
theorem endS_sound {al : Nat → Addr} {tau : Nat → Nat} {r : Result} {cs : Cert prog w kt} {κ : Kn} {G : List (Addr × Obj)} {T : BT} {m k : Nat} {o : List Pair} {h : Heap} {toks : Nat} (hk : G.map Prod.fst = Gk) (D : SRep al hb h n G T m)
    (X : ∀ al' tau', Agr m k al tau al' tau' → Good A₀ R₀ hb n g d os al' (retS (ih al' tau') r cs κ G T m k o)) : endK prog w A₀ R₀ κ r ⟨h, g, d, toks, os⟩ := by
  cases κ with
  | base => exact (X al tau (.refl ..)).2 h toks D
  | ret c₁ hd f κ₁ => exact H _ _ _ _ _ _ _ _ _ _ _ h toks hk D X
theorem retS_sound {al : Nat → Addr} {tau : Nat → Nat} {r : Result} {cs : Cert prog w kt} {c : Code} {κ : Kn} {t : Sem Fin} (ht : t = leafT r) {G : List (Addr × Obj)} {T : BT} {m k : Nat} {o : List Pair} {h : Heap} {toks : Nat} (hk : G.map Prod.fst = Gk) (D : SRep al hb h n G T m)
    (X : ∀ al' tau', Agr m k al tau al' tau' → Good A₀ R₀ hb n g d os al' (retS (ih al' tau') r cs κ G T m k o)) : MeansK prog w A₀ R₀ c κ t ⟨h, g, d, toks, os⟩ := by
  have key := endS_sound (toks := toks) H hk D X
  cases r with
  | ok f => subst ht; exact y_pure _ _ _ _ _ _ _ _ _ (y_done _ _ _ _ _ _ key)
  | error e => subst ht; exact y_raise _ _ _ _ _ _ _ _ _ (y_err _ _ _ key)
include O
theorem startS_sound {al : Nat → Addr} {tau : Nat → Nat} {cs : Cert prog w kt} {c' : Code} {κ : Kn} {G : List (Addr × Obj)} {T : BT} {m k : Nat} {o : List Pair} {h : Heap} {toks : Nat} (hk : G.map Prod.fst = Gk) (D : SRep al hb h n G T m)
    (X : ∀ al' tau', Agr m k al tau al' tau' → Good A₀ R₀ hb n g d os al' (startS al' (ih al' tau') cs c' κ G T m k o)) : codeAny (model prog w) (aroundK A₀ κ) c' (endK prog w A₀ R₀ κ) ⟨h, g, d, toks, os⟩ := by
  have X0 := X al tau (.refl ..)
  have plain : ∀ {c' : Code}, (∀ al' tau', Agr m k al tau al' tau' → Good A₀ R₀ hb n g d os al' (ih al' tau' cs c' κ (den c') G T m k o)) → codeAny (model prog w) (aroundK A₀ κ) c' (endK prog w A₀ R₀ κ) ⟨h, g, d, toks, os⟩ := by
    intro c' X
    have z := H _ _ _ _ _ _ _ _ _ _ _ h toks hk D X
    refine y_code _ _ _ _ _ _ ?_
    rw [den_eq]
    exact z
  cases c' with
  | compStart e dep it acc env =>
    rcases cs with _ | ⟨tg, cs'⟩
    · exact (show False from X0).elim
    cases tg with
    | i nn =>
      cases it with
      | ref a =>
        cases hp : compPlain e dep with
        | false => simp only [startS, hp] at X0; exact (show False from X0).elim
        | true =>
          cases hpl : place al T G (nn / 2) with
          | none => simp only [startS, hp, hpl] at X0; exact (show False from X0).elim
          | some p =>
            have X1 : ∀ al' tau', Agr m k al tau al' tau' → Good A₀ R₀ hb n g d os al' (ih al' tau' cs' (.compStart e dep (.ref a) acc env) κ (.pure (.again (.compLoop e dep (.ref a) acc env))) G T m k (.a a p.1 :: .v p.2.cls (.type (match Nat.beq (nn % 2) 0 with | true => SL.s3492446563574874994x13 | false => SL.s15992201931430999065x14)) :: o)) := by
              intro al' tau' ag
              have z := X al' tau' ag
              simp only [startS, hp, (place_congr D.bnd ag.1 G (nn / 2)).trans hpl] at z
              exact z
            have ob := O al tau _ _ _ _ _ _ _ _ _ (X1 al tau (.refl ..))
            have e1 : Side.a a = Side.a p.1 := ob (.a a p.1) (.head _)
            have e2 := ob (.v p.2.cls (.type (match Nat.beq (nn % 2) 0 with | true => SL.s3492446563574874994x13 | false => SL.s15992201931430999065x14))) (.tail _ (.head _))
            injection e1 with e1
            have e2' : p.2.cls = .type (match Nat.beq (nn % 2) 0 with | true => SL.s3492446563574874994x13 | false => SL.s15992201931430999065x14) := by injection e2
            have ho := D.plc _ _ hpl
            rw [← e1] at ho
            refine comp_start (s := ⟨h, g, d, toks, os⟩) hp ho ?_ ?_
            · cases hb' : Nat.beq (nn % 2) 0 with
              | true => rw [hb'] at e2'; left; rw [e2', SL.e3492446563574874994x13]
              | false => rw [hb'] at e2'; right; rw [e2', SL.e15992201931430999065x14]
            · intro Γ q hc hΓ
              have hpost := (H _ _ _ _ _ _ _ _ _ _ _ h toks hk D X1) (Γ.goto (.compStart e dep (.ref a) acc env)) q rfl (hΓ.goto _)
              exact hpost.2 Γ q hc hΓ
      | _ => exact (show False from X0).elim
    | _ => exact (show False from X0).elim
  | func body env =>
    have z := H _ _ _ _ _ _ _ _ _ _ _ h toks hk D X
    refine y_code _ _ _ _ _ _ ?_
    rw [cF_eq]
    exact z
  | _ => exact plain X
end
end
end
section
open PySem PySem.Spec PySem.Calls PyProof.Rows PySem.W PySem.W.X
section
variable {prog : Program} {w : World} {kt : KT} {A₀ : Around} {R₀ : Result → Shared → Prop} {hb : Heap} {n : Nat} {Gk : List Addr} {g : Array GenState} {d : Drawn} {os : OsState}
theorem app_eq (l o : List Pair) : R.appendR l o = l ++ o := by rw [← R.appendR_eq]; rfl
theorem useC_obs {al : Nat → Addr} {tau : Nat → Nat} {dd uu : Nat} {hh : Option Value} {pl : List Nat} {x : Ck prog w kt} {c' : Code} {G : List (Addr × Obj)} {T : BT} {m k : Nat} {o : List Pair} {no : Nat → Out prog w kt} {go : Result → List (Addr × Obj) → BT → Nat → Nat → List Pair → Out prog w kt}
    (hno : ∀ y, Good A₀ R₀ hb n g d os al (no y) → False) (hgo : ∀ r G T m k o, Good A₀ R₀ hb n g d os al (go r G T m k o) → ∀ p ∈ o, p.left = p.right) (X : Good A₀ R₀ hb n g d os al (useC al tau dd uu hh pl x c' G T m k o no go)) : ∀ p ∈ o, p.left = p.right := by
  unfold useC at X
  repeat' split at X
  all_goals first
    | exact (hno _ X).elim
    | (rw [app_eq] at X; exact fun p hp => hgo _ _ _ _ _ _ X p (.tail _ (List.mem_append_right _ hp)))
theorem step_obs {E : SE} {al : Nat → Addr} {tau : Nat → Nat} {ih : SimTy prog w kt} (O : Obs A₀ R₀ hb n g d os al ih) : Obs A₀ R₀ hb n g d os al (step E al tau ih) := by
  intro cs c κ t G T m k o X
  cases t
  all_goals try exact (show False from X).elim
  all_goals simp only [step, stepA, stepB, stepD, stepQ, stepL, stepV, stepW, stepU, stepK, stepC] at X
  case pure fin =>
    cases fin <;> simp only at X
    · exact retS_obs O X
    · repeat' split at X
      all_goals first
        | exact X.1
        | exact startS_obs O X
        | (refine useC_obs ?_ ?_ X; exact (fun _ z => z); exact (fun _ _ _ _ _ _ z => retS_obs O z))
        | cases X
  case «raise» e => exact retS_obs O X
  all_goals first
    | exact O _ _ _ _ _ _ _ _ _ X
    | (repeat' split at X)
  all_goals first
    | (cases X; done)
    | (refine useC_obs ?_ ?_ X; exact (fun _ z => z); exact (fun _ _ _ _ _ _ z => O _ _ _ _ _ _ _ _ _ z))
    | exact X.1
    | exact startS_obs O X
    | exact O _ _ _ _ _ _ _ _ _ X
    | exact fun p hp => O _ _ _ _ _ _ _ _ _ X p (.tail _ hp)
    | exact fun p hp => O _ _ _ _ _ _ _ _ _ X p (.tail _ (.tail _ hp))
    | (rw [app_eq] at X; exact fun p hp => O _ _ _ _ _ _ _ _ _ X p (List.mem_append_right _ hp))
    | (rw [app_eq] at X; exact fun p hp => O _ _ _ _ _ _ _ _ _ X p (.tail _ (List.mem_append_right _ hp)))
theorem sim_obs {E : SE} {al : Nat → Addr} {tau : Nat → Nat} : ∀ fuel, Obs A₀ R₀ hb n g d os al (sim (prog := prog) (w := w) (kt := kt) E al tau fuel)
  | 0 => fun _ _ _ _ _ _ _ _ _ X => X.elim
  | fuel + 1 => step_obs (sim_obs fuel)
noncomputable def setFrom (f : Nat → Nat) (m : Nat) (l : List Nat) (i : Nat) : Nat := if i < m then f i else l.getD (i - m) 0
theorem setFrom_lt (f : Nat → Nat) (m : Nat) (l : List Nat) (i : Nat) (h : i < m) : setFrom f m l i = f i := if_pos h
theorem getD_tail (x : Nat) (r : List Nat) (j : Nat) : (x :: r).getD (j + 1) 0 = r.getD j 0 := rfl
theorem listFrom_get : ∀ (l : List Nat) (f : Nat → Nat) (m : Nat), (∀ j, j < l.length → f (m + j) = l.getD j 0) → listFrom f m l.length = l
  | [], _, _, _ => rfl
  | x :: r, f, m, h => by
    rw [List.length_cons, listFrom_succ, h 0 (Nat.succ_pos _) |>.trans rfl |> (fun e => show f m = x from e), listFrom_get r f (m + 1) (fun j hj => by
      have := h (j + 1) (Nat.succ_lt_succ hj)
      rw [getD_tail] at this
      rw [← this, show m + 1 + j = m + (j + 1) by omega])]
theorem listFrom_set (f : Nat → Nat) (m : Nat) (l : List Nat) : listFrom (setFrom f m l) m l.length = l :=
  listFrom_get l _ m fun j _ => by
    unfold setFrom
    rw [if_neg (by omega), show m + j - m = j by omega]
theorem useC_sound (S : SOk kt hb n Gk) {al : Nat → Addr} {tau : Nat → Nat} {dd uu : Nat} {hh : Option Value} {pl : List Nat} {x : Ck prog w kt} {c' : Code} {G : List (Addr × Obj)} {T : BT} {m k : Nat} {o : List Pair} {h : Heap} {toks : Nat}
    {no : Nat → Out prog w kt} {go : (Nat → Addr) → (Nat → Nat) → Result → List (Addr × Obj) → BT → Nat → Nat → List Pair → Out prog w kt} {A : Around} {R : Result → Shared → Prop}
    (hno : ∀ al y, Good A₀ R₀ hb n g d os al (no y) → False) (hob : ∀ al tau r G T m k o, Good A₀ R₀ hb n g d os al (go al tau r G T m k o) → ∀ p ∈ o, p.left = p.right)
    (hgo : ∀ al tau r G T m k o h toks, G.map Prod.fst = Gk → SRep al hb h n G T m → (∀ al' tau', Agr m k al tau al' tau' → Good A₀ R₀ hb n g d os al' (go al' tau' r G T m k o)) → R r ⟨h, g, d, toks, os⟩)
    (dle : A.depth ≤ dd) (ule : A.units ≤ uu) (hle : A.handled = hh)
    (hk : G.map Prod.fst = Gk) (D : SRep al hb h n G T m) (X : ∀ al' tau', Agr m k al tau al' tau' → Good A₀ R₀ hb n g d os al' (useC al' tau' dd uu hh pl x c' G T m k o no (go al' tau'))) :
    codeAny (model prog w) A c' R ⟨h, g, d, toks, os⟩ := by
  have X0 := X al tau (.refl ..)
  cases hd' : Nat.ble dd x.dep with
  | false => simp only [useC, hd'] at X0; exact (hno _ _ X0).elim
  | true =>
  cases hu : Nat.ble uu x.uni with
  | false => simp only [useC, hd', hu] at X0; exact (hno _ _ X0).elim
  | true =>
  cases hh with
  | some v => simp only [useC, hd', hu] at X0; exact (hno _ _ X0).elim
  | none =>
  cases hn : nodupB pl with
  | false => simp only [useC, hd', hu, hn] at X0; exact (hno _ _ X0).elim
  | true =>
  cases hr : rdPairs al T G pl x.rd with
  | none => simp only [useC, hd', hu, hn, hr] at X0; exact (hno _ _ X0).elim
  | some l' =>
  have X1 : ∀ al' tau', Agr m k al tau al' tau' → ∃ gt T', updAll T G pl (x.po (listFrom al' m x.na) (listFrom tau' k x.nt)) = some gt ∧ (x.nw (listFrom al' m x.na) (listFrom tau' k x.nt)).length = x.na ∧ insAll gt.2 m (x.nw (listFrom al' m x.na) (listFrom tau' k x.nt)) = some T' ∧
      Good A₀ R₀ hb n g d os al' (go al' tau' (x.res (listFrom al' m x.na) (listFrom tau' k x.nt)) gt.1 T' (m + x.na) (k + x.nt) (.c c' x.c :: (l' ++ o))) := by
    intro al' tau' ag
    have z := X al' tau' ag
    simp only [useC, hd', hu, hn, (rdPairs_congr D.bnd ag.1 G pl x.rd).trans hr] at z
    cases e1 : updAll T G pl (x.po (listFrom al' m x.na) (listFrom tau' k x.nt)) with
    | none => rw [e1] at z; exact (hno _ _ z).elim
    | some gt =>
      rw [e1] at z
      dsimp only at z
      cases e2 : Nat.beq (x.nw (listFrom al' m x.na) (listFrom tau' k x.nt)).length x.na with
      | false => rw [e2] at z; exact (hno _ _ z).elim
      | true =>
        rw [e2] at z
        dsimp only at z
        cases e3 : insAll gt.2 m (x.nw (listFrom al' m x.na) (listFrom tau' k x.nt)) with
        | none => rw [e3] at z; exact (hno _ _ z).elim
        | some T' =>
          rw [e3] at z
          dsimp only at z
          rw [app_eq] at z
          exact ⟨gt, T', rfl, Nat.eq_of_beq_eq_true e2, e3, z⟩
  obtain ⟨gt0, T0, _, _, _, z0⟩ := X1 al tau (.refl ..)
  have ob := hob _ _ _ _ _ _ _ _ z0
  have e1 : Side.c c' = Side.c x.c := ob (.c c' x.c) (.head _)
  injection e1 with e1
  have hat := rdPairs_spec pl x.rd l' hr (fun p hp => ob p (.tail _ (List.mem_append_left _ hp)))
  rw [e1]
  refine x.ok _ _ _ (Nat.le_trans dle (Nat.le_of_ble_eq_true hd')) (Nat.le_trans ule (Nat.le_of_ble_eq_true hu)) hle (Nat.le_trans S.top D.lo) (D.noLimit S hk) (D.stat S hk) (hat.facts D) (hat.nodup S D hk hn) (fun p hp => ?_) ?_
  · obtain ⟨j, _, ej⟩ := hat.mem p hp
    exact D.addr S hk ej
  · intro as ts h' tk' la lt hF f1 f2 hK
    have a1 : ∀ i, i < m → setFrom al m as i = al i := fun i hi => setFrom_lt al m as i hi
    have t1 : ∀ i, i < k → setFrom tau k ts i = tau i := fun i hi => setFrom_lt tau k ts i hi
    have a2 : listFrom (setFrom al m as) m x.na = as := by rw [← la]; exact listFrom_set al m as
    have t2 : listFrom (setFrom tau k ts) k x.nt = ts := by rw [← lt]; exact listFrom_set tau k ts
    obtain ⟨gt, T', u1, u2, u3, _⟩ := X1 (setFrom al m as) (setFrom tau k ts) ⟨a1, t1⟩
    rw [a2, t2] at u1 u2 u3
    have D1 := D.congr a1
    have hat1 : At (setFrom al m as) T G pl x.rd := by
      have : rdPairs (setFrom al m as) T G pl x.rd = some l' := (rdPairs_congr D.bnd a1 G pl x.rd).trans hr
      exact rdPairs_spec pl x.rd l' this (fun p hp => ob p (.tail _ (List.mem_append_left _ hp)))
    obtain ⟨D', hk'⟩ := D1.after S hk hn hat1 u1 u3 u2 (by rw [a2]; exact hF) (by rw [a2]; exact f1) f2 hK
    refine hgo (setFrom al m as) (setFrom tau k ts) (x.res as ts) gt.1 T' (m + x.na) (k + x.nt) (.c c' x.c :: (l' ++ o)) h' tk' hk' D' fun al' tau' ag => ?_
    have ag' : Agr m k al tau al' tau' := ⟨fun i hi => (ag.1 i (by omega)).trans (a1 i hi), fun i hi => (ag.2 i (by omega)).trans (t1 i hi)⟩
    have a3 : listFrom al' m x.na = as := by rw [← a2]; exact listFrom_congr _ _ fun i _ hi => ag.1 i hi
    have t3 : listFrom tau' k x.nt = ts := by rw [← t2]; exact listFrom_congr _ _ fun i _ hi => ag.2 i hi
    obtain ⟨gt', T'', v1, v2, v3, v4⟩ := X1 al' tau' ag'
    rw [a3, t3] at v1 v3 v4
    rw [u1] at v1
    cases v1
    rw [u3] at v3
    cases v3
    exact v4
theorem clamp_congr {f g : Nat → Nat} {m : Nat} (h : ∀ i, i < m → g i = f i) : clamp g m = clamp f m := by
  funext i
  unfold clamp
  cases q : Nat.blt i m with
  | true => exact h i (blt_true q)
  | false => rfl
theorem step_sound (S : SOk kt hb n Gk) {E : SE} (hA : AOk E A₀) {ih : (Nat → Addr) → (Nat → Nat) → SimTy prog w kt} (O : ∀ al tau, Obs A₀ R₀ hb n g d os al (ih al tau)) (H : IH A₀ R₀ hb n Gk g d os ih) : IH A₀ R₀ hb n Gk g d os (fun al tau => step E al tau (ih al tau)) := by
  intro al tau cs c κ t G T m k o h toks hk D X
  obtain ⟨gm, db, ub⟩ := E
  have X0 := X al tau (.refl ..)
  have skim1 : ∀ {t' : Sem Fin}, skim ⟨prog, w.params⟩ 1 t = t' → MeansK prog w A₀ R₀ c κ t' ⟨h, g, d, toks, os⟩ → MeansK prog w A₀ R₀ c κ t ⟨h, g, d, toks, os⟩ := by
    intro t' e z
    exact y_skim _ _ _ _ _ _ _ _ _ 1 (by rw [e]; exact z)
  have dle : (aroundK A₀ κ).depth + c.weight ≤ depthOf db κ + weightQ c := by
    rw [weight_eq]; exact Nat.add_le_add_right (depth_le hA κ) _
  have ule : (aroundK A₀ κ).units + c.cUnits ≤ unitsOfK ub κ + unitsQ c := by
    rw [units_eq]; exact Nat.add_le_add_right (units_le hA κ) _
  cases t with
  | pure fin =>
    cases fin with
    | done f => exact retS_sound H rfl hk D X
    | again c' =>
      cases q : quietQ c' with
      | false => simp only [step, stepA, stepB, stepD, stepQ, stepL, stepV, stepW, stepU, stepK, stepC, q] at X0; exact (show False from X0).elim
      | true =>
        have go : codeAny (model prog w) (aroundK A₀ κ) c' (endK prog w A₀ R₀ κ) ⟨h, g, d, toks, os⟩ → MeansK prog w A₀ R₀ c κ (.pure (.again c')) ⟨h, g, d, toks, os⟩ := fun z =>
          y_pure _ _ _ _ _ _ _ _ _ (y_again _ _ _ _ _ _ (by rw [quiet_eq]; exact q) z)
        have dflt : ∀ cs0, (∀ al' tau', Agr m k al tau al' tau' → Good A₀ R₀ hb n g d os al' (stepD ⟨gm, db, ub⟩ al' (ih al' tau') cs0 c κ (.pure (.again c')) c' G T m k o)) → MeansK prog w A₀ R₀ c κ (.pure (.again c')) ⟨h, g, d, toks, os⟩ := by
          intro cs0 Y
          have Y0 := Y al tau (.refl ..)
          refine go ?_
          cases gm with
          | false => exact startS_sound O H hk D Y
          | true => cases c' <;> first | exact (show False from Y0).elim | exact startS_sound O H hk D Y
        have X1 : ∀ al' tau', Agr m k al tau al' tau' → Good A₀ R₀ hb n g d os al' (stepB ⟨gm, db, ub⟩ al' tau' (ih al' tau') cs c κ (.pure (.again c')) c' G T m k o) := by
          intro al' tau' ag
          have z := X al' tau' ag
          simp only [step, stepA, q] at z
          exact z
        clear X X0
        rcases cs with _ | ⟨tg, cs'⟩
        · exact dflt _ X1
        cases tg with
        | h =>
          cases hl : isLoop c' with
          | true =>
            have z := X1 al tau (.refl ..)
            simp only [stepB, hl] at z
            exact go (z.2 h toks D)
          | false =>
            have X2 : ∀ al' tau', Agr m k al tau al' tau' → Good A₀ R₀ hb n g d os al' (startS al' (ih al' tau') (.h :: cs') c' κ G T m k o) := by
              intro al' tau' ag
              have z := X1 al' tau' ag
              simp only [stepB, hl] at z
              exact z
            exact go (startS_sound O H hk D X2)
        | a pl x =>
          exact go (useC_sound S (dd := depthOf db κ) (uu := unitsOfK ub κ) (hh := handledK κ) (pl := pl) (x := x (clamp al m) (clamp tau k)) (c' := c') (tau := tau) (k := k) (o := o) (no := fun y => .stop y (.a pl x :: cs') c κ (.pure (.again c')) G T m k o) (go := fun al tau r G T m k o => retS (ih al tau) r cs' κ G T m k o)
            (fun _ _ z => z) (fun al' tau' _ _ _ _ _ _ z => retS_obs (O al' tau') z) (fun al' tau' r G T m k o h toks hk D Y => endS_sound H hk D Y) (depth_le hA κ) (units_le hA κ) (handled_is hA κ) hk D fun al' tau' ag => by
            have z := X1 al' tau' ag
            dsimp only [stepB] at z
            rw [clamp_congr ag.1, clamp_congr ag.2] at z
            exact z)
        | e =>
          refine go ?_
          cases gm with
          | true => exact startS_sound (cs := cs') O H hk D X1
          | false => exact startS_sound (cs := .e :: cs') O H hk D X1
        | _ => exact dflt _ X1
  | raise e => exact retS_sound H rfl hk D X
  | rule tag f => exact skim1 rfl (H _ _ _ _ _ _ _ _ _ _ _ h toks hk D X)
  | «at» q f => exact skim1 rfl (H _ _ _ _ _ _ _ _ _ _ _ h toks hk D X)
  | point l f => exact skim1 rfl (H _ _ _ _ _ _ _ _ _ _ _ h toks hk D X)
  | ask f =>
    rcases cs with _ | ⟨tg, cs'⟩
    · exact (show False from X0).elim
    cases tg with
    | d => exact skim1 rfl (H _ _ _ _ _ _ _ _ _ _ _ h toks hk D X)
    | q =>
      have z := H _ _ _ _ _ _ _ _ _ _ _ h toks hk D X
      have ob := O al tau _ _ _ _ _ _ _ _ _ X0
      have e1 := ob _ (.head _)
      have e2 := ob _ (.tail _ (.head _))
      have e1' : f = fun g => f (gB prog w.params (g.params.followText "special-get-raises")) := by injection e1
      have e2' : f (gB prog w.params true) = f (gB prog w.params false) := by injection e2
      have key : f ⟨prog, w.params⟩ = f (gB prog w.params false) := by
        have := congrFun e1' ⟨prog, w.params⟩
        rw [this]
        cases w.params.followText "special-get-raises" with
        | true => exact e2'
        | false => rfl
      exact skim1 (by show f ⟨prog, w.params⟩ = _; exact key) z
    | _ => exact (show False from X0).elim
  | load a q f =>
    rcases cs with _ | ⟨tg, cs'⟩
    · exact (show False from X0).elim
    cases tg with
    | i nn =>
      cases q1 : Nat.beq nn 0 with
      | true =>
        cases q2 : Nat.blt a N0 with
        | false => simp only [step, stepA, stepB, stepD, stepQ, stepL, stepV, stepW, stepU, stepK, stepC, q1, q2] at X0; exact (show False from X0).elim
        | true =>
          cases q3 : exB a with
          | true => simp only [step, stepA, stepB, stepD, stepQ, stepL, stepV, stepW, stepU, stepK, stepC, q1, q2, q3] at X0; exact (show False from X0).elim
          | false =>
            cases q4 : kt.get a with
            | none => simp only [step, stepA, stepB, stepD, stepQ, stepL, stepV, stepW, stepU, stepK, stepC, q1, q2, q3, q4] at X0; exact (show False from X0).elim
            | some x =>
              exact y_load _ _ _ _ _ _ _ _ _ _ _ _ _ _ _ _ (D.static S hk (blt_true q2) q4 q3) (H _ _ _ _ _ _ _ _ _ _ _ h toks hk D fun al' tau' ag => by
                have z := X al' tau' ag
                simp only [step, stepA, stepB, stepD, stepQ, stepL, stepV, stepW, stepU, stepK, stepC, q1, q2, q3, q4] at z
                exact z)
      | false =>
        cases q2 : place al T G (nn - 1) with
        | none => simp only [step, stepA, stepB, stepD, stepQ, stepL, stepV, stepW, stepU, stepK, stepC, q1, q2] at X0; exact (show False from X0).elim
        | some p =>
          have X1 : ∀ al' tau', Agr m k al tau al' tau' → Good A₀ R₀ hb n g d os al' (ih al' tau' cs' c κ (f p.2) G T m k (.a a p.1 :: o)) := by
            intro al' tau' ag
            have z := X al' tau' ag
            simp only [step, stepA, stepB, stepD, stepQ, stepL, stepV, stepW, stepU, stepK, stepC, q1, (place_congr D.bnd ag.1 G (nn - 1)).trans q2] at z
            exact z
          have e1 : Side.a a = Side.a p.1 := O al tau _ _ _ _ _ _ _ _ _ (X1 al tau (.refl ..)) (.a a p.1) (.head _)
          injection e1 with e1
          subst e1
          exact y_load _ _ _ _ _ _ _ _ _ _ _ _ _ _ _ _ (D.plc _ _ q2) (H _ _ _ _ _ _ _ _ _ _ _ h toks hk D X1)
    | _ => exact (show False from X0).elim
  | loadIfAlive a f =>
    rcases cs with _ | ⟨tg, cs'⟩
    · exact (show False from X0).elim
    cases tg with
    | i nn =>
      cases q1 : Nat.beq nn 0 with
      | true => simp only [step, stepA, stepB, stepD, stepQ, stepL, stepV, stepW, stepU, stepK, stepC, q1] at X0; exact (show False from X0).elim
      | false =>
        cases q2 : place al T G (nn - 1) with
        | none => simp only [step, stepA, stepB, stepD, stepQ, stepL, stepV, stepW, stepU, stepK, stepC, q1, q2] at X0; exact (show False from X0).elim
        | some p =>
          have X1 : ∀ al' tau', Agr m k al tau al' tau' → Good A₀ R₀ hb n g d os al' (ih al' tau' cs' c κ (f (some p.2)) G T m k (.a a p.1 :: o)) := by
            intro al' tau' ag
            have z := X al' tau' ag
            simp only [step, stepA, stepB, stepD, stepQ, stepL, stepV, stepW, stepU, stepK, stepC, q1, (place_congr D.bnd ag.1 G (nn - 1)).trans q2] at z
            exact z
          have e1 : Side.a a = Side.a p.1 := O al tau _ _ _ _ _ _ _ _ _ (X1 al tau (.refl ..)) (.a a p.1) (.head _)
          injection e1 with e1
          subst e1
          exact y_alive _ _ _ _ _ _ _ _ _ _ _ _ _ _ _ (D.plc _ _ q2) (H _ _ _ _ _ _ _ _ _ _ _ h toks hk D X1)
    | _ => exact (show False from X0).elim
  | alloc x f =>
    cases hf : x.isFreed with
    | true => simp only [step, stepA, stepB, stepD, stepQ, stepL, stepV, stepW, stepU, stepK, stepC, hf] at X0; exact (show False from X0).elim
    | false =>
      cases e : (T.ins m x).get m with
      | none => simp only [step, stepA, stepB, stepD, stepQ, stepL, stepV, stepW, stepU, stepK, stepC, hf, e] at X0; exact (show False from X0).elim
      | some o' =>
        have l1 : ∀ i, i < m → setFrom al m [h.objs.size] i = al i := fun i hi => setFrom_lt _ _ _ i hi
        have l2 : setFrom al m [h.objs.size] m = h.objs.size := by
          unfold setFrom; rw [if_neg (Nat.lt_irrefl _), Nat.sub_self]; rfl
        have D' := (D.congr l1).alloc S l2 hf (by rw [e]; rfl)
        refine wpOwn_bind (m := alloc x) (f := f) (wpOwn_of_wpAny (wpAny_alloc ?_))
        refine H (setFrom al m [h.objs.size]) tau cs c κ (f h.objs.size) G (T.ins m x) (m + 1) k o (h.push x) toks hk D' fun al' tau' ag => ?_
        have z := X al' tau' ⟨fun i hi => (ag.1 i (Nat.lt_succ_of_lt hi)).trans (l1 i hi), ag.2⟩
        simp only [step, stepA, stepB, stepD, stepQ, stepL, stepV, stepW, stepU, stepK, stepC, hf, e] at z
        rw [ag.1 m (Nat.lt_succ_self _), l2] at z
        exact z
  | update a q f₁ f =>
    rcases cs with _ | ⟨tg, cs'⟩
    · exact (show False from X0).elim
    cases tg with
    | i nn =>
      cases q1 : Nat.beq nn 0 with
      | true => simp only [step, stepA, stepB, stepD, stepQ, stepL, stepV, stepW, stepU, stepK, stepC, q1] at X0; exact (show False from X0).elim
      | false =>
        cases q2 : place al T G (nn - 1) with
        | none => simp only [step, stepA, stepB, stepD, stepQ, stepL, stepV, stepW, stepU, stepK, stepC, q1, q2] at X0; exact (show False from X0).elim
        | some p =>
          cases hf : (f₁ p.2).isFreed with
          | true => simp only [step, stepA, stepB, stepD, stepQ, stepL, stepV, stepW, stepU, stepK, stepC, q1, q2, hf] at X0; exact (show False from X0).elim
          | false =>
            have X1 : ∀ al' tau', Agr m k al tau al' tau' → Good A₀ R₀ hb n g d os al' (ih al' tau' cs' c κ (f ()) (updG f₁ G (nn - 1)) (updT f₁ T G (nn - 1)) m k (.a a p.1 :: o)) := by
              intro al' tau' ag
              have z := X al' tau' ag
              simp only [step, stepA, stepB, stepD, stepQ, stepL, stepV, stepW, stepU, stepK, stepC, q1, (place_congr D.bnd ag.1 G (nn - 1)).trans q2, hf] at z
              exact z
            have e1 : Side.a a = Side.a p.1 := O al tau _ _ _ _ _ _ _ _ _ (X1 al tau (.refl ..)) (.a a p.1) (.head _)
            injection e1 with e1
            subst e1
            exact wpOwn_bind (m := updatePart p.1 q f₁) (f := f) (wpOwn_of_wpAny (wpAny_updatePart (D.plc _ _ q2) (H _ _ _ _ _ _ _ _ _ _ _ _ toks (by rw [updG_keys]; exact hk) (D.update S hk q2 hf) X1)))
    | _ => exact (show False from X0).elim
  | fresh f =>
    have l1 : ∀ i, i < k → setFrom tau k [toks] i = tau i := fun i hi => setFrom_lt _ _ _ i hi
    have l2 : setFrom tau k [toks] k = toks := by
      unfold setFrom; rw [if_neg (Nat.lt_irrefl _), Nat.sub_self]; rfl
    refine y_fresh _ _ _ _ _ _ _ _ _ _ _ _ _ ?_
    refine H al (setFrom tau k [toks]) cs c κ (f toks) G T m (k + 1) o h (toks + 1) hk D fun al' tau' ag => ?_
    have z := X al' tau' ⟨ag.1, fun i hi => (ag.2 i (Nat.lt_succ_of_lt hi)).trans (l1 i hi)⟩
    have z : Good A₀ R₀ hb n g d os al' (ih al' tau' cs c κ (f (tau' k)) G T m (k + 1) o) := z
    rw [ag.2 k (Nat.lt_succ_self _), l2] at z
    exact z
  | handled own f =>
    cases own with
    | true => exact (show False from X0).elim
    | false =>
      refine y_handled _ _ _ _ _ _ _ _ _ ?_
      rw [handled_is hA κ]
      exact H _ _ _ _ _ _ _ _ _ _ _ h toks hk D X
  | stack f =>
    rcases cs with _ | ⟨tg, cs'⟩
    · exact (show False from X0).elim
    cases tg with
    | i nn =>
      cases q1 : Nat.beq nn 0 with
      | true =>
        cases hd' : Nat.blt (depthOf db κ + weightQ c) 1000 with
        | false => simp only [step, stepA, stepB, stepD, stepQ, stepL, stepV, stepW, stepU, stepK, stepC, q1, hd'] at X0; exact (show False from X0).elim
        | true =>
          cases ho2 : kt.get 2 with
          | none => simp only [step, stepA, stepB, stepD, stepQ, stepL, stepV, stepW, stepU, stepK, stepC, q1, hd', ho2] at X0; exact (show False from X0).elim
          | some o2 =>
            cases hc' : leafOf o2 (f []) with
            | none => simp only [step, stepA, stepB, stepD, stepQ, stepL, stepV, stepW, stepU, stepK, stepC, q1, hd', ho2, hc'] at X0; exact (show False from X0).elim
            | some c' =>
              have X1 : ∀ al' tau', Agr m k al tau al' tau' → Good A₀ R₀ hb n g d os al' (ih al' tau' cs' c κ (.pure (.again c')) G T m k (.s f (fun st => R.bindR (enterTail st) (fun _ => .pure (.again c'))) :: o)) := by
                intro al' tau' ag
                have z := X al' tau' ag
                simp only [step, stepA, stepB, stepD, stepQ, stepL, stepV, stepW, stepU, stepK, stepC, q1, hd', ho2, hc'] at z
                exact z
              have e1 := O al tau _ _ _ _ _ _ _ _ _ (X1 al tau (.refl ..)) _ (.head _)
              have e1' : f = fun st => R.bindR (enterTail st) (fun _ => .pure (.again c')) := by injection e1
              have ht : (Sem.stack f : Sem Fin) = (enterFrame : Sem Unit).bind (fun _ => .pure (.again c')) := by
                rw [enter_is, e1']
                show _ = Sem.stack fun x => (enterTail x).bind _
                congr 1
                funext st
                rw [R.bindR_eq]
              rw [ht]
              refine wpOwn_bind (m := enterFrame) (wpOwn_of_wpAny (wpAny_enterFrame (D.noLimit S hk) ?_ (H _ _ _ _ _ _ _ _ _ _ _ h toks hk D X1)))
              exact Nat.lt_of_le_of_lt dle (blt_true hd')
      | false =>
        cases hu : Nat.blt (unitsOfK ub κ + unitsQ c) 9900 with
        | false => simp only [step, stepA, stepB, stepD, stepQ, stepL, stepV, stepW, stepU, stepK, stepC, q1, hu] at X0; exact (show False from X0).elim
        | true =>
          have X1 : ∀ al' tau', Agr m k al tau al' tau' → Good A₀ R₀ hb n g d os al' (ih al' tau' cs' c κ (f []) G T m k (.s f (fun st => R.bindR (roomTail (match Nat.beq nn 1 with | true => SL.s11780134324901847377x10 | false => SL.s11705397079073618416x4) st) (fun _ => f [])) :: o)) := by
            intro al' tau' ag
            have z := X al' tau' ag
            simp only [step, stepA, stepB, stepD, stepQ, stepL, stepV, stepW, stepU, stepK, stepC, q1, hu] at z
            exact z
          have e1 := O al tau _ _ _ _ _ _ _ _ _ (X1 al tau (.refl ..)) _ (.head _)
          have e1' : f = fun st => R.bindR (roomTail (match Nat.beq nn 1 with | true => SL.s11780134324901847377x10 | false => SL.s11705397079073618416x4) st) (fun _ => f []) := by injection e1
          have ht : (Sem.stack f : Sem Fin) = (cRoom (match Nat.beq nn 1 with | true => SL.s11780134324901847377x10 | false => SL.s11705397079073618416x4)).bind (fun _ => f []) := by
            rw [room_is]
            show _ = Sem.stack fun x => (roomTail _ x).bind _
            congr 1
            conv => lhs; rw [e1']
            funext st
            rw [R.bindR_eq]
          rw [ht]
          exact wpOwn_bind (m := cRoom _) (wpOwn_of_wpAny (wpAny_cRoom (Nat.lt_of_le_of_lt ule (blt_true hu)) (H _ _ _ _ _ _ _ _ _ _ _ h toks hk D X1)))
    | _ => exact (show False from X0).elim
  | call c' hd gd l f =>
    cases q : okMark hd with
    | false => simp only [step, stepA, stepB, stepD, stepQ, stepL, stepV, stepW, stepU, stepK, stepC, q] at X0; exact (show False from X0).elim
    | true =>
      have hnb := okMark_ne q
      have deflt : ∀ {cs' : Cert prog w kt}, (∀ al' tau', Agr m k al tau al' tau' → Good A₀ R₀ hb n g d os al' (startS al' (ih al' tau') cs' c' (.ret c hd f κ) G T m k o)) → MeansK prog w A₀ R₀ c κ (.call c' hd gd l f) ⟨h, g, d, toks, os⟩ := by
        intro cs' X
        exact y_call _ _ _ _ _ _ _ _ _ _ _ _ _ hnb (startS_sound O H hk D X)
      have dfl2 : (∀ al' tau', Agr m k al tau al' tau' → Good A₀ R₀ hb n g d os al' (match (generalizing := false) gm with
          | true => .stop 22 cs c κ (.call c' hd gd l f) G T m k o
          | false => startS al' (ih al' tau') cs c' (.ret c hd f κ) G T m k o)) → MeansK prog w A₀ R₀ c κ (.call c' hd gd l f) ⟨h, g, d, toks, os⟩ := by
        intro Y
        have Y0 := Y al tau (.refl ..)
        cases gm with
        | true => exact (show False from Y0).elim
        | false => exact deflt Y
      rcases cs with _ | ⟨tg, cs'⟩
      · refine dfl2 fun al' tau' ag => ?_
        have z := X al' tau' ag
        simp only [step, stepA, stepB, stepD, stepQ, stepL, stepV, stepW, stepU, stepK, stepC, q] at z
        exact z
      cases tg with
      | p pl x =>
        refine y_call _ _ _ _ _ _ _ _ _ _ _ _ _ hnb (useC_sound S (dd := depthOf db κ + weightQ c) (uu := unitsOfK ub κ + unitsQ c) (hh := handledK (.ret c hd f κ)) (pl := pl) (x := x (clamp al m) (clamp tau k)) (c' := c') (tau := tau) (k := k) (o := o) (no := fun y => .stop y (.p pl x :: cs') c κ (.call c' hd gd l f) G T m k o) (go := fun al' tau' r G T m k o => ih al' tau' cs' c κ (f r) G T m k o)
          (fun _ _ z => z) (fun al' tau' _ _ _ _ _ _ z => O al' tau' _ _ _ _ _ _ _ _ _ z) (fun al' tau' r G T m k o h toks hk D Y => H al' tau' _ _ _ _ _ _ _ _ _ h toks hk D Y) dle ule (handled_is hA (.ret c hd f κ)) hk D fun al' tau' ag => ?_)
        have z := X al' tau' ag
        simp only [step, stepA, stepB, stepD, stepQ, stepL, stepV, stepW, stepU, stepK, stepC, q] at z
        rw [clamp_congr ag.1, clamp_congr ag.2] at z
        exact z
      | f pl x =>
        cases hd' : Nat.blt (depthOf db κ + weightQ c) 900 with
        | false => simp only [step, stepA, stepB, stepD, stepQ, stepL, stepV, stepW, stepU, stepK, stepC, q, hd'] at X0; exact (show False from X0).elim
        | true =>
        cases hu : Nat.blt (unitsOfK ub κ + unitsQ c) 9000 with
        | false => simp only [step, stepA, stepB, stepD, stepQ, stepL, stepV, stepW, stepU, stepK, stepC, q, hd', hu] at X0; exact (show False from X0).elim
        | true =>
        cases hr : rdAll al T G pl with
        | none => simp only [step, stepA, stepB, stepD, stepQ, stepL, stepV, stepW, stepU, stepK, stepC, q, hd', hu, hr] at X0; exact (show False from X0).elim
        | some rd =>
        cases hf : x.f c' rd with
        | none => simp only [step, stepA, stepB, stepD, stepQ, stepL, stepV, stepW, stepU, stepK, stepC, q, hd', hu, hr, hf] at X0; exact (show False from X0).elim
        | some pr =>
        have X1 : ∀ al' tau', Agr m k al tau al' tau' → Good A₀ R₀ hb n g d os al' (ih al' tau' cs' c κ (f (pr.2 (listFrom tau' k x.nt))) G T m (k + x.nt) (pr.1 ++ o)) := by
          intro al' tau' ag
          have z := X al' tau' ag
          simp only [step, stepA, stepB, stepD, stepQ, stepL, stepV, stepW, stepU, stepK, stepC, q, hd', hu, (rdAll_congr D.bnd ag.1 G pl).trans hr, hf] at z
          rw [app_eq] at z
          exact z
        have ob := O al tau _ _ _ _ _ _ _ _ _ (X1 al tau (.refl ..))
        refine y_call _ _ _ _ _ _ _ _ _ _ _ _ _ hnb ?_
        refine x.ok c' rd pr.1 pr.2 hf (fun p hp => ob p (List.mem_append_left _ hp)) _ _ _ (Nat.lt_of_le_of_lt dle (blt_true hd')) (Nat.lt_of_le_of_lt ule (blt_true hu)) ((rdAll_spec pl rd hr).facts D) ?_
        intro ts tk' lt
        have t1 : ∀ i, i < k → setFrom tau k ts i = tau i := fun i hi => setFrom_lt tau k ts i hi
        have t2 : listFrom (setFrom tau k ts) k x.nt = ts := by rw [← lt]; exact listFrom_set tau k ts
        refine H al (setFrom tau k ts) cs' c κ (f (pr.2 ts)) G T m (k + x.nt) (pr.1 ++ o) h tk' hk D fun al' tau' ag => ?_
        have t3 : listFrom tau' k x.nt = ts := by rw [← t2]; exact listFrom_congr _ _ fun i _ hi => ag.2 i hi
        have z := X1 al' tau' ⟨ag.1, fun i hi => (ag.2 i (by omega)).trans (t1 i hi)⟩
        rw [t3] at z
        exact z
      | h =>
        have z := X0
        simp only [step, stepA, stepB, stepD, stepQ, stepL, stepV, stepW, stepU, stepK, stepC, q] at z
        exact y_call _ _ _ _ _ _ _ _ _ _ _ _ _ hnb (z.2 h toks D)
      | e =>
        refine deflt (cs' := cs') fun al' tau' ag => ?_
        have z := X al' tau' ag
        simp only [step, stepA, stepB, stepD, stepQ, stepL, stepV, stepW, stepU, stepK, stepC, q] at z
        exact z
      | _ =>
        refine dfl2 fun al' tau' ag => ?_
        have z := X al' tau' ag
        simp only [step, stepA, stepB, stepD, stepQ, stepL, stepV, stepW, stepU, stepK, stepC, q] at z
        exact z
  | unsupported => exact (show False from X0).elim
  | finish => exact (show False from X0).elim
  | register => exact (show False from X0).elim
  | choose => exact (show False from X0).elim
  | os => exact (show False from X0).elim
  | newGen => exact (show False from X0).elim
  | genState => exact (show False from X0).elim
  | resume => exact (show False from X0).elim
  | «yield» => exact (show False from X0).elim
  | fork => exact (show False from X0).elim
  | thread => exact (show False from X0).elim
  | await => exact (show False from X0).elim
theorem sim_sound (S : SOk kt hb n Gk) {E : SE} (hA : AOk E A₀) : ∀ fuel, IH A₀ R₀ hb n Gk g d os (fun al tau => sim (prog := prog) (w := w) (kt := kt) E al tau fuel)
  | 0 => fun al tau _ _ _ _ _ _ _ _ _ _ _ _ _ X => (show False from X al tau (.refl ..)).elim
  | fuel + 1 => step_sound S hA (fun _ _ => sim_obs fuel) (sim_sound S hA fuel)
end
end
section
open PySem PySem.Spec PySem.Calls PyProof.Rows PySem.W PySem.W.X
section
variable {prog : Program} {w : World} {kt : KT}
noncomputable def mapN {α β : Type} (f : α → β) (l : List α) : List β := @List.rec α (fun _ => List β) [] (fun x _ ih => f x :: ih) l
noncomputable def zipN {α β : Type} (l : List α) : List β → List (α × β) := @List.rec α (fun _ => List β → List (α × β)) (fun _ => []) (fun x _ ih r => match r with | [] => [] | y :: r => (x, y) :: ih r) l
theorem mapN_eq {α β : Type} (f : α → β) : ∀ l : List α, mapN f l = l.map f
  | [] => rfl
  | x :: r => by show f x :: mapN f r = _; rw [mapN_eq f r]; rfl
theorem zipN_eq {α β : Type} : ∀ (l : List α) (r : List β), zipN l r = l.zip r
  | [], _ => rfl
  | x :: l, [] => rfl
  | x :: l, y :: r => by show (x, y) :: zipN l r = _; rw [zipN_eq l r]; rfl
noncomputable def outv (js : List Nat) : Out prog w kt → List Side × Option (Result × List (Addr × Obj) × List (Option Obj))
  | .done r G T _ _ o => (lefts o, some (r, G, mapN T.get js))
  | x => (lefts x.ob, none)
noncomputable def whole (cert : Cert prog w kt) (dep uni : Nat) (c : Code) (rd : List (Addr × Obj)) (al : Nat → Addr) (tau : Nat → Nat) : Out prog w kt :=
  sim ⟨false, dep, uni⟩ al tau 100000 cert c .base (den c) rd .nil 0 0 []
noncomputable def RunEqT (cert : Cert prog w kt) (dep uni : Nat) (c : Code) (rd : List (Addr × Obj)) (js : List Nat) (tf : (Nat → Addr) → (Nat → Nat) → List Nat) (po nw : List Addr → List Nat → List Obj) (res : List Addr → List Nat → Result) : Prop :=
  ∀ al tau, outv js (whole cert dep uni c rd al tau) = (rights (whole cert dep uni c rd al tau).ob, some (res (mapN al js) (tf al tau), zipN (mapN Prod.fst rd) (po (mapN al js) (tf al tau)), mapN some (nw (mapN al js) (tf al tau))))
noncomputable def RunEq (cert : Cert prog w kt) (dep uni : Nat) (c : Code) (rd : List (Addr × Obj)) (js ks : List Nat) (po nw : List Addr → List Nat → List Obj) (res : List Addr → List Nat → Result) : Prop :=
  ∀ al tau, outv js (whole cert dep uni c rd al tau) = (rights (whole cert dep uni c rd al tau).ob, some (res (mapN al js) (mapN tau ks), zipN (mapN Prod.fst rd) (po (mapN al js) (mapN tau ks)), mapN some (nw (mapN al js) (mapN tau ks))))
theorem place_succ {al : Nat → Addr} {T : BT} (x : Addr × Obj) (r : List (Addr × Obj)) (j : Nat) : place al T (x :: r) (j + 1) = place al T r j := by
  show (match Nat.beq (j + 1) 0 with | true => some x | false => place al T r (j + 1 - 1)) = _
  rw [show Nat.beq (j + 1) 0 = false from rfl]
  rfl
theorem place_mem {al : Nat → Addr} {T : BT} (G : List (Addr × Obj)) (q : Addr × Obj) (h : q ∈ G) : ∃ j, place al T G j = some q := by
  induction G with
  | nil => cases h
  | cons x r ih =>
    rcases List.mem_cons.mp h with h | h
    · exact ⟨0, by rw [h]; rfl⟩
    · obtain ⟨j, e⟩ := ih h
      exact ⟨j + 1, (place_succ x r j).trans e⟩
theorem place_own {al : Nat → Addr} {T : BT} {i : Nat} {o : Obj} (h : T.get i = some o) : ∀ (G : List (Addr × Obj)), place al T G (G.length + i) = some (al i, o)
  | [] => by unfold place; rw [List.length_nil, Nat.zero_add, h]
  | x :: r => by
    have := place_own (al := al) h r
    rw [List.length_cons, show r.length + 1 + i = (r.length + i) + 1 by omega, place_succ]
    exact this
theorem nodup_map {al : Nat → Addr} {m : Nat} (inj : ∀ i j, i < m → j < m → al i = al j → i = j) : ∀ (js : List Nat), (∀ j ∈ js, j < m) → nodupB js = true → (js.map al).Nodup
  | [], _, _ => List.nodup_nil
  | j :: r, h, hn => by
    obtain ⟨h1, h2⟩ := nodupB_not hn
    rw [List.map_cons, List.nodup_cons]
    refine ⟨fun hm => ?_, nodup_map inj r (fun i hi => h i (.tail _ hi)) h2⟩
    obtain ⟨i, hi, e⟩ := List.mem_map.mp hm
    have := inj i j (h i (.tail _ hi)) (h j (.head _)) e
    subst this
    exact h1 hi
theorem zip_own {al : Nat → Addr} {T : BT} : ∀ (js : List Nat) (nw : List Obj), js.map T.get = nw.map some → ∀ q ∈ (js.map al).zip nw, ∃ i, T.get i = some q.2 ∧ q.1 = al i
  | [], _, _, q, hq => nomatch hq
  | j :: r, [], e, q, hq => nomatch e
  | j :: r, o :: nw, e, q, hq => by
    rw [List.map_cons, List.map_cons] at e
    injection e with e1 e2
    rw [List.map_cons, List.zip_cons_cons] at hq
    rcases List.mem_cons.mp hq with rfl | hq
    · exact ⟨j, e1, rfl⟩
    · exact zip_own r nw e2 q hq
theorem get_all {T : BT} {m : Nat} (hb : ∀ i o, T.get i = some o → i < m) : ∀ (js : List Nat) (nw : List Obj), js.map T.get = nw.map some → ∀ j ∈ js, j < m
  | [], _, _, _, h => nomatch h
  | j :: r, [], e, _, _ => nomatch e
  | j :: r, o :: nw, e, i, hi => by
    rw [List.map_cons, List.map_cons] at e
    injection e with e1 e2
    rcases List.mem_cons.mp hi with rfl | hi
    · exact hb _ _ e1
    · exact get_all hb r nw e2 i hi
theorem run_okT {cert : Cert prog w kt} {dep uni : Nat} {c : Code} {rd : List (Addr × Obj)} {js : List Nat} {tf : (Nat → Addr) → (Nat → Nat) → List Nat} {nt : Nat} {po nw : List Addr → List Nat → List Obj} {res : List Addr → List Nat → Result}
    (htf : ∀ al tau, (tf al tau).length = nt) (H : RunEqT cert dep uni c rd js tf po nw res) (hj : nodupB js = true) :
    ∀ (A : Around) (s : Shared) (R : Result → Shared → Prop), A.depth ≤ dep → A.units ≤ uni → A.handled = none → N0 ≤ s.heap.objs.size → s.heap.NoLimit → Stat kt s.heap →
    Facts s.heap rd → (rd.map Prod.fst).Nodup → (∀ q ∈ rd, N0 ≤ q.1 ∨ exB q.1 = true) →
    (∀ as ts h' tk', as.length = js.length → ts.length = nt → Fresh s.heap h' as → Facts h' (as.zip (nw as ts)) → Facts h' ((rd.map Prod.fst).zip (po as ts)) → KeptBut (rd.map Prod.fst) s.heap h' →
      R (res as ts) ⟨h', s.gens, s.drawn, tk', s.os⟩) → codeAny (model prog w) A c R s := by
  intro A s R hd hu hh hN hL hS hF hnd hhi hR
  obtain ⟨h, g, d, toks, os⟩ := s
  dsimp only at hN hL hS hF hR
  have S : SOk kt h h.objs.size (rd.map Prod.fst) := ⟨rfl, hN, hS, fun a ha => by
    obtain ⟨q, hq, e⟩ := List.mem_map.mp ha
    exact ⟨e ▸ hhi q hq, e ▸ Heap.lt_size (hF q hq)⟩, hnd, hL⟩
  have D : SRep (fun _ => 0) h h h.objs.size rd .nil 0 := by
    refine ⟨Nat.le_refl _, fun j p e => ?_, fun i o e => (by cases i <;> cases e), fun i hi => absurd hi (Nat.not_lt_zero _), fun i j hi => absurd hi (Nat.not_lt_zero _), fun b o e _ => e⟩
    have : ∀ (G : List (Addr × Obj)) (j : Nat), place (fun _ => 0) BT.nil G j = some p → p ∈ G := by
      intro G
      induction G with
      | nil =>
        intro j e
        unfold place at e
        have : BT.nil.get j = none := by cases j <;> rfl
        rw [this] at e; cases e
      | cons x r ih =>
        intro j e
        unfold place at e
        cases q : Nat.beq j 0 with
        | true => rw [q] at e; cases e; exact .head _
        | false => rw [q] at e; exact .tail _ (ih _ e)
    exact hF p (this rd j e)
  have hA : AOk (⟨false, dep, uni⟩ : SE) A := ⟨hd, hu, hh⟩
  have z := sim_sound (prog := prog) (w := w) (R₀ := R) (g := g) (d := d) (os := os) S hA 100000 (fun _ => 0) (fun _ => 0) cert c .base (den c) rd .nil 0 0 [] h toks rfl D fun al tau _ => ?_
  · refine y_code _ _ _ _ _ _ ?_
    rw [den_eq]
    exact z
  · have e := H al tau
    have e : outv js (whole cert dep uni c rd al tau) = _ := e
    show Good A R h h.objs.size g d os al (whole cert dep uni c rd al tau)
    cases q : whole cert dep uni c rd al tau with
    | done r G T m k o =>
      rw [q] at e
      have e1 : (lefts o, some (r, G, mapN T.get js)) = (rights o, _) := e
      injection e1 with e1 e2
      injection e2 with e2
      injection e2 with e2 e3
      injection e3 with e3 e4
      refine ⟨pairs_of e1, fun h' toks' D' => ?_⟩
      simp only [mapN_eq, zipN_eq] at e2 e3 e4
      rw [e2]
      refine hR (js.map al) (tf al tau) h' toks' (List.length_map ..) (htf al tau) ⟨nodup_map D'.inj js (get_all D'.bnd js _ e4) hj, fun a ha => ?_⟩ (fun y hy => ?_) (fun y hy => ?_) ⟨D'.lo, fun b o' hb hk => D'.keep b o' hb fun hm => hk ?_⟩
      · obtain ⟨j, hj', e⟩ := List.mem_map.mp ha
        rw [← e]
        exact D'.adr j (get_all D'.bnd js _ e4 j hj')
      · obtain ⟨i, h1, h2⟩ := zip_own js _ e4 y hy
        have := D'.plc _ _ (place_own (al := al) h1 G)
        rw [h2]; exact this
      · rw [← e3] at hy
        obtain ⟨j, ej⟩ := place_mem (al := al) (T := T) G y hy
        exact D'.plc j y ej
      · rw [e3] at hm
        obtain ⟨q', hq', e⟩ := List.mem_map.mp hm
        rw [← e]
        exact (List.of_mem_zip (a := q'.1) (b := q'.2) hq').1
    | halt => rw [q] at e; cases (congrArg Prod.snd e)
    | agn => rw [q] at e; cases (congrArg Prod.snd e)
    | stop => rw [q] at e; cases (congrArg Prod.snd e)
theorem run_ok {cert : Cert prog w kt} {dep uni : Nat} {c : Code} {rd : List (Addr × Obj)} {js ks : List Nat} {po nw : List Addr → List Nat → List Obj} {res : List Addr → List Nat → Result}
    (H : RunEq cert dep uni c rd js ks po nw res) (hj : nodupB js = true) :
    ∀ (A : Around) (s : Shared) (R : Result → Shared → Prop), A.depth ≤ dep → A.units ≤ uni → A.handled = none → N0 ≤ s.heap.objs.size → s.heap.NoLimit → Stat kt s.heap →
    Facts s.heap rd → (rd.map Prod.fst).Nodup → (∀ q ∈ rd, N0 ≤ q.1 ∨ exB q.1 = true) →
    (∀ as ts h' tk', as.length = js.length → ts.length = ks.length → Fresh s.heap h' as → Facts h' (as.zip (nw as ts)) → Facts h' ((rd.map Prod.fst).zip (po as ts)) → KeptBut (rd.map Prod.fst) s.heap h' →
      R (res as ts) ⟨h', s.gens, s.drawn, tk', s.os⟩) → codeAny (model prog w) A c R s := run_okT (tf := fun _ tau => mapN tau ks) (fun _ tau => by rw [mapN_eq, List.length_map]) H hj
noncomputable def byRun (cert : Cert prog w kt) (dep uni : Nat) (c : Code) (rd : List (Addr × Obj)) (js ks : List Nat) (po nw : List Addr → List Nat → List Obj) (res : List Addr → List Nat → Result) (H : RunEq cert dep uni c rd js ks po nw res) (hj : nodupB js = true) : Ck prog w kt :=
  ⟨c, dep, uni, rd, po, js.length, nw, ks.length, res, run_ok H hj⟩
end
end
section
open PySem PySem.Spec PySem.Calls PyProof.Rows PySem.W PySem.W.X
section
variable {prog : Program} {w : World} {kt : KT}
theorem code_gives {A : Around} {R : Result → Shared → Prop} {s : Shared} {T : String} {name : Str} {id : String} {B : Builtin} {self : Value} {rest : List Value} {m : Made}
    (slot : Slot T name id) (hT : s.TypeIs self T) (entry : entryFor table id = some B) (args : argsOk id ⟨self :: rest, []⟩) (g : Gives (B ⟨self :: rest, []⟩) m) (h : m.post (fun v s' => R (.ok (.ret v)) s') s) :
    codeAny (model prog w) A (.call (.builtin id) ⟨self :: rest, []⟩) R s :=
  codeAny_call_builtin slot.plain entry (slot.check _ _ _ _ _ _ _ _ hT args (g prog w A R s h))
theorem code_meets {A : Around} {R : Result → Shared → Prop} {s : Shared} {T : String} {name : Str} {id : String} {B : Builtin} {self : Value} {rest : List Value} {S : PySem.Spec}
    (slot : Slot T name id) (hT : s.TypeIs self T) (entry : entryFor table id = some B) (args : argsOk id ⟨self :: rest, []⟩) (g : Meets (B ⟨self :: rest, []⟩) S) (h : S A R s) :
    codeAny (model prog w) A (.call (.builtin id) ⟨self :: rest, []⟩) R s :=
  codeAny_call_builtin slot.plain entry (slot.check _ _ _ _ _ _ _ _ hT args (g prog w A R s h))
theorem same_fresh (h : Heap) : Fresh h h [] := ⟨List.nodup_nil, fun _ z => nomatch z⟩
theorem same_kept (ks : List Addr) (h : Heap) : KeptBut ks h h := ⟨Nat.le_refl _, fun _ _ e _ => e⟩
noncomputable def pVal (c : Code) (v : Value) (ok : ∀ (A : Around) (s : Shared) (R : Result → Shared → Prop), R (.ok (.ret v)) s → codeAny (model prog w) A c R s) : Ck prog w kt :=
  ⟨c, 900, 9000, [], fun _ _ => [], 0, fun _ _ => [], 0, fun _ _ => .ok (.ret v), fun A s R _ _ _ _ _ _ _ _ _ h => ok A s R (h [] [] s.heap s.toks rfl rfl (same_fresh _) (fun _ z => nomatch z) (fun _ z => nomatch z) (same_kept _ _))⟩
noncomputable def pTok (c : Code) (f : Nat → Value) (ok : ∀ (A : Around) (s : Shared) (R : Result → Shared → Prop), R (.ok (.ret (f s.toks))) { s with toks := s.toks + 1 } → codeAny (model prog w) A c R s) : Ck prog w kt :=
  ⟨c, 900, 9000, [], fun _ _ => [], 0, fun _ _ => [], 1, fun _ ts => .ok (.ret (f (ts.headD 0))), fun A s R _ _ _ _ _ _ _ _ _ h => ok A s R (h [] [s.toks] s.heap (s.toks + 1) rfl rfl (same_fresh _) (fun _ z => nomatch z) (fun _ z => nomatch z) (same_kept _ _))⟩
noncomputable def pEqS (x : Str) (t : Nat) (y : Str) (u : Nat) (b : Bool) (h : (x.cps.toList == y.cps.toList) = b) : Ck prog w kt :=
  pVal (.call (.builtin "str.__eq__") ⟨[.str x t, .str y u], []⟩) (.bool b) fun _ s _ hR =>
    code_gives F.slot_str_eq (typeIs_str s x t) F.entry_str_eq (F.args_str_eq_2 _ _) (gives_str_eq x y t u) (by rw [h]; exact hR)
noncomputable def pNeS (x : Str) (t : Nat) (y : Str) (u : Nat) (b : Bool) (h : (x.cps.toList != y.cps.toList) = b) : Ck prog w kt :=
  pVal (.call (.builtin "str.__ne__") ⟨[.str x t, .str y u], []⟩) (.bool b) fun _ s _ hR =>
    code_gives F.slot_str_ne (typeIs_str s x t) F.entry_str_ne (F.args_str_ne_2 _ _) (gives_str_ne x y t u) (by rw [h]; exact hR)
noncomputable def pInS (x : Str) (t : Nat) (y : Str) (u : Nat) (b : Bool) (h : (!(Builtin.Str.occurrences x y 0 x.length 1).isEmpty) = b) : Ck prog w kt :=
  pVal (.call (.builtin "str.__contains__") ⟨[.str x t, .str y u], []⟩) (.bool b) fun _ s _ hR =>
    code_gives F.slot_str_contains (typeIs_str s x t) F.entry_str_contains (F.args_str_contains_2 _ _) (gives_str_contains x y t u) (by rw [h]; exact hR)
noncomputable def pAddS (x : Str) (t : Nat) (y : Str) (u : Nat) (h1 : x.length ≠ 0) (h2 : y.length ≠ 0) (h3 : (x ++ y).length ≤ sizeLine) : Ck prog w kt :=
  pTok (.call (.builtin "str.__add__") ⟨[.str x t, .str y u], []⟩) (.str (x ++ y)) fun _ s _ hR =>
    code_gives F.slot_str_add (typeIs_str s x t) F.entry_str_add (F.args_str_add_2 _ _) (gives_str_add x y t u) (by
      rw [if_neg (by simpa using h1), if_neg (by simpa using h2)]; exact ⟨h3, hR⟩)
noncomputable abbrev sliceO (i : Int) (it : Nat) (j : Int) (jt : Nat) : Obj := ⟨.type "slice", none, .fields #[.int i it, .int j jt, .none], #[]⟩
noncomputable def pSlice (x : Str) (t : Nat) (a : Addr) (i : Int) (it : Nat) (j : Int) (jt : Nat) (r : Str) (h : sliceMade x t (some (i, it)) (some (j, jt)) none = .str r) (hr : r.length ≤ sizeLine) : Ck prog w kt :=
  ⟨.call (.builtin "str.__getitem__") ⟨[.str x t, .ref a], []⟩, 900, 9000, [(a, sliceO i it j jt)], fun _ _ => [sliceO i it j jt], 0, fun _ _ => [], 1, fun _ ts => .ok (.ret (.str r (ts.headD 0))), fun _ s _ _ _ _ _ _ _ hrd _ _ hR =>
    code_meets F.slot_str_getitem (typeIs_str s x t) F.entry_str_getitem (F.args_str_getitem_2 _ _) (meets_str_getitem_slice x t a (some (i, it)) (some (j, jt)) none rfl)
      ⟨⟨_, hrd _ (.head _), rfl, rfl⟩, by rw [h]; exact ⟨hr, hR [] [s.toks] s.heap (s.toks + 1) rfl rfl (same_fresh _) (fun _ z => nomatch z) (fun q hq => by
        rcases List.mem_cons.mp hq with rfl | hq
        · exact hrd _ (.head _)
        · cases hq) (same_kept _ _)⟩⟩⟩
noncomputable def intsOf : List Value → Option (List Int)
  | [] => some []
  | v :: r => match v with
    | .int n _ => match intsOf r with
      | some ns => some (n :: ns)
      | none => none
    | _ => none
theorem intsOf_are : ∀ {vs : List Value} {ns : List Int}, intsOf vs = some ns → IntsAre vs ns
  | [], ns, e => by cases e; exact .nil
  | v :: r, ns, e => by
    unfold intsOf at e
    split at e
    · rename_i n t
      split at e
      · rename_i ms hm
        cases e
        exact .cons n t (intsOf_are hm)
      · cases e
    · cases e
noncomputable def countF (c : Code) (rd : List (Addr × Obj)) : Option (List Pair × (List Nat → Result)) := match c with
  | .call (.builtin _) ⟨[.ref a, .int x t], []⟩ => match rd with
    | [q] => match q.2.data with
      | .seq vs _ => match intsOf vs.toList with
        | some ns => some ([.a a q.1, .v q.2.cls (.type "list"), .c c (.call (.builtin "list.count") ⟨[.ref a, .int x t], []⟩)], fun ts => .ok (.ret (.int (ns.count x : Nat) (ts.headD 0))))
        | none => none
      | _ => none
    | _ => none
  | _ => none
theorem code_count {A : Around} {R : Result → Shared → Prop} {s : Shared} {l : Addr} {vs : Array Value} {ns : List Int} {k : Int} {t : Tok} {dd : Option Addr} {n : Nat} {sl : Array (Option Value)} (ho : s.heap.get? l = some ⟨.type "list", dd, .seq vs n, sl⟩) (hi : IntsAre vs.toList ns)
    (h : R (.ok (.ret (.int (ns.count k : Nat) s.toks))) { s with toks := s.toks + 1 }) : codeAny (model prog w) A (.call (.builtin "list.count") ⟨[.ref l, .int k t], []⟩) R s := by
  refine code_meets F.slot_list_count ⟨_, ho, rfl⟩ F.entry_list_count (F.args_list_count_2 _ _) (PySem.SeqAt.list_countAt l vs n dd sl (.int k t) (isInt k)) ⟨ho, fun y hy => (eq_isInt k t hi y (by simpa using hy)).at _ _, ?_⟩
  rw [countP_isInt k hi]
  exact h
noncomputable def kCount : Fk prog w where
  f := countF
  nt := 1
  ok := by
    intro c rd ps r e hp A s R _ _ hrd hR
    unfold countF at e
    split at e
    · rename_i id a x t
      split at e
      · rename_i q
        split at e
        · rename_i vs n hd
          split at e
          · rename_i ns hns
            cases e
            have e1 : Side.a a = Side.a q.1 := hp _ (.head _)
            have e2 : Side.v q.2.cls = Side.v (.type "list") := hp _ (.tail _ (.head _))
            have e3 : Side.c _ = Side.c _ := hp _ (.tail _ (.tail _ (.head _)))
            injection e1 with e1
            injection e2 with e2
            injection e3 with e3
            rw [e3]
            have ho := hrd q (.head _)
            obtain ⟨qa, qc, qd, qdt, qs⟩ := q
            dsimp only at e1 e2 hd ho
            subst e1 e2 hd
            exact code_count ho (intsOf_are hns) (hR [s.toks] _ rfl)
          · cases e
        · cases e
      · cases e
    · cases e
noncomputable def pMul (x : Int) (t : Nat) (y : Int) (u : Nat) (h : IntMulOk x y) : Ck prog w kt :=
  pTok (.call (.builtin "int.__mul__") ⟨[.int x t, .int y u], []⟩) (.int (x * y)) fun _ s _ hR =>
    code_gives F.slot_int_mul (typeIs_int s x t) F.entry_int_mul (F.args_int_mul_2 _ _) (gives_int_mul x y t u h) hR
noncomputable def pMod (x : Int) (t : Nat) (y : Int) (u : Nat) (r : Int) (hy : (y == 0) = false) (h : Int.fmod x y = r) : Ck prog w kt :=
  pTok (.call (.builtin "int.__mod__") ⟨[.int x t, .int y u], []⟩) (.int r) fun _ s _ hR =>
    code_gives F.slot_int_mod (typeIs_int s x t) F.entry_int_mod (F.args_int_mod_2 _ _) (AutoIntG6.int___mod___int_int_1 x t y u (by rw [hy]; exact Bool.false_ne_true)) (by rw [← h] at hR; exact hR)
noncomputable def pFdiv (x : Int) (t : Nat) (y : Int) (u : Nat) (r : Int) (hy : (y == 0) = false) (hl : Builtin.divisionGoesByPylong x y = false) (h : Int.fdiv x y = r) : Ck prog w kt :=
  pTok (.call (.builtin "int.__floordiv__") ⟨[.int x t, .int y u], []⟩) (.int r) fun _ s _ hR =>
    code_gives F.slot_int_floordiv (typeIs_int s x t) F.entry_int_floordiv (F.args_int_floordiv_2 _ _) (AutoIntG4.int___floordiv___int_int_1 x t y u (by rw [hy]; exact Bool.false_ne_true) (by rw [hl]; exact Bool.false_ne_true)) (by rw [← h] at hR; exact hR)
end
end
section
open PySem PySem.W PySem.W.X
section
variable {prog : Program} {w : World} {kt : KT}
noncomputable def unN (k : List (Tg prog w kt) → List (Tg prog w kt)) (f : Nat) : Nat → List (Tg prog w kt) → List (Tg prog w kt) :=
  @Nat.rec (fun _ => Nat → List (Tg prog w kt) → List (Tg prog w kt)) (fun _ sp => k sp)
    (fun _ ih n sp => match Nat.mod n 4096 with
      | 0 => k sp
      | 1 => .d :: ih (Nat.div n 4096) sp
      | 2 => .q :: ih (Nat.div n 4096) sp
      | 3 => .e :: ih (Nat.div n 4096) sp
      | 4 => .h :: ih (Nat.div n 4096) sp
      | 5 => match sp with
        | [] => []
        | x :: sp' => x :: ih (Nat.div n 4096) sp'
      | d + 6 => .i d :: ih (Nat.div n 4096) sp) f
noncomputable def unpk : List Nat → List (Tg prog w kt) → List (Tg prog w kt)
  | [], _ => []
  | n :: r, sp => unN (unpk r) 64 n sp
noncomputable def CkOk (prog : Program) (w : World) (kt : KT) (c : Code) (dep uni : Nat) (rd : List (Addr × Obj)) (po : List Addr → List Nat → List Obj) (na : Nat) (nw : List Addr → List Nat → List Obj) (nt : Nat) (res : List Addr → List Nat → Result) : Prop :=
  ∀ (A : Around) (s : Shared) (R : Result → Shared → Prop), A.depth ≤ dep → A.units ≤ uni → A.handled = none → N0 ≤ s.heap.objs.size → s.heap.NoLimit → Stat kt s.heap →
    Facts s.heap rd → (rd.map Prod.fst).Nodup → (∀ q ∈ rd, N0 ≤ q.1 ∨ exB q.1 = true) →
    (∀ as ts h' tk', as.length = na → ts.length = nt → Fresh s.heap h' as → Facts h' (as.zip (nw as ts)) → Facts h' ((rd.map Prod.fst).zip (po as ts)) → KeptBut (rd.map Prod.fst) s.heap h' →
      R (res as ts) ⟨h', s.gens, s.drawn, tk', s.os⟩) → codeAny (model prog w) A c R s
noncomputable def mkCk {c : Code} {dep uni : Nat} {rd : List (Addr × Obj)} {po : List Addr → List Nat → List Obj} {na : Nat} {nw : List Addr → List Nat → List Obj} {nt : Nat} {res : List Addr → List Nat → Result} (H : CkOk prog w kt c dep uni rd po na nw nt res) : Ck prog w kt :=
  ⟨c, dep, uni, rd, po, na, nw, nt, res, H⟩
end
section
variable {prog : Program} {w : World} {kt : KT}
theorem ckOf {cert : Cert prog w kt} {dep uni : Nat} {c : Code} {rd : List (Addr × Obj)} {js ks : List Nat} {po nw : List Addr → List Nat → List Obj} {res : List Addr → List Nat → Result} {na nt : Nat}
    (g : List Nat → List Nat) (hg : ∀ ts, (g ts).length = nt) (H : RunEq cert dep uni c rd js ks (fun as ts => po as (g ts)) (fun as ts => nw as (g ts)) (fun as ts => res as (g ts))) (hj : nodupB js = true) (hna : js.length = na) :
    CkOk prog w kt c dep uni rd po na nw nt res := by
  subst hna
  intro A s R a1 a2 a3 a4 a5 a6 a7 a8 a9 hR
  exact run_ok H hj A s R a1 a2 a3 a4 a5 a6 a7 a8 a9 fun as ts h' tk' la lt hF f1 f2 hK => hR as (g ts) h' tk' la (hg ts) hF f1 f2 hK
end
section
variable {prog : Program} {w : World} {kt : KT}
theorem ckOfX {cert : Cert prog w kt} {dep uni : Nat} {c : Code} {rd : List (Addr × Obj)} {js ks es : List Nat} {po nw : List Addr → List Nat → List Obj} {res : List Addr → List Nat → Result} {na nt : Nat}
    (g : List Nat → List Nat → List Nat) (hg : ∀ ts es, (g ts es).length = nt) (H : RunEqT cert dep uni c rd js (fun al tau => g (mapN tau ks) (mapN al es)) po nw res) (hj : nodupB js = true) (hna : js.length = na) :
    CkOk prog w kt c dep uni rd po na nw nt res := by
  subst hna
  intro A s R a1 a2 a3 a4 a5 a6 a7 a8 a9 hR
  exact run_okT (fun al tau => hg _ _) H hj A s R a1 a2 a3 a4 a5 a6 a7 a8 a9 hR
end
end
section
open PySem PySem.W PySem.W.X
section
noncomputable abbrev n_lineno : Str := ⟨#[108, 105, 110, 101, 110, 111]⟩
noncomputable abbrev n_instream : Str := ⟨#[105, 110, 115, 116, 114, 101, 97, 109]⟩
noncomputable abbrev n_whitespace : Str := ⟨#[119, 104, 105, 116, 101, 115, 112, 97, 99, 101]⟩
noncomputable abbrev n_pushback : Str := ⟨#[112, 117, 115, 104, 98, 97, 99, 107]⟩
noncomputable abbrev n_read : Str := ⟨#[114, 101, 97, 100]⟩
noncomputable abbrev n_self : Str := ⟨#[115, 101, 108, 102]⟩
noncomputable abbrev n_token : Str := ⟨#[116, 111, 107, 101, 110]⟩
noncomputable abbrev n_fiter : Str := ⟨#[102, 105, 116, 101, 114]⟩
noncomputable abbrev n_ch : Str := ⟨#[99, 104]⟩
noncomputable abbrev n_text : Str := ⟨#[116, 101, 120, 116]⟩
noncomputable abbrev n_at : Str := ⟨#[97, 116]⟩
noncomputable abbrev n_count : Str := ⟨#[99, 111, 117, 110, 116]⟩
noncomputable abbrev n_piece : Str := ⟨#[112, 105, 101, 99, 101]⟩
noncomputable abbrev ent (nm : Str) (j : Int × Nat) (v : Value) : DictEntry := ⟨j.1, .str nm j.2, v⟩
noncomputable abbrev dictO (es : List DictEntry) (n : Nat) : Obj := ⟨.type SL.s14018661285674007319x4, none, .dict ⟨es⟩ n, #[]⟩
noncomputable abbrev listO (vs : List Value) (n : Nat) : Obj := ⟨.type SL.s9222952809800978799x4, none, .seq ⟨vs⟩ n, #[]⟩
noncomputable abbrev tupO (vs : List Value) : Obj := ⟨.type SL.s2766695959194262286x5, none, .seq ⟨vs⟩ 0, #[]⟩
noncomputable abbrev frameO (es : List DictEntry) (n : Nat) : Obj := ⟨.type SL.s658472552662922059x5, none, .dict ⟨es⟩ n, #[]⟩
noncomputable abbrev instO (d : Addr) : Obj := ⟨.ref 52, some d, .plain, #[]⟩
noncomputable abbrev cellO (v : Value) : Obj := ⟨.type SL.s15660640913423913556x4, none, .cell (some v), #[]⟩
noncomputable def defIn (kt : KT) (f i : Nat) : FuncData := match kt.get f with
  | some ⟨_, _, .func fd, _⟩ => match fd.body with
    | .stmts b => match b[i]? with
      | some (.FunctionDef name args body _ _ _ scope _ _ _) => { name, qualname := name, params := args, body := .stmts body, scope, globals := 3, closure := [], defaults := .none, kwdefaults := .none }
      | _ => default
    | _ => default
  | _ => default
noncomputable abbrev q_read : Str := ⟨#[95, 108, 97, 119, 95, 108, 101, 120, 101, 114, 46, 60, 108, 111, 99, 97, 108, 115, 62, 46, 114, 101, 97, 100]⟩
noncomputable abbrev m_law : Value := .str ⟨#[108, 97, 119, 95, 112, 107, 48, 48, 51, 57, 95, 48, 49]⟩ 271
noncomputable abbrev ws4 : Str := ⟨#[10, 9, 13, 32]⟩
structure LP where
  (lx dlx pb src dsrc rd cd cT cA at_ ct : Addr)
  text : Str
  tt : Nat
  e : Nat → Int × Nat
  v : Nat → Value
  wt : Nat
  (ep0 ep1 ep2 : Nat)
structure LS where
  i : Int
  l : Int
  it : Nat
  lt : Nat
noncomputable def readFd (kt : KT) (p : LP) : FuncData := { defIn kt 84 0 with qualname := q_read, closure := [(n_text, p.cT), (n_at, p.cA)], pyModule := m_law, code := .ref p.cd, closureTuple := .ref p.ct }
noncomputable def codeO (p : LP) : Obj := ⟨.type SL.s5856160107412720595x4, none, .fields #[p.v 0, .str q_read (p.e 20).2, p.v 2, p.v 3, p.v 4, p.v 5, p.v 6, p.v 7, p.v 8, p.v 9, p.v 10, p.v 11, p.v 12, p.v 13, p.v 14, p.v 15, p.v 16, p.v 17, p.v 18], #[]⟩
noncomputable def funO (fd : FuncData) : Obj := ⟨.type "function", none, .func fd, #[]⟩
noncomputable def lexG (kt : KT) (p : LP) (s : LS) : List (Addr × Obj) := [
  (p.lx, instO p.dlx),
  (p.dlx, dictO [ent n_lineno (p.e 0) (.int s.l s.lt), ent n_instream (p.e 1) (.ref p.src), ent n_whitespace (p.e 2) (.str ws4 p.wt), ent n_pushback (p.e 3) (.ref p.pb)] p.ep0),
  (p.src, instO p.dsrc),
  (p.dsrc, dictO [ent n_lineno (p.e 4) (p.v 20), ent n_instream (p.e 5) (p.v 21), ent n_whitespace (p.e 6) (p.v 22), ent n_pushback (p.e 7) (p.v 23), ent n_read (p.e 8) (.ref p.rd)] p.ep1),
  (p.rd, funO (readFd kt p)),
  (p.cd, codeO p),
  (p.cT, cellO (.str p.text p.tt)),
  (p.cA, cellO (.ref p.at_)),
  (p.at_, listO [.int s.i s.it] p.ep2)]
end
end
section
open PySem PySem.W PySem.W.X
section
theorem len1 (c : Nat) : (⟨#[c]⟩ : Str).length ≤ sizeLine := by
  show 1 ≤ sizeLine
  decide
noncomputable def fdOf (kt : KT) (f : Nat) : FuncData := match kt.get f with
  | some ⟨_, _, .func fd, _⟩ => fd
  | _ => default
noncomputable def bodyOf (kt : KT) (f : Nat) : List Stmt := match (fdOf kt f).body with
  | .stmts b => b
  | _ => []
noncomputable def nthS : List Stmt → Nat → Stmt
  | [], _ => default
  | x :: r, i => match Nat.beq i 0 with
    | true => x
    | false => nthS r (i - 1)
noncomputable def forBody : Stmt → List Stmt
  | .For _ _ b _ _ => b
  | _ => []
noncomputable def ifThen : Stmt → List Stmt
  | .If _ b _ _ => b
  | _ => []
noncomputable def ifElse : Stmt → List Stmt
  | .If _ _ b _ => b
  | _ => []
noncomputable def forC (s : Stmt) (it : Value) (env : Env) : Code := match s with
  | .For t _ b o _ => .forLoop t it b o env
  | _ => .call .none ⟨[], []⟩
noncomputable abbrev dotLocals : Str := ⟨#[46, 60, 108, 111, 99, 97, 108, 115, 62, 46]⟩
noncomputable def envOf (kt : KT) (f : Nat) (code : Nat) (fr : Addr) : Env := ⟨(fdOf kt f).scope, fr, 3, [], ⟨(fdOf kt f).qualname.cps ++ dotLocals.cps⟩, some f, .ref code, some fr, 0⟩
noncomputable def sO (kt : KT) : Stmt := nthS (bodyOf kt 42) 3
noncomputable def sQ (kt : KT) : Stmt := nthS (ifThen (nthS (forBody (sO kt)) 1)) 0
noncomputable def sU (kt : KT) : Stmt := nthS (ifElse (nthS (forBody (sO kt)) 1)) 2
noncomputable def cO (kt : KT) (fi fr : Addr) : Code := forC (sO kt) (.ref fi) (envOf kt 42 41 fr)
noncomputable def cQ (kt : KT) (fi fr : Addr) : Code := forC (sQ kt) (.ref fi) (envOf kt 42 41 fr)
noncomputable def cU (kt : KT) (fi fr : Addr) : Code := forC (sU kt) (.ref fi) (envOf kt 42 41 fr)
noncomputable def methO (lx : Addr) : Obj := ⟨.type "method", none, .fields #[.ref 35, .ref lx], #[]⟩
noncomputable def iterO (mt : Addr) (t : Nat) : Obj := ⟨.type "callable_iterator", none, .fields #[.ref mt, .str ⟨#[]⟩ t, .bool false], #[]⟩
structure OneAt (p : LP) (i : Int) (r : Str) : Prop where
  sl : ∀ it jt, sliceMade p.text p.tt (some (i, it)) (some (i + 1, jt)) none = .str r
theorem eq_list1 {c d : Nat} (h : c ≠ d) : ((⟨#[c]⟩ : Str).cps.toList == (⟨#[d]⟩ : Str).cps.toList) = false := by
  show ([c] == [d]) = false
  simp [h]
structure TF where
  (fr fi mt : Addr)
  f : Nat → Int × Nat
  ep : Nat
  st : Nat
noncomputable def gtG (p : LP) (x : TF) (tok : Value) (ch : Value) : List (Addr × Obj) := [
  (x.fr, frameO [ent n_self (x.f 0) (.ref p.lx), ent n_token (x.f 1) tok, ent n_fiter (x.f 2) (.ref x.fi), ent n_ch (x.f 3) ch] x.ep),
  (x.fi, iterO x.mt x.st), (x.mt, methO p.lx)]
end
end
section
open PySem PySem.Spec PySem.Calls PySem.W PySem.W.X
section
variable {prog : Program} {w : World} {kt : KT}
noncomputable def rcCode (mt : Addr) : Code := .call (.ref mt) ⟨[], []⟩
noncomputable def rcG (kt : KT) (p : LP) (mt : Addr) (s : LS) : List (Addr × Obj) := (mt, methO p.lx) :: lexG kt p s
noncomputable def rfCode (p : LP) : Code := .call (.ref 35) ⟨[.ref p.lx], []⟩
noncomputable def nthN : List Nat → Nat → Nat
  | [], _ => 0
  | x :: r, i => match Nat.beq i 0 with
    | true => x
    | false => nthN r (i - 1)
noncomputable def lexO (kt : KT) (p : LP) (s : LS) : List Obj := methO p.lx :: mapN Prod.snd (lexG kt p s)
noncomputable def rcPo (kt : KT) (p : LP) (s : LS) (r : Str) (l : Int) (ts : List Nat) : List Obj := lexO kt p ⟨s.i + r.length, l, nthN ts 0, nthN ts 1⟩
noncomputable def lexP (kt : KT) (p : LP) (s : LS) : List Obj := mapN Prod.snd (lexG kt p s)
noncomputable def rfPo (kt : KT) (p : LP) (s : LS) (r : Str) (l : Int) (ts : List Nat) : List Obj := lexP kt p ⟨s.i + r.length, l, nthN ts 0, nthN ts 1⟩
noncomputable def rcRes (r : Str) (ts : List Nat) : Result := .ok (.ret (.str r (nthN ts 2)))
section
variable (prog : Program) (w : World) (kt : KT)
noncomputable def E_crC : Prop := ∀ (p : LP) (mt : Addr) (s : LS) (c : Nat) (h1 : OneAt p s.i ⟨#[c]⟩) (h2 : c ≠ 10), CkOk prog w kt (rcCode mt) 800 7000 (rcG kt p mt s) (fun _ ts => lexO kt p ⟨s.i + (⟨#[c]⟩ : Str).length, s.l, nthN ts 0, s.lt⟩) 0 (fun _ _ => []) 2 (fun _ ts => .ok (.ret (.str ⟨#[c]⟩ (nthN ts 1))))
noncomputable def E_crN : Prop := ∀ (p : LP) (mt : Addr) (s : LS) (h1 : OneAt p s.i ⟨#[10]⟩), CkOk prog w kt (rcCode mt) 800 7000 (rcG kt p mt s) (fun _ ts => rcPo kt p s ⟨#[10]⟩ (s.l + 1) ts) 0 (fun _ _ => []) 3 (fun _ ts => rcRes ⟨#[10]⟩ ts)
noncomputable def E_crE : Prop := ∀ (p : LP) (mt : Addr) (s : LS) (h1 : OneAt p s.i ⟨#[]⟩), CkOk prog w kt (rcCode mt) 800 7000 (rcG kt p mt s) (fun _ ts => lexO kt p ⟨s.i + (⟨#[]⟩ : Str).length, s.l, nthN ts 0, s.lt⟩) 0 (fun _ _ => []) 2 (fun _ ts => .ok (.ret (.str ⟨#[]⟩ (nthN ts 1))))
end
structure RunsRC (prog : Program) (w : World) (kt : KT) : Prop where
  C : E_crC prog w kt
  N : E_crN prog w kt
  E : E_crE prog w kt
section
variable (prog : Program) (w : World) (kt : KT)
noncomputable def E_cfC : Prop := ∀ (p : LP) (s : LS) (c : Nat) (h1 : OneAt p s.i ⟨#[c]⟩) (h2 : c ≠ 10), CkOk prog w kt (rfCode p) 800 7000 (lexG kt p s) (fun _ ts => lexP kt p ⟨s.i + (⟨#[c]⟩ : Str).length, s.l, nthN ts 0, s.lt⟩) 0 (fun _ _ => []) 2 (fun _ ts => .ok (.ret (.str ⟨#[c]⟩ (nthN ts 1))))
noncomputable def E_cfN : Prop := ∀ (p : LP) (s : LS) (h1 : OneAt p s.i ⟨#[10]⟩), CkOk prog w kt (rfCode p) 800 7000 (lexG kt p s) (fun _ ts => rfPo kt p s ⟨#[10]⟩ (s.l + 1) ts) 0 (fun _ _ => []) 3 (fun _ ts => rcRes ⟨#[10]⟩ ts)
noncomputable def E_cfE : Prop := ∀ (p : LP) (s : LS) (h1 : OneAt p s.i ⟨#[]⟩), CkOk prog w kt (rfCode p) 800 7000 (lexG kt p s) (fun _ ts => lexP kt p ⟨s.i + (⟨#[]⟩ : Str).length, s.l, nthN ts 0, s.lt⟩) 0 (fun _ _ => []) 2 (fun _ ts => .ok (.ret (.str ⟨#[]⟩ (nthN ts 1))))
end
structure RunsRF (prog : Program) (w : World) (kt : KT) : Prop where
  C : E_cfC prog w kt
  N : E_cfN prog w kt
  E : E_cfE prog w kt
inductive Rd (p : LP) (i : Int) (l : Int) : Str → Int → Prop
  | C (c : Nat) : OneAt p i ⟨#[c]⟩ → c ≠ 10 → Rd p i l ⟨#[c]⟩ l
  | N : OneAt p i ⟨#[10]⟩ → Rd p i l ⟨#[10]⟩ (l + 1)
  | E : OneAt p i ⟨#[]⟩ → Rd p i l ⟨#[]⟩ l
theorem two {ts : List Nat} (h : ts.length = 2) : ∃ a b, ts = [a, b] := by
  match ts, h with
  | [a, b], _ => exact ⟨a, b, rfl⟩
theorem three {ts : List Nat} (h : ts.length = 3) : ∃ a b c, ts = [a, b, c] := by
  match ts, h with
  | [a, b, c], _ => exact ⟨a, b, c, rfl⟩
noncomputable def rcK (X : RunsRC prog w kt) (p : LP) (mt : Addr) (s : LS) (r : Str) (l : Int) (H : Rd p s.i s.l r l) : Ck prog w kt where
  c := rcCode mt
  dep := 800
  uni := 7000
  rd := rcG kt p mt s
  po := fun _ ts => rcPo kt p s r l ts
  na := 0
  nw := fun _ _ => []
  nt := 3
  res := fun _ ts => rcRes r ts
  ok := by
    intro A s₁ R a1 a2 a3 a4 a5 a6 a7 a8 a9 hR
    cases H with
    | C c h1 h2 =>
      refine (X.C p mt s c h1 h2) A s₁ R a1 a2 a3 a4 a5 a6 a7 a8 a9 fun as ts h' tk' la lt hF f1 f2 hK => ?_
      obtain ⟨t0, t1, rfl⟩ := two lt
      exact hR as [t0, s.lt, t1] h' tk' la rfl hF f1 f2 hK
    | N h1 =>
      exact (X.N p mt s h1) A s₁ R a1 a2 a3 a4 a5 a6 a7 a8 a9 hR
    | E h1 =>
      refine (X.E p mt s h1) A s₁ R a1 a2 a3 a4 a5 a6 a7 a8 a9 fun as ts h' tk' la lt hF f1 f2 hK => ?_
      obtain ⟨t0, t1, rfl⟩ := two lt
      exact hR as [t0, s.lt, t1] h' tk' la rfl hF f1 f2 hK
noncomputable def rfK (X : RunsRF prog w kt) (p : LP) (s : LS) (r : Str) (l : Int) (H : Rd p s.i s.l r l) : Ck prog w kt where
  c := rfCode p
  dep := 800
  uni := 7000
  rd := lexG kt p s
  po := fun _ ts => rfPo kt p s r l ts
  na := 0
  nw := fun _ _ => []
  nt := 3
  res := fun _ ts => rcRes r ts
  ok := by
    intro A s₁ R a1 a2 a3 a4 a5 a6 a7 a8 a9 hR
    cases H with
    | C c h1 h2 =>
      refine (X.C p s c h1 h2) A s₁ R a1 a2 a3 a4 a5 a6 a7 a8 a9 fun as ts h' tk' la lt hF f1 f2 hK => ?_
      obtain ⟨t0, t1, rfl⟩ := two lt
      exact hR as [t0, s.lt, t1] h' tk' la rfl hF f1 f2 hK
    | N h1 =>
      exact (X.N p s h1) A s₁ R a1 a2 a3 a4 a5 a6 a7 a8 a9 hR
    | E h1 =>
      refine (X.E p s h1) A s₁ R a1 a2 a3 a4 a5 a6 a7 a8 a9 fun as ts h' tk' la lt hF f1 f2 hK => ?_
      obtain ⟨t0, t1, rfl⟩ := two lt
      exact hR as [t0, s.lt, t1] h' tk' la rfl hF f1 f2 hK
end
end
section
open PySem PySem.Spec PySem.Calls PySem.W PySem.W.X
section
variable {prog : Program} {w : World} {kt : KT}
theorem notWs {c : Nat} (h : c ∉ [10, 9, 13, 32]) : (!(Builtin.Str.occurrences ws4 ⟨#[c]⟩ 0 ws4.length 1).isEmpty) = false := (StrLaws.found_one ws4 c).trans (decide_eq_false h)
theorem isWs {c : Nat} (h : c ∈ [10, 9, 13, 32]) : (!(Builtin.Str.occurrences ws4 ⟨#[c]⟩ 0 ws4.length 1).isEmpty) = true := (StrLaws.found_one ws4 c).trans (decide_eq_true h)
end
end
section
open PySem PySem.Spec PySem.Calls PyProof.Rows PySem.W PySem.W.X
open Sem (wp)
section
variable {prog : Program} {w : World} {kt : KT}
theorem slot_cit_next : Slot "callable_iterator" "__next__" "callable_iterator.__next__" :=
  .of (owner := "callable_iterator") (n := "__next__") (by rw [typeLookup_type, builtinLookup_eq_fast]; kernel_rfl) (by decide +kernel) (by decide +kernel) (by decide +kernel)
    (by first | exact .inl (by decide +kernel) | exact .inr (by decide +kernel)) (by rw [isSubtype_type]; kernel_rfl)
theorem entry_cit_next : entryFor table "callable_iterator.__next__" = some Builtin.«callable_iterator.__next__» := entryFor_of_tree (by kernel_rfl)
theorem owner_cit : Manifest.owners.lookup (String.ofList "callable_iterator".toList.reverse.reverse) = some Manifest.sig_callable_iterator := by kernel_rfl
theorem args_cit_next (a : Value) : argsOk "callable_iterator.__next__" ⟨[a], []⟩ := by
  unfold argsOk; rw [signature?_of (id := "callable_iterator.__next__") (n := "__next__".toList.reverse) (o := "callable_iterator".toList.reverse) (by kernel_rfl) owner_cit]; kernel_rfl
noncomputable def iterD : Obj := ⟨.type "callable_iterator", none, .fields #[.none, .none, .bool true], #[]⟩
noncomputable def nxCode (fi : Addr) : Code := .call (.builtin "callable_iterator.__next__") ⟨[.ref fi], []⟩
theorem wpAny_borrows {M : Model} {A : Around} {E : Value → Shared → Prop} {s : Shared} {Q : Bool → Shared → Prop} {mt lx : Addr} {fo : Obj} {fd : FuncData} (h1 : s.heap.get? mt = some (methO lx)) (h2 : s.heap.get? 35 = some fo) (hf : fo.data = .func fd) (h : Q true s) :
    wpAny M A (borrowsExactly (.ref mt)) Q E s := by
  unfold borrowsExactly
  refine wpAny_bind (wpAny_load h1 ?_)
  refine wpAny_bind (wpAny_load h2 ?_)
  rw [hf]
  exact wpAny_pure h
theorem wpAny_callBorrowed {M : Model} {A : Around} {E : Value → Shared → Prop} {s : Shared} {f : Value} {pos : List Value} {Q : Value → Shared → Prop}
    (hc : codeAny M A (.call f ⟨pos, []⟩) (fun r s' => match r with | .ok (.ret v) => Q v s' | .ok _ => False | .error e => E e s') s) :
    wpAny M A (callBorrowed f pos) Q E s := fun Γ p hΓ => by
  unfold callBorrowed
  rw [Sem.wp_call]
  have h := hc _ p rfl (hΓ.enter (.call f ⟨pos, []⟩) none p (by intro x; cases x))
  have e : (fun r s' => wp M Γ (match r with
      | .ok (.ret v) => (.pure v : Sem Value)
      | .ok _ => .unsupported "internal:call-without-return-value"
      | .error e => .raise e) (fun a _ s' => Q a s') (fun e _ s' => E e s') p s') = (fun (r : Result) s' => match r with | .ok (.ret v) => Q v s' | .ok _ => False | .error e => E e s') := by
    funext r s'
    cases r with
    | error e => rfl
    | ok f => cases f <;> rfl
  rw [← e] at h
  exact h
noncomputable def stopO (t : Addr) : Obj := ⟨.type "StopIteration", none, .fields #[.ref t, .none, .none, .none, .bool false, .none], #[]⟩
theorem stop_first : firstArgMember (.type "StopIteration") [] = pure .none := by kernel_rfl
theorem stop_own : ownMembersOf (.type "StopIteration") [] = #[] := by
  unfold ownMembersOf
  split <;> first | rfl | (rename_i h; revert h; decide) | simp_all
theorem wpAny_stop {α : Type} {M : Model} {A : Around} {E : Value → Shared → Prop} {s : Shared} {Q : α → Shared → Prop} (hh : A.handled = none)
    (h : E (.ref (s.heap.objs.size + 1)) { s with heap := (s.heap.push (tupO [])).push (stopO s.heap.objs.size) }) : wpAny M A (Builtin.SmallTypes.stopIteration : Sem α) Q E s := by
  unfold Builtin.SmallTypes.stopIteration
  refine wpAny_bind ?_
  unfold newExc newTuple
  refine wpAny_bind (wpAny_newObj_type ?_)
  refine wpAny_bind (m := firstArgMember _ _) (wpAny_of_eq (a := Value.none) stop_first ?_)
  rw [stop_own]
  refine wpAny_newObj_type ?_
  unfold raiseNew
  refine wpAny_bind (wpAny_handled ?_)
  rw [hh]
  refine wpAny_throw ?_
  have := h
  simpa [stopO, tupO, SL.e2766695959194262286x5] using this
theorem set_kept {ks : List Addr} {h h1 h2 : Heap} {a : Addr} (K : KeptBut ks h h1) (S : Heap.SameBut a h1 h2) : KeptBut (a :: ks) h h2 :=
  ⟨by rw [S.1]; exact K.size, fun b o hb hn => (S.2 b (fun e => hn (by rw [e]; exact .head _))).trans (K.keep b o hb (fun hm => hn (.tail _ hm)))⟩
noncomputable def nxE (X : RunsRC prog w kt) (p : LP) (s : LS) (fi mt : Addr) (st : Nat) (H : OneAt p s.i ⟨#[]⟩) {fo : Obj} {fd : FuncData} (hk : kt.get 35 = some fo) (hf : fo.data = .func fd) : Ck prog w kt where
  c := nxCode fi
  dep := 700
  uni := 6000
  rd := (fi, iterO mt st) :: rcG kt p mt s
  po := fun _ ts => iterD :: rcPo kt p s ⟨#[]⟩ s.l ts
  na := 2
  nw := fun as _ => [tupO [], stopO (nthN as 0)]
  nt := 3
  res := fun as _ => .error (.ref (nthN as 1))
  ok := by
    intro A s₁ R a1 a2 a3 a4 a5 a6 a7 a8 a9 hR
    have e1 := a7 (fi, iterO mt st) (.head _)
    have e2 := a7 (mt, methO p.lx) (.tail _ (.head _))
    have e3 : s₁.heap.get? 35 = some fo := a6 35 fo (by decide) hk rfl
    rw [List.map_cons, List.nodup_cons] at a8
    refine codeAny_call_builtin slot_cit_next.plain entry_cit_next (slot_cit_next.check _ _ _ _ _ _ _ _ ⟨_, e1, rfl⟩ (args_cit_next _) ?_)
    unfold Builtin.«callable_iterator.__next__»
    refine wpAny_bind (m := slotArgs "__next__" 0 ⟨[.ref fi], []⟩) (wpAny_pure (a := ((Value.ref fi, []) : Value × List Value)) ?_)
    refine wpAny_bind (wpAny_field e1 rfl rfl ?_)
    refine wpAny_bind (m := field (.ref fi) 0) (wpAny_field e1 rfl rfl ?_)
    refine wpAny_bind (wpAny_attempt ?_)
    unfold callOutOfASlot
    refine wpAny_bind (wpAny_borrows e2 e3 hf ?_)
    refine wpAny_callBorrowed ?_
    have K := rcK X p mt s ⟨#[]⟩ s.l (.E H)
    refine (rcK X p mt s ⟨#[]⟩ s.l (.E H)).ok _ s₁ _ ?_ ?_ a3 a4 a5 a6 (fun q hq => a7 q (.tail _ hq)) a8.2 (fun q hq => a9 q (.tail _ hq)) ?_
    · show A.depth ≤ 800; omega
    · show A.units + 1 ≤ 7000; omega
    intro as ts h' tk' la lt hF f1 f2 hK
    have g1 : h'.get? fi = some (iterO mt st) := hK.keep fi _ e1 a8.1
    show wpAny _ _ _ _ _ _
    refine wpAny_bind (wpAny_field g1 rfl rfl ?_)
    refine wpAny_bind (m := field (.ref fi) 1) (wpAny_field g1 rfl rfl ?_)
    refine wpAny_bind (wpAny_holding (wpAny_eqBool_str ?_))
    have hd : decide ((⟨#[]⟩ : Str) = ⟨#[]⟩) = true := rfl
    rw [hd]
    refine wpAny_bind (wpAny_rule ?_)
    have g2 : h'.get? mt = some (methO p.lx) := f2 (mt, methO p.lx) (.head _)
    have g3 : h'.get? 35 = some fo := hK.keep 35 fo e3 (fun hm => by
      obtain ⟨q, hq, e⟩ := List.mem_map.mp hm
      have := a9 q (.tail _ hq)
      rw [e] at this
      rcases this with h | h
      · exact absurd h (by decide)
      · exact absurd h (by decide))
    refine wpAny_bind (wpAny_bind (wpAny_field g1 rfl rfl ?_))
    refine wpAny_bind ?_
    unfold slotLetsGo
    refine wpAny_bind (wpAny_borrows g2 g3 hf ?_)
    refine wpAny_pure ?_
    refine wpAny_bind (wpAny_setField_rec g1 (by simp) fun h1 x1 y1 => ?_)
    refine wpAny_bind (wpAny_setField_rec x1 (by simp) fun h2 x2 y2 => ?_)
    refine (wpAny_setField_rec x2 (by simp) fun h3 x3 y3 => ?_)
    refine wpAny_stop a3 ?_
    have K1 := set_kept (set_kept (set_kept hK y1) y2) y3
    have sz : h3.objs.size = h'.objs.size := by rw [y3.1, y2.1, y1.1]
    have fi0 : fi ∉ (rcG kt p mt s).map Prod.fst := a8.1
    have kp : ∀ q, q ≠ fi → ∀ o, h'.get? q = some o → ((h3.push (tupO [])).push (stopO h3.objs.size)).get? q = some o := fun q hq o ho =>
      Heap.get?_push_of_some _ (Heap.get?_push_of_some _ ((y3.2 q hq).trans ((y2.2 q hq).trans ((y1.2 q hq).trans ho))))
    refine hR [h3.objs.size, h3.objs.size + 1] ts ((h3.push (tupO [])).push (stopO h3.objs.size)) tk' rfl lt ⟨?_, ?_⟩ ?_ ?_ ⟨?_, ?_⟩
    · simp
    · intro a ha
      rw [Heap.size_push, Heap.size_push]
      have := hK.size
      have ha : a = h3.objs.size ∨ a = h3.objs.size + 1 := by simpa using ha
      rcases ha with rfl | rfl
      · exact ⟨sz ▸ this, Nat.lt_succ_of_lt (Nat.lt_succ_self _)⟩
      · exact ⟨Nat.le_succ_of_le (sz ▸ this), Nat.lt_succ_self _⟩
    · intro q hq
      rcases List.mem_cons.mp hq with rfl | hq
      · exact Heap.get?_push_of_some _ (Heap.get?_push_size _ rfl)
      · rcases List.mem_cons.mp hq with rfl | hq
        · have := Heap.get?_push_size (h3.push (tupO [])) (o := stopO h3.objs.size) rfl
          rw [Heap.size_push] at this
          exact this
        · cases hq
    · intro q hq
      rcases List.mem_cons.mp hq with rfl | hq
      · exact Heap.get?_push_of_some _ (Heap.get?_push_of_some _ (by simpa [iterD] using x3))
      · exact kp q.1 (fun e => fi0 (by rw [← e]; exact (List.of_mem_zip (a := q.1) (b := q.2) hq).1)) q.2 (f2 q hq)
    · rw [Heap.size_push, Heap.size_push]
      have := hK.size
      omega
    · intro b o hb hn
      exact kp b (fun e => hn (by rw [e]; exact .head _)) o (hK.keep b o hb (fun hm => hn (.tail _ hm)))
end
end
section
open PySem PySem.Spec PySem.Calls PySem.W PySem.W.X
section
variable {prog : Program} {w : World} {kt : KT}
structure RR where
  n : Int
  l : Int
  tok : Str
  ch : Str
  e : Bool
noncomputable def itO (x : TF) (e : Bool) : Obj := match e with
  | true => iterD
  | false => iterO x.mt x.st
noncomputable def lG (kt : KT) (p : LP) (s : LS) (x : TF) (tok : Str) (tt : Nat) (ch : Str) (ct : Nat) : List (Addr × Obj) := 
  (x.fr, frameO [ent n_self (x.f 0) (.ref p.lx), ent n_token (x.f 1) (.str tok tt), ent n_fiter (x.f 2) (.ref x.fi), ent n_ch (x.f 3) (.str ch ct)] x.ep) ::
  (x.fi, iterO x.mt x.st) :: (x.mt, methO p.lx) :: lexG kt p s
noncomputable def lFr (p : LP) (x : TF) (tok : Str) (ch : Str) (ts : List Nat) : Obj :=
  frameO [ent n_self (x.f 0) (.ref p.lx), ent n_token (x.f 1) (.str tok (nthN ts 2)), ent n_fiter (x.f 2) (.ref x.fi), ent n_ch (x.f 3) (.str ch (nthN ts 3))] x.ep
noncomputable def lPo (kt : KT) (p : LP) (x : TF) (r : RR) (ts : List Nat) : List Obj :=
  lFr p x r.tok r.ch ts :: itO x r.e :: methO p.lx :: lexP kt p ⟨r.n, r.l, nthN ts 0, nthN ts 1⟩
noncomputable def lRes (r : RR) (ts : List Nat) : Result := match r.e with
  | true => .ok .next
  | false => .ok (.ret (.str r.tok (nthN ts 2)))
noncomputable def LOk (prog : Program) (w : World) (kt : KT) (q : Bool) (p : LP) (s : LS) (x : TF) (tok : Str) (tt : Nat) (ch : Str) (ct : Nat) (r : RR) : Prop :=
  CkOk prog w kt (match q with | true => cQ kt x.fi x.fr | false => cU kt x.fi x.fr) 600 5000 (lG kt p s x tok tt ch ct) (fun _ ts => lPo kt p x r ts) 0 (fun _ _ => []) 4 (fun _ ts => lRes r ts)
structure RO where
  n : Int
  l : Int
  e : Bool
  fo : List Nat → Obj
  res : List Nat → Result
noncomputable def oFr (p : LP) (x : TF) (tok : Str) (tt : Nat) : Obj :=
  frameO [ent n_self (x.f 0) (.ref p.lx), ent n_token (x.f 1) (.str tok tt), ent n_fiter (x.f 2) (.ref x.fi)] x.ep
noncomputable def oG0 (kt : KT) (p : LP) (s : LS) (x : TF) (tok : Str) (tt : Nat) : List (Addr × Obj) := 
  (x.fr, oFr p x tok tt) :: (x.fi, iterO x.mt x.st) :: (x.mt, methO p.lx) :: lexG kt p s
noncomputable def oPo (kt : KT) (p : LP) (x : TF) (r : RO) (ts : List Nat) : List Obj :=
  r.fo ts :: itO x r.e :: methO p.lx :: lexP kt p ⟨r.n, r.l, nthN ts 0, nthN ts 1⟩
noncomputable def OOk0 (prog : Program) (w : World) (kt : KT) (p : LP) (s : LS) (x : TF) (tt : Nat) (r : RO) : Prop :=
  CkOk prog w kt (cO kt x.fi x.fr) 500 4000 (oG0 kt p s x ⟨#[]⟩ tt) (fun _ ts => oPo kt p x r ts) 0 (fun _ _ => []) 5 (fun _ ts => r.res ts)
noncomputable def OOk1 (prog : Program) (w : World) (kt : KT) (p : LP) (s : LS) (x : TF) (tt : Nat) (ch : Str) (ct : Nat) (r : RO) : Prop :=
  CkOk prog w kt (cO kt x.fi x.fr) 500 4000 (lG kt p s x ⟨#[]⟩ tt ch ct) (fun _ ts => oPo kt p x r ts) 0 (fun _ _ => []) 5 (fun _ ts => r.res ts)
noncomputable def GTOk (prog : Program) (w : World) (kt : KT) (p : LP) (s : LS) (ep : Nat) (n l : Int) (tok : Str) : Prop :=
  CkOk prog w kt (.call (.ref 42) ⟨[.ref p.lx], []⟩) 420 3000 ((p.pb, listO [] ep) :: lexG kt p s) (fun _ ts => listO [] ep :: lexP kt p ⟨n, l, nthN ts 0, nthN ts 1⟩) 0 (fun _ _ => []) 3 (fun _ ts => .ok (.ret (.str tok (nthN ts 2))))
noncomputable def pAdd (x : Str) (t : Nat) (y : Str) (u : Nat) (h3 : (x ++ y).length ≤ sizeLine) : Ck prog w kt :=
  ⟨.call (.builtin "str.__add__") ⟨[.str x t, .str y u], []⟩, 900, 9000, [], fun _ _ => [], 0, fun _ _ => [], 1, fun _ ts => .ok (.ret (.str (x ++ y) (ts.headD 0))), fun _ s _ _ _ _ _ _ _ _ _ _ hR =>
    code_gives F.slot_str_add (typeIs_str s x t) F.entry_str_add (F.args_str_add_2 _ _) (gives_str_add x y t u) (by
      have e : ∀ v, (v : List Nat) = v := fun _ => rfl
      by_cases h1 : x.length = 0
      · rw [if_pos (by simpa using h1)]
        have hx : x ++ y = y := by
          obtain ⟨⟨l⟩⟩ := x
          cases l with
          | nil => show (⟨#[] ++ y.cps⟩ : Str) = y; simp
          | cons a b => cases h1
        have := hR [] [u] s.heap s.toks rfl rfl (same_fresh _) (fun _ z => nomatch z) (fun _ z => nomatch z) (same_kept _ _)
        rw [hx] at this
        exact this
      · rw [if_neg (by simpa using h1)]
        by_cases h2 : y.length = 0
        · rw [if_pos (by simpa using h2)]
          have hx : x ++ y = x := by
            obtain ⟨⟨l⟩⟩ := y
            cases l with
            | nil => show (⟨x.cps ++ #[]⟩ : Str) = x; simp
            | cons a b => cases h2
          have := hR [] [t] s.heap s.toks rfl rfl (same_fresh _) (fun _ z => nomatch z) (fun _ z => nomatch z) (same_kept _ _)
          rw [hx] at this
          exact this
        · rw [if_neg (by simpa using h2)]
          exact ⟨h3, hR [] [s.toks] s.heap (s.toks + 1) rfl rfl (same_fresh _) (fun _ z => nomatch z) (fun _ z => nomatch z) (same_kept _ _)⟩)⟩
end
section
variable {prog : Program} {w : World} {kt : KT}
noncomputable def lK {q : Bool} {p : LP} {s : LS} {x : TF} {tok : Str} {tt : Nat} {ch : Str} {ct : Nat} {r : RR} (H : LOk prog w kt q p s x tok tt ch ct r) : Ck prog w kt := mkCk H
noncomputable def oK0 {p : LP} {s : LS} {x : TF} {tt : Nat} {r : RO} (H : OOk0 prog w kt p s x tt r) : Ck prog w kt := mkCk H
noncomputable def oK1 {p : LP} {s : LS} {x : TF} {tt : Nat} {ch : Str} {ct : Nat} {r : RO} (H : OOk1 prog w kt p s x tt ch ct r) : Ck prog w kt := mkCk H
noncomputable def gtK {p : LP} {s : LS} {ep : Nat} {n l : Int} {tok : Str} (H : GTOk prog w kt p s ep n l tok) : Ck prog w kt := mkCk H
end
section
noncomputable def xc (x : TF) (j : Int × Nat) : TF := ⟨x.fr, x.fi, x.mt, fun i => match Nat.beq i 3 with | true => j | false => x.f i, x.ep + 1, x.st⟩
end
section
noncomputable def hS (w : World) (s : Str) : Int := if s.cps.isEmpty = true then 0 else PySem.reduceHash (w.params.strHash s.cps)
end
section
noncomputable def roOf (w : World) (p : LP) (x : TF) (r : RR) : RO := ⟨r.n, r.l, r.e, fun ts => lFr p (xc x (hS w n_ch, nthN ts 4)) r.tok r.ch ts, lRes r⟩
noncomputable def roE (p : LP) (x : TF) (n l : Int) : RO := ⟨n, l, true, fun ts => oFr p x ⟨#[]⟩ (nthN ts 2), fun _ => .ok .next⟩
noncomputable def gtX (w : World) (a b c : Addr) (j0 j1 j2 st : Nat) : TF := ⟨a, b, c, fun i => match Nat.beq i 0 with
  | true => (hS w n_self, j0)
  | false => match Nat.beq i 1 with
    | true => (hS w n_token, j1)
    | false => (hS w n_fiter, j2), 3, st⟩
end
end
section
open PySem PySem.Spec PySem.Calls PyProof.Rows PySem.W PySem.W.X
section
variable {prog : Program} {w : World} {kt : KT}
theorem codeAny_fn {A : Around} {R : Result → Shared → Prop} {s : Shared} {id : String} {B : Builtin} {args : List Value} (kind : builtinKind id = none) (plain : plainId id = true)
    (entry : entryFor table id = some B) (ok : argsOk id ⟨args, []⟩)
    (h : wpAny (model prog w) A.in1 (B ⟨args, []⟩) (fun fin s' => ∃ v, fin = .done (.ret v) ∧ R (.ok (.ret v)) s') (fun e s' => R (.error e) s') s) : codeAny (model prog w) A (.call (.builtin id) ⟨args, []⟩) R s := by
  refine codeAny_call_builtin plain entry ?_
  have hfin : wpAny (model prog w) A.in1 (B ⟨args, []⟩) (fun fin s' => match fin with | .done f => R (.ok f) s' | .again c' => c'.quiet = true ∧ codeAny (model prog w) A c' R s') (fun e s' => R (.error e) s') s :=
    wpAny_mono h (fun fin s' h' => by obtain ⟨v, rfl, hv⟩ := h'; exact hv) fun _ _ x => x
  simp only [checkBuiltinCall, kind]
  cases hsig : Manifest.signature? id with
  | none => exact wpAny_pure hfin
  | some sig =>
    simp only [argsOk, hsig] at ok
    have h2 : Bind.checkArgs id sig ⟨args, []⟩ = pure () := ok
    show wpAny _ _ (Bind.checkArgs id sig ⟨args, []⟩) _ _ s
    rw [h2]; exact wpAny_pure hfin
theorem code_len {A : Around} {R : Result → Shared → Prop} {s : Shared} {T id : String} {B : Builtin} {v : Value} {n : Int} (hT : s.TypeIs v T) (slot : Slot T "__len__" id)
    (entry : entryFor table id = some B) (args : argsOk id ⟨[v], []⟩) (g : Meets (B ⟨[v], []⟩) (fun _ R s => R (.ok (.ret (.int n s.toks))) { s with toks := s.toks + 1 })) (h0 : ¬ n < 0) (hfit : ¬ n ≥ 2 ^ 63)
    (h : R (.ok (.ret (.int n (s.toks + 1)))) { s with toks := s.toks + 1 + 1 }) : codeAny (model prog w) A (.call (.builtin "len") ⟨[v], []⟩) R s := by
  refine codeAny_fn kind_len plain_len entry_len (args_len1 _) ?_
  unfold Builtin.«len»
  refine wpAny_bind (m := oneArg "len" _) (wpAny_pure ?_)
  refine wpAny_bind (m := callSpecial? v (Str.ofString "__len__")) (wpAny_callSpecial?_slot (name := Str.ofString "__len__") hT slot (call_meets slot hT entry args g ?_))
  show wpAny _ _ _ _ _ { s with toks := s.toks + 1 }
  refine wpAny_bind (wpAny_holding (wpAny_pure ?_))
  refine wpAny_bind (wpAny_letGo ?_)
  show wpAny _ _ (if n < 0 then _ else _) _ _ _
  rw [if_neg h0]
  show wpAny _ _ (if n ≥ 2 ^ 63 then _ else _) _ _ _
  rw [if_neg hfit]
  exact wpAny_bind (wpAny_mkInt (wpAny_pure ⟨_, rfl, h⟩))
noncomputable def pLenS (x : Str) (t : Nat) (h : ((x.length : Nat) : Int) < 2 ^ 63) : Ck prog w kt :=
  ⟨.call (.builtin "len") ⟨[.str x t], []⟩, 900, 9000, [], fun _ _ => [], 0, fun _ _ => [], 1, fun _ ts => .ok (.ret (.int (x.length : Nat) (nthN ts 0))), fun A s R _ _ _ _ _ _ _ _ _ hR =>
    code_len (typeIs_str s x t) F.slot_str_len F.entry_str_len (F.args_str_len_1 _) (fun prog w A R s h => gives_str_len x t prog w A R s h) (by omega) (by omega) (hR [] [s.toks + 1] s.heap (s.toks + 1 + 1) rfl rfl (same_fresh _) (fun _ z => nomatch z) (fun _ z => nomatch z) (same_kept _ _))⟩
noncomputable def pStrI (x : Str) (t : Nat) (i : Int) (u : Nat) (c : Nat) (hr : (decide (i < -(2 ^ 63 : Int)) || decide (i ≥ 2 ^ 63)) = false) (h : (seqIndex? i x.length).bind (x.cps[·]?) = some c) : Ck prog w kt :=
  ⟨.call (.builtin "str.__getitem__") ⟨[.str x t, .int i u], []⟩, 900, 9000, [], fun _ _ => [], 0, fun _ _ => [], 1, fun _ ts => .ok (.ret (.str ⟨#[c]⟩ (nthN ts 0))), fun A s R _ _ _ _ _ _ _ _ _ hR =>
    code_gives F.slot_str_getitem (typeIs_str s x t) F.entry_str_getitem (F.args_str_getitem_2 _ _) (gives_str_getitem x i t u c hr h) ⟨len1 c, hR [] [s.toks] s.heap (s.toks + 1) rfl rfl (same_fresh _) (fun _ z => nomatch z) (fun _ z => nomatch z) (same_kept _ _)⟩⟩
noncomputable def rangeO (a b c : Int) (t u v : Nat) : Obj := ⟨.type "range", none, .fields #[.int a t, .int b u, .int c v], #[]⟩
noncomputable def rIterO (x left step : Int) : Obj := ⟨.type "range_iterator", none, .fields #[rawInt x, rawInt left, rawInt step], #[]⟩
noncomputable def pRangeIter (r : Addr) (b : Int) (t u v : Nat) (h0 : 0 ≤ b) (h1 : b < 2 ^ 62) : Ck prog w kt where
  c := .call (.builtin "range.__iter__") ⟨[.ref r], []⟩
  dep := 900
  uni := 9000
  rd := [(r, rangeO 0 b 1 t u v)]
  po := fun _ _ => [rangeO 0 b 1 t u v]
  na := 1
  nw := fun _ _ => [rIterO 0 b 1]
  nt := 0
  res := fun as _ => .ok (.ret (.ref (nthN as 0)))
  ok := by
    intro A s R _ _ _ _ _ _ hrd _ _ hR
    have e := hrd _ (.head _)
    have hT : s.TypeIs (.ref r) "range" := ⟨_, e, rfl⟩
    have hsz : Builtin.Range.rangeSize 0 b 1 = b := by
      unfold Builtin.Range.rangeSize
      simp
      omega
    have hsmall : Builtin.Range.small 0 b 1 = true := by
      unfold Builtin.Range.small
      rw [hsz]
      simp [Builtin.Range.rangeFitsLong]
      omega
    refine code_meets F.slot_range_iter hT F.entry_range_iter (F.args_range_iter_1 _) (AutoRange.range___iter___range_1 r 0 b 1 t u v (by intro z; have hh : (!Builtin.Range.small 0 b 1) = true := z; rw [hsmall] at hh; cases hh)) ⟨e, ?_⟩
    unfold Builtin.Range.small at hsmall
    simp only [hsmall, if_true]
    refine hR [s.heap.objs.size] [] _ _ rfl rfl ⟨by simp, fun a ha => ?_⟩ (fun q hq => ?_) (fun q hq => ?_) ⟨?_, fun b' o' hb _ => Heap.get?_push_of_some _ hb⟩
    · have : a = s.heap.objs.size := by simpa using ha
      subst this
      rw [Heap.size_push]
      exact ⟨Nat.le_refl _, Nat.lt_succ_self _⟩
    · rcases List.mem_cons.mp hq with rfl | hq
      · have := Heap.get?_push_size s.heap (o := rIterO 0 (Builtin.Range.rangeSize 0 b 1) 1) rfl
        rw [hsz] at this
        rw [hsz]
        exact this
      · cases hq
    · rcases List.mem_cons.mp hq with rfl | hq
      · exact Heap.get?_push_of_some _ e
      · cases hq
    · rw [Heap.size_push]; exact Nat.le_succ _
noncomputable def pRangeNext (it : Addr) (x left step : Int) (h : 0 < left) : Ck prog w kt where
  c := .call (.builtin "range_iterator.__next__") ⟨[.ref it], []⟩
  dep := 900
  uni := 9000
  rd := [(it, rIterO x left step)]
  po := fun _ _ => [rIterO (x + step) (left - 1) step]
  na := 0
  nw := fun _ _ => []
  nt := 1
  res := fun _ ts => .ok (.ret (.int x (nthN ts 0)))
  ok := by
    intro A s R _ _ _ _ _ _ hrd _ _ hR
    have e := hrd _ (.head _)
    have hT : s.TypeIs (.ref it) "range_iterator" := ⟨_, e, rfl⟩
    refine code_meets F.slot_range_iterator_next hT F.entry_range_iterator_next (F.args_range_iterator_next_1 _) (AutoRange.range_iterator___next___range_iterator_1 it x left step (by omega)) ⟨e, ?_⟩
    have e2 := Heap.get?_update_self (h := s.heap.update it (Obj.mapFields fun x_1 => x_1.setIfInBounds 0 (rawInt (x + step)))) (fun o => Obj.mapFields (fun x => x.setIfInBounds 1 (rawInt (left - 1))) o) (Heap.get?_update_self _ e rfl) rfl
    have sb : Heap.SameBut it s.heap ((s.heap.update it (Obj.mapFields fun x_1 => x_1.setIfInBounds 0 (rawInt (x + step)))).update it (Obj.mapFields fun x => x.setIfInBounds 1 (rawInt (left - 1)))) := (Heap.SameBut.update ..).trans (Heap.SameBut.update ..)
    refine hR [] [s.toks] _ _ rfl rfl ⟨List.nodup_nil, fun _ z => nomatch z⟩ (fun _ z => nomatch z) (fun q hq => ?_) ⟨by rw [sb.1]; exact Nat.le_refl _, fun b o hb hn => (sb.2 b (fun z => hn (by rw [z]; exact .head _))).trans hb⟩
    rcases List.mem_cons.mp hq with rfl | hq
    · exact e2
    · cases hq
noncomputable def pRangeEnd (it : Addr) (x left step : Int) (h : left ≤ 0) : Ck prog w kt where
  c := .call (.builtin "range_iterator.__next__") ⟨[.ref it], []⟩
  dep := 900
  uni := 9000
  rd := [(it, rIterO x left step)]
  po := fun _ _ => [rIterO x left step]
  na := 2
  nw := fun as _ => [tupO [], stopO (nthN as 0)]
  nt := 0
  res := fun as _ => .error (.ref (nthN as 1))
  ok := by
    intro A s R _ _ a3 _ _ _ hrd _ _ hR
    have e := hrd _ (.head _)
    have hT : s.TypeIs (.ref it) "range_iterator" := ⟨_, e, rfl⟩
    refine codeAny_call_builtin F.slot_range_iterator_next.plain F.entry_range_iterator_next (F.slot_range_iterator_next.check _ _ _ _ _ _ _ _ hT (F.args_range_iterator_next_1 _) ?_)
    show wpAny _ _ (field (.ref it) 0 >>= _) _ _ s
    refine wpAny_bind (wpAny_field e rfl (x := rawInt x) rfl ?_)
    show wpAny _ _ (field (.ref it) 1 >>= _) _ _ s
    refine wpAny_bind (wpAny_field e rfl (x := rawInt left) rfl ?_)
    show wpAny _ _ (field (.ref it) 2 >>= _) _ _ s
    refine wpAny_bind (wpAny_field e rfl (x := rawInt step) rfl ?_)
    show wpAny _ _ (if left ≤ 0 then _ else _) _ _ s
    rw [if_pos h]
    refine wpAny_bind (wpAny_rule ?_)
    refine wpAny_bind ?_
    refine wpAny_stop a3 ?_
    have kp : ∀ q o, s.heap.get? q = some o → ((s.heap.push (tupO [])).push (stopO s.heap.objs.size)).get? q = some o := fun q o ho => Heap.get?_push_of_some _ (Heap.get?_push_of_some _ ho)
    refine hR [s.heap.objs.size, s.heap.objs.size + 1] [] ((s.heap.push (tupO [])).push (stopO s.heap.objs.size)) s.toks rfl rfl ⟨by simp, fun a ha => ?_⟩ (fun q hq => ?_) (fun q hq => ?_) ⟨?_, fun b o hb _ => kp b o hb⟩
    · rw [Heap.size_push, Heap.size_push]
      have ha : a = s.heap.objs.size ∨ a = s.heap.objs.size + 1 := by simpa using ha
      rcases ha with rfl | rfl
      · exact ⟨Nat.le_refl _, Nat.lt_succ_of_lt (Nat.lt_succ_self _)⟩
      · exact ⟨Nat.le_succ _, Nat.lt_succ_self _⟩
    · rcases List.mem_cons.mp hq with rfl | hq
      · exact Heap.get?_push_of_some _ (Heap.get?_push_size _ rfl)
      · rcases List.mem_cons.mp hq with rfl | hq
        · have := Heap.get?_push_size (s.heap.push (tupO [])) (o := stopO s.heap.objs.size) rfl
          rw [Heap.size_push] at this
          exact this
        · cases hq
    · rcases List.mem_cons.mp hq with rfl | hq
      · exact kp _ _ e
      · cases hq
    · rw [Heap.size_push, Heap.size_push]; omega
end
end
section
open PySem PySem.Spec PySem.Calls PyProof.Rows PySem.W PySem.W.X
section
variable {prog : Program} {w : World} {kt : KT}
noncomputable abbrev n_word : Str := ⟨#[119, 111, 114, 100]⟩
noncomputable abbrev n_way : Str := ⟨#[119, 97, 121]⟩
noncomputable abbrev n_body : Str := ⟨#[98, 111, 100, 121]⟩
noncomputable abbrev n_k : Str := ⟨#[107]⟩
noncomputable abbrev n_must : Str := ⟨#[109, 117, 115, 116]⟩
noncomputable def sP (kt : KT) : Stmt := nthS (bodyOf kt 77) 1
noncomputable def cP (kt : KT) (it fr : Addr) : Code := forC (sP kt) (.ref it) (envOf kt 77 76 fr)
structure PF where
  fr : Addr
  it : Addr
  f : Nat → Int × Nat
  ep : Nat
structure PZ where
  r : Str
  k : Int
  m : Bool
  i : Int
  l : Int
noncomputable def pcFr (x : PF) (word : Str) (wt : Nat) (way : Int) (yt : Nat) (body : Str) (bt : Nat) (k : Int) (kt : Nat) (m : Bool) : Obj :=
  frameO [ent n_word (x.f 0) (.str word wt), ent n_way (x.f 1) (.int way yt), ent n_body (x.f 2) (.str body bt), ent n_k (x.f 3) (.int k kt), ent n_must (x.f 4) (.bool m)] x.ep
noncomputable def pcFr0 (x : PF) (word : Str) (wt : Nat) (way : Int) (yt : Nat) (body : Str) (bt : Nat) : Obj :=
  frameO [ent n_word (x.f 0) (.str word wt), ent n_way (x.f 1) (.int way yt), ent n_body (x.f 2) (.str body bt)] x.ep
noncomputable def pcG (x : PF) (word : Str) (wt : Nat) (way : Int) (yt : Nat) (body : Str) (bt : Nat) (k : Int) (kt : Nat) (m : Bool) (i l : Int) : List (Addr × Obj) := [(x.fr, pcFr x word wt way yt body bt k kt m), (x.it, rIterO i l 1)]
noncomputable def pcG0 (x : PF) (word : Str) (wt : Nat) (way : Int) (yt : Nat) (body : Str) (bt : Nat) (i l : Int) : List (Addr × Obj) := [(x.fr, pcFr0 x word wt way yt body bt), (x.it, rIterO i l 1)]
noncomputable def pcPo (x : PF) (word : Str) (wt : Nat) (way : Int) (yt : Nat) (z : PZ) (ts : List Nat) : List Obj := [pcFr x word wt way yt z.r (nthN ts 0) z.k (nthN ts 1) z.m, rIterO z.i z.l 1]
noncomputable def PcOk (prog : Program) (w : World) (kt : KT) (x : PF) (word : Str) (wt : Nat) (way : Int) (yt : Nat) (body : Str) (bt : Nat) (k : Int) (kk : Nat) (m : Bool) (i l : Int) (z : PZ) : Prop :=
  CkOk prog w kt (cP kt x.it x.fr) 500 4000 (pcG x word wt way yt body bt k kk m i l) (fun _ ts => pcPo x word wt way yt z ts) 0 (fun _ _ => []) 2 (fun _ _ => .ok .next)
noncomputable def pfx (w : World) (x : PF) (j3 j4 : Nat) : PF := ⟨x.fr, x.it, fun i => match Nat.beq i 3 with
  | true => (hS w n_k, j3)
  | false => match Nat.beq i 4 with
    | true => (hS w n_must, j4)
    | false => x.f i, x.ep + 1 + 1⟩
noncomputable def PcOk0 (prog : Program) (w : World) (kt : KT) (x : PF) (word : Str) (wt : Nat) (way : Int) (yt : Nat) (body : Str) (bt : Nat) (i l : Int) (z : PZ) : Prop :=
  CkOk prog w kt (cP kt x.it x.fr) 500 4000 (pcG0 x word wt way yt body bt i l) (fun _ ts => pcPo (pfx w x (nthN ts 2) (nthN ts 3)) word wt way yt z ts) 0 (fun _ _ => []) 4 (fun _ _ => .ok .next)
noncomputable def pcK {x : PF} {word : Str} {wt : Nat} {way : Int} {yt : Nat} {body : Str} {bt : Nat} {k : Int} {kk : Nat} {m : Bool} {i l : Int} {z : PZ} (H : PcOk prog w kt x word wt way yt body bt k kk m i l z) : Ck prog w kt := mkCk H
noncomputable def pcK0 {x : PF} {word : Str} {wt : Nat} {way : Int} {yt : Nat} {body : Str} {bt : Nat} {i l : Int} {z : PZ} (H : PcOk0 prog w kt x word wt way yt body bt i l z) : Ck prog w kt := mkCk H
theorem len_app (x y : Str) : (x ++ y).length = x.length + y.length := by
  show (x.cps ++ y.cps).size = _
  rw [Array.size_append]; rfl
theorem sz1 {body : Str} (c : Nat) (h : body.length + 2 ≤ sizeLine) : (body ++ (⟨#[c]⟩ : Str)).length ≤ sizeLine := by
  rw [len_app]; show body.length + 1 ≤ _; omega
theorem sz2 {body : Str} (c d : Nat) (h : body.length + 2 ≤ sizeLine) : (body ++ (⟨#[c]⟩ : Str) ++ (⟨#[d]⟩ : Str)).length ≤ sizeLine := by
  rw [len_app, len_app]; show body.length + 1 + 1 ≤ _; omega
noncomputable def pEqI (x : Int) (t : Nat) (y : Int) (u : Nat) (b : Bool) (h : (x == y) = b) : Ck prog w kt :=
  pVal (.call (.builtin "int.__eq__") ⟨[.int x t, .int y u], []⟩) (.bool b) fun _ s _ hR =>
    code_gives F.slot_int_eq (typeIs_int s x t) F.entry_int_eq (F.args_int_eq_2 _ _) (gives_int_eq x y t u) (by rw [h]; exact hR)
noncomputable abbrev blNl : Str := ⟨#[32, 10]⟩
theorem in2 {c : Nat} (h : c = 32 ∨ c = 10) : (!(Builtin.Str.occurrences blNl ⟨#[c]⟩ 0 blNl.length 1).isEmpty) = true := (StrLaws.found_one blNl c).trans (decide_eq_true (by show c ∈ [32, 10]; simpa using h))
theorem not2 {c : Nat} (h : ¬ (c = 32 ∨ c = 10)) : (!(Builtin.Str.occurrences blNl ⟨#[c]⟩ 0 blNl.length 1).isEmpty) = false := (StrLaws.found_one blNl c).trans (decide_eq_false (by show ¬ c ∈ [32, 10]; simpa using h))
end
end
section
open PySem PySem.Spec PySem.Calls PyProof.Rows PySem.W PySem.W.X
section
variable {prog : Program} {w : World} {kt : KT}
noncomputable def pf0 (w : World) (fr it : Addr) (j0 j1 j2 : Nat) : PF := ⟨fr, it, fun i => match Nat.beq i 0 with
  | true => (hS w n_word, j0)
  | false => match Nat.beq i 1 with
    | true => (hS w n_way, j1)
    | false => (hS w n_body, j2), 3⟩
noncomputable def leadOf (q : Nat) : Str := match q with
  | 0 => ⟨#[]⟩
  | 1 => ⟨#[9]⟩
  | 2 => ⟨#[10]⟩
  | _ => ⟨#[13, 32]⟩
theorem lead_len (q : Nat) : (leadOf q).length ≤ 2 := by
  match q with
  | 0 => exact Nat.zero_le _
  | 1 => exact Nat.le_succ _
  | 2 => exact Nat.le_succ _
  | _ + 3 => exact Nat.le_refl _
theorem len_1 (c : Nat) : (⟨#[c]⟩ : Str).length = 1 := rfl
theorem szA {b : Str} (q c : Nat) (h : b.length + 9 ≤ sizeLine) : (leadOf q ++ (⟨#[c]⟩ : Str)).length ≤ sizeLine := by
  have := lead_len q; rw [len_app, len_1]; omega
theorem szB {b : Str} (q c : Nat) (h : b.length + 9 ≤ sizeLine) : (leadOf q ++ (⟨#[c]⟩ : Str) ++ b).length ≤ sizeLine := by
  have := lead_len q; rw [len_app, len_app, len_1]; omega
theorem szC {b : Str} (q c d : Nat) (h : b.length + 9 ≤ sizeLine) : (leadOf q ++ (⟨#[c]⟩ : Str) ++ b ++ (⟨#[d]⟩ : Str)).length ≤ sizeLine := by
  have := lead_len q; rw [len_app, len_app, len_app, len_1, len_1]; omega
theorem szD {b : Str} (q : Nat) (h : b.length + 9 ≤ sizeLine) : (leadOf q ++ b).length ≤ sizeLine := by
  have := lead_len q; rw [len_app]; omega
theorem szE {b : Str} (q c : Nat) (h : b.length + 9 ≤ sizeLine) : (leadOf q ++ b ++ (⟨#[c]⟩ : Str)).length ≤ sizeLine := by
  have := lead_len q; rw [len_app, len_app, len_1]; omega
theorem list_is {s : Shared} {l : Addr} {vs : List Value} {n : Nat} (h : s.heap.get? l = some (listO vs n)) : s.heap.IsList l ⟨vs⟩ := ⟨_, h, congrArg Value.type SL.e9222952809800978799x4.symm, _, rfl⟩
noncomputable def pListI (l : Addr) (vs : List Value) (n : Nat) (k : Int) (t : Nat) (x : Value) (h0 : 0 ≤ k) (hfit : k < 2 ^ 63) (hx : vs[k.toNat]? = some x) : Ck prog w kt where
  c := .call (.builtin "list.__getitem__") ⟨[.ref l, .int k t], []⟩
  dep := 900
  uni := 9000
  rd := [(l, listO vs n)]
  po := fun _ _ => [listO vs n]
  na := 0
  nw := fun _ _ => []
  nt := 0
  res := fun _ _ => .ok (.ret x)
  ok := by
    intro A s R _ _ _ _ _ _ hrd _ _ hR
    have e := hrd _ (.head _)
    have hl := list_is e
    obtain ⟨o, ho, hc, ne, hd⟩ := id hl
    refine codeAny_call_builtin slot_list_getitem.plain entry_list_getitem (slot_list_getitem.check _ _ _ _ _ _ _ _ hl.typeIs (args_list_getitem _ _) ?_)
    show wpAny _ _ (Builtin.List.listSubscript? (.int k t) >>= _) _ _ s
    refine wpAny_bind (wpAny_listSubscript_int (fitsIndex_of h0 hfit) ?_)
    clear hfit
    obtain ⟨j, rfl⟩ := Int.eq_ofNat_of_zero_le h0
    have hx' : (⟨vs⟩ : Array Value)[j]? = some x := by have z : vs[j]? = some x := hx; simpa using z
    show wpAny _ _ ((seqItemAt l j >>= fun r => pure (r.map (j, ·))) >>= _) _ _ s
    refine wpAny_bind (wpAny_bind (wpAny_seqItemAt ho hd (wpAny_pure ?_)))
    rw [hx']
    have fin := hR [] [] s.heap s.toks rfl rfl (same_fresh _) (fun _ z => nomatch z) (fun q hq => by
      rcases List.mem_cons.mp hq with rfl | hq
      · exact e
      · cases hq) (same_kept _ _)
    first
      | exact wpAny_bind (wpAny_pure (wpAny_pure fin))
      | exact wpAny_pure fin
noncomputable def pInL (l : Addr) (vs : List Value) (n : Nat) (ns : List Int) (hi : intsOf vs = some ns) (k : Int) (t : Nat) (b : Bool) (hb : ns.any (· == k) = b) : Ck prog w kt where
  c := .call (.builtin "list.__contains__") ⟨[.ref l, .int k t], []⟩
  dep := 900
  uni := 9000
  rd := [(l, listO vs n)]
  po := fun _ _ => [listO vs n]
  na := 0
  nw := fun _ _ => []
  nt := 0
  res := fun _ _ => .ok (.ret (.bool b))
  ok := by
    intro A s R _ _ _ _ _ _ hrd _ _ hR
    have e := hrd _ (.head _)
    have e' : s.heap.get? l = some ⟨.type "list", none, .seq ⟨vs⟩ n, #[]⟩ := by rw [SL.e9222952809800978799x4]; exact e
    have hi' := intsOf_are hi
    refine code_meets F.slot_list_contains ⟨_, e', rfl⟩ F.entry_list_contains (F.args_list_contains_2 _ _) (PySem.SeqAt.list_containsAt l ⟨vs⟩ n none #[] (.int k t) (isInt k)) ⟨e', fun y hy => (eq_isInt k t hi' y (by simpa using hy)).at _ _, ?_⟩
    have hh : (⟨vs⟩ : Array Value).any (isInt k) = b := by
      rw [← hb, ← any_isInt k hi']; simp
    rw [hh]
    exact hR [] [] s.heap s.toks rfl rfl (same_fresh _) (fun _ z => nomatch z) (fun q hq => by
      rcases List.mem_cons.mp hq with rfl | hq
      · exact e
      · cases hq) (same_kept _ _)
theorem lead4 (t0 t1 t2 t3 : Nat) : ∀ q, q < 4 → ([.str ⟨#[]⟩ t0, .str ⟨#[9]⟩ t1, .str ⟨#[10]⟩ t2, .str ⟨#[13, 32]⟩ t3] : List Value)[((q : Nat) : Int).toNat]? = some (.str (leadOf q) (nthN [t0, t1, t2, t3] q))
  | 0, _ => rfl
  | 1, _ => rfl
  | 2, _ => rfl
  | 3, _ => rfl
  | n + 4, h => absurd h (by omega)
end
end
section
open PySem PySem.Spec PySem.Calls PyProof.Rows PySem.W PySem.W.X
section
variable {prog : Program} {w : World} {kt : KT}
theorem fresh1 (h : Heap) (o : Obj) : Fresh h (h.push o) [h.objs.size] := ⟨by simp, fun a ha => by
  have : a = h.objs.size := by simpa using ha
  subst this
  rw [Heap.size_push]
  exact ⟨Nat.le_refl _, Nat.lt_succ_self _⟩⟩
theorem facts1 {h : Heap} {o : Obj} (hf : o.isFreed = false) : Facts (h.push o) ([h.objs.size].zip [o]) := fun q hq => by
  rcases List.mem_cons.mp hq with rfl | hq
  · exact Heap.get?_push_size _ hf
  · cases hq
theorem factsP {h : Heap} {o : Obj} {l : List (Addr × Obj)} (f : Facts h l) : Facts (h.push o) l := fun q hq => Heap.get?_push_of_some _ (f q hq)
theorem keptP (ks : List Addr) (h : Heap) (o : Obj) : KeptBut ks h (h.push o) := ⟨by rw [Heap.size_push]; exact Nat.le_succ _, fun b o' hb _ => Heap.get?_push_of_some _ hb⟩
theorem zip_same : ∀ (l : List (Addr × Obj)), (l.map Prod.fst).zip (l.map Prod.snd) = l
  | [] => rfl
  | x :: r => by rw [List.map_cons, List.map_cons, List.zip_cons_cons, zip_same r]
noncomputable def pIntT (x : Str) (t : Nat) (n : Int) (hl : x.length ≤ 640) (hn : PySem.intText? x = some n) : Ck prog w kt :=
  ⟨.call (.builtin "int.__new__") ⟨[.type "int", .str x t], []⟩, 900, 9000, [], fun _ _ => [], 0, fun _ _ => [], 1, fun _ ts => .ok (.ret (.int n (nthN ts 0))), fun A s R _ _ _ _ _ _ _ _ _ hR => by
    refine codeAny_call_builtin (by decide +kernel) F.entry_int_new ?_
    rw [F.newCall_int_1]
    refine wpAny_pure ?_
    exact PySem.W.KIN.gives_text hl hn prog w A R s (hR [] [s.toks] s.heap (s.toks + 1) rfl rfl (same_fresh _) (fun _ z => nomatch z) (fun _ z => nomatch z) (same_kept _ _))⟩
noncomputable abbrev strI (n : Int) : Str := PySem.Str.ofString (toString n)
noncomputable def pRepr (n : Int) (t : Nat) (h : n.natAbs.log2 < 1920) (h2 : (strI n).length ≤ sizeLine) : Ck prog w kt :=
  ⟨.call (.builtin "int.__repr__") ⟨[.int n t], []⟩, 900, 9000, [], fun _ _ => [], 0, fun _ _ => [], 1, fun _ ts => .ok (.ret (.str (strI n) (nthN ts 0))), fun A s R _ _ _ _ _ _ _ _ _ hR =>
    code_gives F.slot_int_repr (typeIs_int s n t) F.entry_int_repr (F.args_int_repr_1 _) (gives_int_repr n t h) ⟨h2, hR [] [s.toks] s.heap (s.toks + 1) rfl rfl (same_fresh _) (fun _ z => nomatch z) (fun _ z => nomatch z) (same_kept _ _)⟩⟩
structure Parts (x y u v : Str) : Prop where
  h1 : (decide (x.length < y.length) || decide (Builtin.Str.strKind x < Builtin.Str.strKind y)) = false
  hy : (y.length == 0) = false
  hf : (Builtin.Str.occurrences x y 0 x.length (x.length + 1)).isEmpty = false
  hx : x.length ≤ sizeLine
  hp : Builtin.Str.partsBetween x (Builtin.Str.occurrences x y 0 x.length (x.length + 1)) y.length = [u, v]
noncomputable def pSplit (x : Str) (t : Nat) (y : Str) (u : Nat) (a b : Str) (H : Parts x y a b) : Ck prog w kt where
  c := .call (.builtin "str.split") ⟨[.str x t, .str y u], []⟩
  dep := 900
  uni := 9000
  rd := []
  po := fun _ _ => []
  na := 1
  nw := fun _ ts => [listO [.str a (nthN ts 0), .str b (nthN ts 1)] 0]
  nt := 2
  res := fun as _ => .ok (.ret (.ref (nthN as 0)))
  ok := by
    intro A s R _ _ _ _ _ _ _ _ _ hR
    refine code_meets F.slot_str_split (typeIs_str s x t) F.entry_str_split (F.args_str_split_2 _ _) (meets_str_split_sep x y t u H.h1 H.hy H.hf H.hx (by rw [H.hp]; show 2 ≤ sizeLine; decide)) ?_
    rw [H.hp]
    have e : (⟨.type "list", none, .seq (strsFrom s.toks [a, b]).toArray 0, #[]⟩ : Obj) = listO [.str a s.toks, .str b (s.toks + 1)] 0 := by rw [SL.e9222952809800978799x4]; rfl
    have := hR [s.heap.objs.size] [s.toks, s.toks + 1] (s.heap.push (listO [.str a s.toks, .str b (s.toks + 1)] 0)) (s.toks + 2) rfl rfl (fresh1 ..) (facts1 rfl) (fun _ z => nomatch z) (keptP ..)
    rw [← e] at this
    exact this
end
end
section
open PySem PySem.Spec PySem.Calls PyProof.Rows PySem.W PySem.W.X
section
variable {prog : Program} {w : World} {kt : KT}
theorem ne_self (c : Nat) : ((⟨#[c]⟩ : Str).cps.toList != (⟨#[c]⟩ : Str).cps.toList) = false := by
  show ([c] != [c]) = false
  simp
theorem ne_1 {c d : Nat} (h : c ≠ d) : ((⟨#[c]⟩ : Str).cps.toList != (⟨#[d]⟩ : Str).cps.toList) = true := by
  show ([c] != [d]) = true
  simp [h]
theorem ne_1' {c d : Nat} (h : c ≠ d) : ((⟨#[d]⟩ : Str).cps.toList != (⟨#[c]⟩ : Str).cps.toList) = true := ne_1 (Ne.symm h)
theorem ne_str (x : Str) : (x.cps.toList != x.cps.toList) = false := by simp
noncomputable abbrev n_search : Str := ⟨#[115, 101, 97, 114, 99, 104]⟩
noncomputable abbrev n_span : Str := ⟨#[115, 112, 97, 110]⟩
noncomputable abbrev n_begin : Str := ⟨#[98, 101, 103, 105, 110]⟩
noncomputable abbrev n_later : Str := ⟨#[108, 97, 116, 101, 114]⟩
noncomputable abbrev n_hit : Str := ⟨#[104, 105, 116]⟩
noncomputable abbrev n_place : Str := ⟨#[112, 108, 97, 99, 101]⟩
noncomputable abbrev n_chars : Str := ⟨#[99, 104, 97, 114, 115]⟩
noncomputable abbrev n_cuts : Str := ⟨#[99, 117, 116, 115]⟩
noncomputable abbrev n_figures : Str := ⟨#[102, 105, 103, 117, 114, 101, 115]⟩
noncomputable abbrev n_bars : Str := ⟨#[98, 97, 114, 115]⟩
noncomputable abbrev q_search : Str := ⟨#[95, 108, 97, 119, 95, 112, 114, 111, 103, 114, 97, 109, 46, 60, 108, 111, 99, 97, 108, 115, 62, 46, 115, 101, 97, 114, 99, 104]⟩
noncomputable abbrev s_file : Str := ⟨#[47, 99, 108, 97, 105, 109, 47, 99, 117, 116, 46, 112, 121]⟩
noncomputable abbrev q_lam : Str := ⟨#[95, 108, 97, 119, 95, 112, 114, 111, 103, 114, 97, 109, 46, 60, 108, 111, 99, 97, 108, 115, 62, 46, 115, 101, 97, 114, 99, 104, 46, 60, 108, 111, 99, 97, 108, 115, 62, 46, 60, 108, 97, 109, 98, 100, 97, 62]⟩
noncomputable abbrev n_lam : Str := ⟨#[60, 108, 97, 109, 98, 100, 97, 62]⟩
structure WC where
  (sc st lc : Addr)
  e : Nat → Nat
  v : Nat → Value
noncomputable def scO (c : WC) : Obj := ⟨.type SL.s5856160107412720595x4, none, .fields #[.str n_search (c.e 19), .str q_search (c.e 20), .str s_file (c.e 21), .int 93 0, .int 2 0, .int 0 0, .int 0 0, .int 19 0, c.v 18, .bool true, .int 181 0, .ref c.st, .none, .none, .none, c.v 25, .int (c.e 22) 0, .int 93 0, .str s_file (c.e 23)], #[]⟩
noncomputable def lcO (c : WC) : Obj := ⟨.type SL.s5856160107412720595x4, none, .fields #[c.v 40, .str q_lam (c.e 41), c.v 42, c.v 43, c.v 44, c.v 45, c.v 46, c.v 47, c.v 48, c.v 49, c.v 50, c.v 51, c.v 52, c.v 53, c.v 54, c.v 55, c.v 56, c.v 57, c.v 58], #[]⟩
noncomputable def tabO (x y : Int) (a : Addr) : Obj := ⟨.none, none, .fields #[.int x 0, .int y 0, .ref a], #[]⟩
noncomputable def wcG (c : WC) : List (Addr × Obj) := [(86, tabO 93 4 c.sc), (c.sc, scO c), (c.st, tabO 103 19 c.lc), (c.lc, lcO c)]
structure PP where
  (pr d sf cF cC cB cu df ct : Addr)
  (c0 c1 c2 c3 : Nat)
  ft : Nat
  e : Nat → Int × Nat
  v : Nat → Value
  kt : Nat → Nat
  (ep0 ep2 dt : Nat)
noncomputable def PP.f (p : PP) : Str := ⟨#[p.c0, p.c1, p.c2, p.c3]⟩
noncomputable def searchFd (kt : KT) (c : WC) (p : PP) : FuncData := { defIn kt 89 1 with qualname := q_search, closure := [(n_figures, p.cF), (n_cuts, p.cC), (n_bars, p.cB)], defaults := .ref p.df, pyModule := m_law, code := .ref c.sc, closureTuple := .ref p.ct }
noncomputable def sgG (kt : KT) (c : WC) (p : PP) (b : Bool) (cuts : List Value) : List (Addr × Obj) := [
  (p.sf, funO (searchFd kt c p)),
  (p.cF, cellO (.str p.f p.ft)),
  (p.cC, cellO (.ref p.cu)),
  (p.cB, cellO (.bool b)),
  (p.cu, listO cuts p.ep2),
  (p.df, tupO [.int 0 p.dt])]
noncomputable def pgG (kt : KT) (c : WC) (p : PP) (b : Bool) (cuts : List Value) : List (Addr × Obj) := (p.pr, instO p.d) ::
  (p.d, dictO [ent n_lineno (p.e 0) (p.v 0), ent n_instream (p.e 1) (p.v 1), ent n_whitespace (p.e 2) (p.v 2), ent n_pushback (p.e 3) (p.v 3), ent n_search (p.e 4) (.ref p.sf)] p.ep0) :: sgG kt c p b cuts
noncomputable def restV : List Int → List Nat → List Value
  | [], _ => []
  | x :: r, ts => .int x (nthN ts 0) :: restV r (match ts with
    | _ :: u => u
    | [] => [])
structure HP where
  (h dh sp cb cl ll ct pb : Addr)
  (i j : Int)
  rs : List Int
  ts : List Nat
noncomputable def lamOf (kt : KT) : FuncData := match (defIn kt 89 1).body with
  | .stmts b => match nthS b 6 with
    | .Assign _ (.Lambda args body scope _) _ => { name := n_lam, qualname := q_lam, params := args, body := .expr body, scope, globals := 3, closure := [], defaults := .none, kwdefaults := .none }
    | _ => default
  | _ => default
noncomputable def lamFd (kt : KT) (c : WC) (x : HP) : FuncData := { lamOf kt with closure := [(n_later, x.cl), (n_begin, x.cb)], pyModule := m_law, code := .ref c.lc, closureTuple := .ref x.ct }
noncomputable def hitO (kt : KT) (w : World) (c : WC) (x : HP) : List Obj := [
  instO x.dh,
  dictO [ent n_lineno (hS w n_lineno, nthN x.ts 0) (.int 1 (nthN x.ts 1)), ent n_instream (hS w n_instream, nthN x.ts 2) .none, ent n_whitespace (hS w n_whitespace, nthN x.ts 3) (.str ws4 (nthN x.ts 4)), ent n_pushback (hS w n_pushback, nthN x.ts 5) (.ref x.pb), ent n_span (hS w n_span, nthN x.ts 6) (.ref x.sp)] 5,
  funO (lamFd kt c x), cellO (.int x.i (nthN x.ts 7)), cellO (.ref x.ll), listO (.int x.j (nthN x.ts 8) :: restV x.rs [nthN x.ts 10, nthN x.ts 11, nthN x.ts 12]) (nthN x.ts 9), tupO [.ref x.cb, .ref x.cl], listO [] 0]
noncomputable def hpOf (as ts : List Nat) (i j : Int) (rs : List Int) : HP := ⟨nthN as 0, nthN as 1, nthN as 2, nthN as 3, nthN as 4, nthN as 5, nthN as 6, nthN as 7, i, j, rs, ts⟩
noncomputable def hitAs (x : HP) : List Addr := [x.h, x.dh, x.sp, x.cb, x.cl, x.ll, x.ct, x.pb]
noncomputable def hitG (kt : KT) (w : World) (c : WC) (x : HP) : List (Addr × Obj) := zipN (hitAs x) (hitO kt w c x)
end
end
section
open PySem PySem.Spec PySem.Calls PySem.W PySem.W.X
section
variable {prog : Program} {w : World} {kt : KT}
section
variable (prog : Program) (w : World) (kt : KT)
noncomputable def E_glc : Prop := ∀ (wd : Str) (wt : Nat) (u v : Str) (x y : Int) (H : Parts wd ⟨#[46]⟩ u v) (hu : u.length ≤ 640) (hv : v.length ≤ 640) (hx : PySem.intText? u = some x) (hy : PySem.intText? v = some y), CkOk prog w kt (Code.call (.ref 70) ⟨[.str wd wt], []⟩) 700 6000 ([]) (fun _ _ => []) 1 (fun _ ts => [tupO [.int x (nthN ts 0), .int y (nthN ts 1)]]) 2 (fun as _ => .ok (.ret (.ref (nthN as 0))))
end
structure RunsGlc (prog : Program) (w : World) (kt : KT) : Prop where
  glc : E_glc prog w kt
end
end
section
open PySem PySem.Spec PySem.Calls PyProof.Rows PySem.W PySem.W.X
section
variable {prog : Program} {w : World} {kt : KT}
noncomputable def Wd (wd : Str) (x y : Int) : Prop := ∃ u v, Parts wd ⟨#[46]⟩ u v ∧ u.length ≤ 640 ∧ v.length ≤ 640 ∧ PySem.intText? u = some x ∧ PySem.intText? v = some y
theorem glcOk (X : RunsGlc prog w kt) {wd : Str} (wt : Nat) {x y : Int} (H : Wd wd x y) :
    CkOk prog w kt (.call (.ref 70) ⟨[.str wd wt], []⟩) 700 6000 [] (fun _ _ => []) 1 (fun _ ts => [tupO [.int x (nthN ts 0), .int y (nthN ts 1)]]) 2 (fun as _ => .ok (.ret (.ref (nthN as 0)))) := by
  obtain ⟨u, v, h1, h2, h3, h4, h5⟩ := H
  exact (X.glc wd wt u v x y h1 h2 h3 h4 h5)
noncomputable def glcK (X : RunsGlc prog w kt) {wd : Str} (wt : Nat) {x y : Int} (H : Wd wd x y) : Ck prog w kt := mkCk (glcOk X wt H)
theorem log_ok {n : Int} (h0 : 0 ≤ n) (h1 : n < 10 ^ 10) : n.natAbs.log2 < 1920 := by
  have h : n.natAbs < 2 ^ 1920 := by omega
  rcases Nat.eq_zero_or_pos n.natAbs with h2 | h2
  · rw [h2]; decide
  · exact (Nat.log2_lt (by omega)).mpr h
theorem len_ok {n : Int} (h0 : 0 ≤ n) (h1 : n < 10 ^ 10) : (strI n).length ≤ sizeLine := Nat.le_trans (PySem.W.KT.len_num h0 h1) (by decide)
theorem szw1 {x : Int} (h0 : 0 ≤ x) (h1 : x < 10 ^ 10) : (strI x ++ (⟨#[46]⟩ : Str)).length ≤ sizeLine := by
  have : (strI x).length ≤ 10 := PySem.W.KT.len_num h0 h1
  rw [len_app, len_1]
  have : 100 ≤ sizeLine := by decide
  omega
theorem szw2 {x y : Int} (h0 : 0 ≤ x) (h1 : x < 10 ^ 10) (h2 : 0 ≤ y) (h3 : y < 10 ^ 10) : (strI x ++ (⟨#[46]⟩ : Str) ++ strI y).length ≤ sizeLine := by
  have : (strI x).length ≤ 10 := PySem.W.KT.len_num h0 h1
  have : (strI y).length ≤ 10 := PySem.W.KT.len_num h2 h3
  rw [len_app, len_app, len_1]
  have : 100 ≤ sizeLine := by decide
  omega
noncomputable def dlxO (p : LP) (l : Int) (lt : Nat) : Obj := dictO [ent n_lineno (p.e 0) (.int l lt), ent n_instream (p.e 1) (.ref p.src), ent n_whitespace (p.e 2) (.str ws4 p.wt), ent n_pushback (p.e 3) (.ref p.pb)] p.ep0
noncomputable def trG (p : LP) (l : Int) (lt : Nat) (wd : Str) (wt ep : Nat) : List (Addr × Obj) := [(p.pb, listO [.str wd wt] ep), (p.lx, instO p.dlx), (p.dlx, dlxO p l lt)]
end
section
noncomputable def trV (a b : Int) : List (Int × Int) := [(a, b), (a, (a + b)), ((a + b), b), (a, (a + (a + b))), ((a + (a + b)), (a + b)), ((a + b), ((a + b) + b)), (((a + b) + b), b), (a, (a + (a + (a + b)))), ((a + (a + (a + b))), (a + (a + b))), ((a + (a + b)), ((a + (a + b)) + (a + b))), (((a + (a + b)) + (a + b)), (a + b)), ((a + b), ((a + b) + ((a + b) + b))), (((a + b) + ((a + b) + b)), ((a + b) + b)), (((a + b) + b), (((a + b) + b) + b)), ((((a + b) + b) + b), b), (a, (a + (a + (a + (a + b))))), ((a + (a + (a + (a + b)))), (a + (a + (a + b)))), ((a + (a + (a + b))), ((a + (a + (a + b))) + (a + (a + b)))), (((a + (a + (a + b))) + (a + (a + b))), (a + (a + b))), ((a + (a + b)), ((a + (a + b)) + ((a + (a + b)) + (a + b)))), (((a + (a + b)) + ((a + (a + b)) + (a + b))), ((a + (a + b)) + (a + b))), (((a + (a + b)) + (a + b)), (((a + (a + b)) + (a + b)) + (a + b))), ((((a + (a + b)) + (a + b)) + (a + b)), (a + b)), ((a + b), ((a + b) + ((a + b) + ((a + b) + b)))), (((a + b) + ((a + b) + ((a + b) + b))), ((a + b) + ((a + b) + b))), (((a + b) + ((a + b) + b)), (((a + b) + ((a + b) + b)) + ((a + b) + b))), ((((a + b) + ((a + b) + b)) + ((a + b) + b)), ((a + b) + b)), (((a + b) + b), (((a + b) + b) + (((a + b) + b) + b))), ((((a + b) + b) + (((a + b) + b) + b)), (((a + b) + b) + b)), ((((a + b) + b) + b), ((((a + b) + b) + b) + b)), (((((a + b) + b) + b) + b), b)]
noncomputable def tupsOf : List (Int × Int) → List Nat → List Obj
  | [], _ => []
  | q :: r, ts => tupO [.int q.1 (nthN ts 0), .int q.2 (nthN ts 1)] :: tupsOf r (match ts with
    | _ :: _ :: u => u
    | _ => [])
noncomputable def tailN : List Nat → List Nat
  | [] => []
  | _ :: r => r
end
end
section
open PySem PySem.Spec PySem.Calls PyProof.Rows PySem.W PySem.W.X
section
variable {prog : Program} {w : World} {kt : KT}
noncomputable abbrev n_col : Str := ⟨#[99, 111, 108]⟩
noncomputable abbrev n_pair : Str := ⟨#[112, 97, 105, 114]⟩
noncomputable abbrev n_root : Str := ⟨#[114, 111, 111, 116]⟩
noncomputable abbrev n_program : Str := ⟨#[112, 114, 111, 103, 114, 97, 109]⟩
noncomputable abbrev n_x : Str := ⟨#[120]⟩
noncomputable abbrev n_y : Str := ⟨#[121]⟩
noncomputable abbrev n_step : Str := ⟨#[115, 116, 101, 112]⟩
noncomputable abbrev n_end : Str := ⟨#[101, 110, 100]⟩
noncomputable abbrev n_run : Str := ⟨#[114, 117, 110]⟩
noncomputable abbrev n_quotient : Str := ⟨#[113, 117, 111, 116, 105, 101, 110, 116]⟩
noncomputable def ppOf (w : World) (as ts : List Nat) (c0 c1 c2 c3 ft : Nat) : PP := ⟨nthN as 0, nthN as 1, nthN as 2, nthN as 3, nthN as 4, nthN as 5, nthN as 6, nthN as 7, nthN as 8, c0, c1, c2, c3, ft,
  fun i => match Nat.beq i 0 with
    | true => (hS w n_lineno, nthN ts 0)
    | false => match Nat.beq i 1 with
      | true => (hS w n_instream, nthN ts 2)
      | false => match Nat.beq i 2 with
        | true => (hS w n_whitespace, nthN ts 3)
        | false => match Nat.beq i 3 with
          | true => (hS w n_pushback, nthN ts 5)
          | false => (hS w n_search, nthN ts 6),
  fun i => match Nat.beq i 0 with
    | true => .int 1 (nthN ts 1)
    | false => match Nat.beq i 1 with
      | true => .none
      | false => match Nat.beq i 2 with
        | true => .str ws4 (nthN ts 4)
        | false => .ref (nthN as 9),
  fun i => nthN ts (7 + i), 5, nthN ts 10, nthN ts 11⟩
noncomputable def cutV : List Int → (Nat → Nat) → Nat → List Value
  | [], _, _ => []
  | x :: r, f, i => .int x (f i) :: cutV r f (i + 1)
noncomputable def ppO (kt : KT) (c : WC) (p : PP) (b : Bool) (ks : List Int) (pb : Addr) : List Obj :=
  R.appendR (mapN Prod.snd (pgG kt c p b (cutV ks p.kt 0))) [tupO [.ref p.cB, .ref p.cC, .ref p.cF], listO [] 0]
noncomputable def sB (kt : KT) : Stmt := nthS (bodyOf kt 108) 2
noncomputable def cB (kt : KT) (it fr : Addr) : Code := forC (sB kt) (.ref it) (envOf kt 108 107 fr)
structure BF where
  (fr it pa ro : Addr)
  f : Nat → Int × Nat
  ep : Nat
noncomputable def bfr (q : BF) (p : PP) (b : Bool) (col x y : Int) (t : Nat → Nat) (l : List DictEntry) (ep : Nat) : Obj :=
  frameO (ent n_figures (q.f 0) (.str p.f p.ft) :: ent n_bars (q.f 1) (.bool b) :: ent n_col (q.f 2) (.int col (t 0)) :: ent n_pair (q.f 3) (.ref q.pa) :: ent n_root (q.f 4) (.ref q.ro) :: ent n_program (q.f 5) (.ref p.pr) :: ent n_x (q.f 6) (.int x (t 1)) :: ent n_y (q.f 7) (.int y (t 2)) :: l) ep
noncomputable def bA (q : BF) (v : Nat → Value) : List DictEntry := [ent n_step (q.f 8) (v 0), ent n_begin (q.f 9) (v 1), ent n_hit (q.f 10) (v 2), ent n_end (q.f 11) (v 3), ent n_run (q.f 12) (v 4), ent n_quotient (q.f 13) (v 5)]
noncomputable def bN (q : BF) (v : Nat → Value) : List DictEntry := [ent n_step (q.f 8) (v 0), ent n_begin (q.f 9) (v 1), ent n_hit (q.f 10) (v 2), ent n_run (q.f 12) (v 4), ent n_quotient (q.f 13) (v 5)]
noncomputable def bL (q : BF) : Bool → (Nat → Value) → List DictEntry
  | true, v => bA q v
  | false, v => bN q v
noncomputable def srG (kt : KT) (c : WC) (p : PP) (b : Bool) (cuts : List Value) : List (Addr × Obj) := (c.sc, scO c) :: (c.st, tabO 103 19 c.lc) :: (c.lc, lcO c) :: pgG kt c p b cuts
noncomputable def srCode (p : PP) (col : Int) (t : Nat) : Code := .call (.ref 63) ⟨[.ref p.pr, .str p.f p.ft, .int col t], []⟩
noncomputable def SrHit (prog : Program) (w : World) (kt : KT) (c : WC) (p : PP) (b : Bool) (cuts : List Value) (col : Int) (i j : Int) (rs : List Int) : Prop :=
  ∀ t, CkOk prog w kt (srCode p col t) 600 5000 (srG kt c p b cuts) (fun _ _ => mapN Prod.snd (srG kt c p b cuts)) 8 (fun as ts => hitO kt w c (hpOf as ts i j rs)) 13 (fun as _ => .ok (.ret (.ref (nthN as 0))))
noncomputable def SrNone (prog : Program) (w : World) (kt : KT) (c : WC) (p : PP) (b : Bool) (cuts : List Value) (col : Int) : Prop :=
  ∀ t, CkOk prog w kt (srCode p col t) 600 5000 (srG kt c p b cuts) (fun _ _ => mapN Prod.snd (srG kt c p b cuts)) 0 (fun _ _ => []) 0 (fun _ _ => .ok (.ret .none))
structure BR where
  (col x y s bg e rn qn i l : Int)
  (a h : Bool)
noncomputable def vOld (s bg : Int) (h : Value) (e rn qn : Int) (t : Nat → Nat) : Nat → Value := fun i => match Nat.beq i 0 with
  | true => .int s (t 3)
  | false => match Nat.beq i 1 with
    | true => .int bg (t 4)
    | false => match Nat.beq i 2 with
      | true => h
      | false => match Nat.beq i 3 with
        | true => .int e (t 6)
        | false => match Nat.beq i 4 with
          | true => .int rn (t 7)
          | false => .int qn (t 8)
noncomputable def hOf (b : Bool) (a : Nat) : Value := match b with
  | true => .ref a
  | false => .none
noncomputable def vOf (r : BR) (ts : List Nat) : Nat → Value := vOld r.s r.bg (hOf r.h (nthN ts 5)) r.e r.rn r.qn (nthN ts)
noncomputable def epA (q : BF) : Bool → Nat
  | true => q.ep + 1 + 1 + 1 + 1 + 1 + 1
  | false => q.ep + 1 + 1 + 1 + 1 + 1
noncomputable def bfin (q : BF) (p : PP) (b : Bool) (r : BR) (ts : List Nat) : Obj := bfr q p b r.col r.x r.y (nthN ts) (bL q r.a (vOf r ts)) (epA q r.a)
noncomputable def qx (w : World) (q : BF) (j : Nat → Nat) : BF := ⟨q.fr, q.it, q.pa, q.ro, fun i => match Nat.ble i 7 with
  | true => q.f i
  | false => match Nat.beq i 8 with
    | true => (hS w n_step, j 0)
    | false => match Nat.beq i 9 with
      | true => (hS w n_begin, j 1)
      | false => match Nat.beq i 10 with
        | true => (hS w n_hit, j 2)
        | false => match Nat.beq i 11 with
          | true => (hS w n_end, j 3)
          | false => match Nat.beq i 12 with
            | true => (hS w n_run, j 4)
            | false => (hS w n_quotient, j 5), q.ep⟩
noncomputable def bG (kt : KT) (c : WC) (p : PP) (b : Bool) (cuts : List Value) (q : BF) (f : Obj) (i l : Int) : List (Addr × Obj) := (q.fr, f) :: (q.it, rIterO i l 1) :: srG kt c p b cuts
noncomputable def BLOk (prog : Program) (w : World) (kt : KT) (c : WC) (p : PP) (b : Bool) (cuts : List Value) (q : BF) (a : Bool) (col x y s bg : Int) (h : Value) (e rn qn : Int) (t : Nat → Nat) (i l : Int) (r : BR) : Prop :=
  CkOk prog w kt (cB kt q.it q.fr) 500 4000 (bG kt c p b cuts q (bfr q p b col x y t (bL q a (vOld s bg h e rn qn t)) (epA q a)) i l)
    (fun _ ts => bfin q p b r ts :: rIterO r.i r.l 1 :: mapN Prod.snd (srG kt c p b cuts)) 0 (fun _ _ => []) 9 (fun _ _ => .ok .next)
noncomputable def jOf (ts : List Nat) (i : Nat) : Nat := nthN ts (9 + i)
noncomputable def BLOk0 (prog : Program) (w : World) (kt : KT) (c : WC) (p : PP) (b : Bool) (cuts : List Value) (q : BF) (col x y : Int) (t : Nat → Nat) (r : BR) : Prop :=
  CkOk prog w kt (cB kt q.it q.fr) 500 4000 (bG kt c p b cuts q (bfr q p b col x y t [] q.ep) 0 4)
    (fun _ ts => bfin (qx w q (jOf ts)) p b r ts :: rIterO r.i r.l 1 :: mapN Prod.snd (srG kt c p b cuts)) 0 (fun _ _ => []) 15 (fun _ _ => .ok .next)
noncomputable def pGtI (x : Int) (t : Nat) (y : Int) (u : Nat) (b : Bool) (h : decide (x > y) = b) : Ck prog w kt :=
  pVal (.call (.builtin "int.__gt__") ⟨[.int x t, .int y u], []⟩) (.bool b) fun _ s _ hR =>
    code_gives F.slot_int_gt (typeIs_int s x t) F.entry_int_gt (F.args_int_gt_2 _ _) (gives_int_gt x y t u) (by rw [h]; exact hR)
noncomputable def pLtI (x : Int) (t : Nat) (y : Int) (u : Nat) (b : Bool) (h : decide (x < y) = b) : Ck prog w kt :=
  pVal (.call (.builtin "int.__lt__") ⟨[.int x t, .int y u], []⟩) (.bool b) fun _ s _ hR =>
    code_gives F.slot_int_lt (typeIs_int s x t) F.entry_int_lt (F.args_int_lt_2 _ _) (gives_int_lt x y t u) (by rw [h]; exact hR)
noncomputable def pNeI (x : Int) (t : Nat) (y : Int) (u : Nat) (b : Bool) (h : (x != y) = b) : Ck prog w kt :=
  pVal (.call (.builtin "int.__ne__") ⟨[.int x t, .int y u], []⟩) (.bool b) fun _ s _ hR =>
    code_gives F.slot_int_ne (typeIs_int s x t) F.entry_int_ne (F.args_int_ne_2 _ _) (gives_int_ne x y t u) (by rw [h]; exact hR)
end
end
section
open PySem PySem.Spec PySem.Calls PyProof.Rows PySem.W PySem.W.X
section
variable {prog : Program} {w : World} {kt : KT}
theorem tup_obj (vs : List Value) : tupO vs = ⟨.type "tuple", none, .seq ⟨vs⟩ 0, #[]⟩ := by rw [SL.e2766695959194262286x5]
theorem list_obj (vs : List Value) (n : Nat) : listO vs n = ⟨.type "list", none, .seq ⟨vs⟩ n, #[]⟩ := by rw [SL.e9222952809800978799x4]
noncomputable def pTupEq (l b : Addr) (x : Int) (t : Nat) (y : Int) (u : Nat) (x' : Int) (t' : Nat) (y' : Int) (u' : Nat) (h1 : x = x') (h2 : y = y') : Ck prog w kt where
  c := .call (.builtin "tuple.__eq__") ⟨[.ref l, .ref b], []⟩
  dep := 900
  uni := 9000
  rd := [(l, tupO [.int x t, .int y u]), (b, tupO [.int x' t', .int y' u'])]
  po := fun _ _ => [tupO [.int x t, .int y u], tupO [.int x' t', .int y' u']]
  na := 0
  nw := fun _ _ => []
  nt := 0
  res := fun _ _ => .ok (.ret (.bool true))
  ok := by
    intro A s R _ _ _ _ _ _ hrd _ _ hR
    have e := hrd _ (.head _)
    have e2 := hrd _ (.tail _ (.head _))
    have f1 : s.heap.get? l = some ⟨.type "tuple", none, .seq ⟨[.int x t, .int y u]⟩ 0, #[]⟩ := by rw [← tup_obj]; exact e
    have f2 : s.heap.get? b = some ⟨.type "tuple", none, .seq ⟨[.int x' t', .int y' u']⟩ 0, #[]⟩ := by rw [← tup_obj]; exact e2
    refine code_meets F.slot_tuple_eq ⟨_, f1, rfl⟩ F.entry_tuple_eq (F.args_tuple_eq_2 _ _) (PySem.SeqAt.tuple_eqAt l b _ _ 0 0 none none #[] #[] (fun _ => true)) ⟨f1, f2, fun j g1 g2 => ?_, ?_⟩
    · match j, g1 with
      | 0, _ =>
        have := (MeetsSeq.EqGives.int x x' t t').at A.in1 s
        rw [show (x == x') = true by rw [h1]; exact beq_self_eq_true _] at this
        exact this
      | 1, _ =>
        have := (MeetsSeq.EqGives.int y y' u u').at A.in1 s
        rw [show (y == y') = true by rw [h2]; exact beq_self_eq_true _] at this
        exact this
      | j + 2, g1 => exact absurd g1 (by simp)
    · exact hR [] [] s.heap s.toks rfl rfl (same_fresh _) (fun _ z => nomatch z) (fun q hq => by
        rcases List.mem_cons.mp hq with rfl | hq
        · exact e
        · rcases List.mem_cons.mp hq with rfl | hq
          · exact e2
          · cases hq) (same_kept _ _)
noncomputable def bfF (w : World) (j : Nat → Nat) : Nat → Int × Nat := fun i => match Nat.beq i 0 with
  | true => (hS w n_figures, j 0)
  | false => match Nat.beq i 1 with
    | true => (hS w n_bars, j 1)
    | false => match Nat.beq i 2 with
      | true => (hS w n_col, j 2)
      | false => match Nat.beq i 3 with
        | true => (hS w n_pair, j 3)
        | false => match Nat.beq i 4 with
          | true => (hS w n_root, j 4)
          | false => match Nat.beq i 5 with
            | true => (hS w n_program, j 5)
            | false => match Nat.beq i 6 with
              | true => (hS w n_x, j 6)
              | false => (hS w n_y, j 7)
noncomputable def PgOk (prog : Program) (w : World) (kt : KT) (c : WC) (c0 c1 c2 c3 ft : Nat) (b : Bool) (ks : List Int) : Prop :=
  CkOk prog w kt (.call (.ref 89) ⟨[.str ⟨#[c0, c1, c2, c3]⟩ ft, .bool b], []⟩) 420 3000 [(86, tabO 93 4 c.sc), (c.sc, scO c)] (fun _ _ => [tabO 93 4 c.sc, scO c]) 10 (fun as ts => ppO kt c (ppOf w as ts c0 c1 c2 c3 ft) b ks (nthN as 9)) 12 (fun as _ => .ok (.ret (.ref (nthN as 0))))
noncomputable def pairG (pa : Addr) (x : Int) (xt : Nat) (y : Int) (yt : Nat) : Addr × Obj := (pa, tupO [.int x xt, .int y yt])
end
end
section
open PySem PySem.Spec PySem.Calls PyProof.Rows PySem.W PySem.W.X
section
variable {prog : Program} {w : World} {kt : KT}
noncomputable def dropN : Nat → List Nat → List Nat := fun n => @Nat.rec (fun _ => List Nat → List Nat) (fun l => l) (fun _ ih l => match l with
  | [] => []
  | _ :: r => ih r) n
noncomputable def tlN : List Nat → List Nat
  | [] => []
  | _ :: r => r
noncomputable def nthV : List Value → Nat → Value
  | [], _ => .none
  | x :: r, i => match Nat.beq i 0 with
    | true => x
    | false => nthV r (i - 1)
noncomputable def wc0 (sc st : Addr) (ts : List Nat) : WC := ⟨sc, st, 0, fun i => nthN ts (i - 19), fun i => match Nat.beq i 18 with
  | true => .ref (nthN ts 5)
  | false => .ref (nthN ts 6)⟩
noncomputable def wc1 (c : WC) (lc : Addr) (ts : List Nat) : WC := ⟨c.sc, c.st, lc, fun i => match Nat.ble i 30 with
  | true => c.e i
  | false => nthN ts 0, fun i => match Nat.ble i 30 with
  | true => c.v i
  | false => nthV [.str n_lam (nthN ts 1), .none, .str s_file (nthN ts 2), .int 103 0, .int 0 0, .int 0 0, .int 0 0, .int 19 0, .ref (nthN ts 3), .bool true, .int 181 0, .ref (nthN ts 4), .none, .ref (nthN ts 5), .ref (nthN ts 6), .ref (nthN ts 7), .int (nthN ts 8) 0, .int 103 0, .str s_file (nthN ts 9)] (i - 40)⟩
noncomputable def PgcOk (prog : Program) (w : World) (kt : KT) (c0 c1 c2 c3 ft : Nat) (ks : List Int) : Prop :=
  CkOk prog w kt (.call (.ref 89) ⟨[.str ⟨#[c0, c1, c2, c3]⟩ ft, .bool false], []⟩) 420 3000 [(86, tableObj #[])] (fun as _ => [tabO 93 4 (nthN as 10)]) 12
    (fun as ts => R.appendR (ppO kt (wc0 (nthN as 10) (nthN as 11) (dropN 12 ts)) (ppOf w as ts c0 c1 c2 c3 ft) false ks (nthN as 9)) [scO (wc0 (nthN as 10) (nthN as 11) (dropN 12 ts)), tableObj #[]]) 19 (fun as _ => .ok (.ret (.ref (nthN as 0))))
noncomputable def srcG (kt : KT) (c : WC) (p : PP) (cuts : List Value) : List (Addr × Obj) := (c.sc, scO c) :: (c.st, tableObj #[]) :: pgG kt c p false cuts
noncomputable def srcPo (kt : KT) (c : WC) (p : PP) (cuts : List Value) (lc : Addr) : List Obj := scO c :: tabO 103 19 lc :: mapN Prod.snd (pgG kt c p false cuts)
noncomputable def SrcHit (prog : Program) (w : World) (kt : KT) (c : WC) (p : PP) (cuts : List Value) (i j : Int) (rs : List Int) : Prop :=
  ∀ t, CkOk prog w kt (srCode p 1 t) 600 5000 (srcG kt c p cuts) (fun as _ => srcPo kt c p cuts (nthN as 0)) 9 (fun as ts => lcO (wc1 c (nthN as 0) ts) :: hitO kt w (wc1 c (nthN as 0) ts) (hpOf (tlN as) (dropN 10 ts) i j rs)) 23 (fun as _ => .ok (.ret (.ref (nthN as 1))))
noncomputable def SrcNone (prog : Program) (w : World) (kt : KT) (c : WC) (p : PP) (cuts : List Value) : Prop :=
  ∀ t, CkOk prog w kt (srCode p 1 t) 600 5000 (srcG kt c p cuts) (fun as _ => srcPo kt c p cuts (nthN as 0)) 1 (fun as ts => [lcO (wc1 c (nthN as 0) ts)]) 10 (fun _ _ => .ok (.ret .none))
noncomputable def BLOkc (prog : Program) (w : World) (kt : KT) (c : WC) (p : PP) (cuts : List Value) (q : BF) (x y : Int) (t : Nat → Nat) (r : BR) : Prop :=
  CkOk prog w kt (cB kt q.it q.fr) 500 4000 ((q.fr, bfr q p false 1 x y t [] q.ep) :: (q.it, rIterO 0 4 1) :: srcG kt c p cuts)
    (fun as ts => bfin (qx w q (jOf ts)) p false r ts :: rIterO r.i r.l 1 :: srcPo kt c p cuts (nthN as 0)) 1 (fun as ts => [lcO (wc1 c (nthN as 0) (dropN 15 ts))]) 25 (fun _ _ => .ok .next)
end
end
section
open PySem PySem.Spec PySem.Calls PyProof.Rows PySem.W PySem.W.X
section
variable {prog : Program} {w : World} {kt : KT}
noncomputable def pLenL (l : Addr) (vs : List Value) (n : Nat) (h : ((vs.length : Nat) : Int) < 2 ^ 63) : Ck prog w kt where
  c := .call (.builtin "len") ⟨[.ref l], []⟩
  dep := 900
  uni := 9000
  rd := [(l, listO vs n)]
  po := fun _ _ => [listO vs n]
  na := 0
  nw := fun _ _ => []
  nt := 1
  res := fun _ ts => .ok (.ret (.int (vs.length : Nat) (nthN ts 0)))
  ok := by
    intro A s R _ _ _ _ _ _ hrd _ _ hR
    have e := hrd _ (.head _)
    have hl := list_is e
    have f1 : s.heap.get? l = some ⟨.type "list", none, .seq ⟨vs⟩ n, #[]⟩ := by rw [← list_obj]; exact e
    refine codeAny_fn kind_len plain_len PySem.entry_len (args_len1 _) (wpAny_len_body_list (Q := fun r s' => R (.ok (.ret r)) s') hl (by show ((vs.length : Nat) : Int) < 2 ^ 63; exact h) ?_)
    exact hR [] [s.toks + 1] s.heap (s.toks + 1 + 1) rfl rfl (same_fresh _) (fun _ z => nomatch z) (fun q hq => by
      rcases List.mem_cons.mp hq with rfl | hq
      · exact e
      · cases hq) (same_kept _ _)
noncomputable abbrev app (vs us : List Value) : List Value := R.appendR vs us
theorem app_eqv (vs us : List Value) : app vs us = vs ++ us := by unfold app; rw [← R.appendR_eq]; rfl
noncomputable def pAddL (l : Addr) (vs : List Value) (n : Nat) (b : Addr) (us : List Value) (m : Nat) (h : vs.length + us.length ≤ sizeLine) : Ck prog w kt where
  c := .call (.builtin "list.__add__") ⟨[.ref l, .ref b], []⟩
  dep := 900
  uni := 9000
  rd := [(l, listO vs n), (b, listO us m)]
  po := fun _ _ => [listO vs n, listO us m]
  na := 1
  nw := fun _ _ => [listO (app vs us) 0]
  nt := 0
  res := fun as _ => .ok (.ret (.ref (nthN as 0)))
  ok := by
    intro A s Rr _ _ _ _ _ _ hrd _ _ hR
    have e := hrd _ (.head _)
    have e2 := hrd _ (.tail _ (.head _))
    have f1 : s.heap.get? l = some ⟨.type "list", none, .seq ⟨vs⟩ n, #[]⟩ := by rw [← list_obj]; exact e
    have f2 : s.heap.get? b = some ⟨.type "list", none, .seq ⟨us⟩ m, #[]⟩ := by rw [← list_obj]; exact e2
    refine code_meets F.slot_list_add ⟨_, f1, rfl⟩ F.entry_list_add (F.args_list_add_2 _ _) (AutoSeq1.list___add___list_list_0 l ⟨vs⟩ n b ⟨us⟩ m h) ⟨f1, f2, ?_⟩
    have ho : (⟨.type "list", none, .seq ((⟨vs⟩ : Array Value) ++ ⟨us⟩) 0, #[]⟩ : Obj) = listO (app vs us) 0 := by
      rw [list_obj, app_eqv]
      simp
    have := hR [s.heap.objs.size] [] (s.heap.push (listO (app vs us) 0)) s.toks rfl rfl (fresh1 ..) (facts1 rfl) (fun q hq => by
      rcases List.mem_cons.mp hq with rfl | hq
      · exact Heap.get?_push_of_some _ e
      · rcases List.mem_cons.mp hq with rfl | hq
        · exact Heap.get?_push_of_some _ e2
        · cases hq) (keptP ..)
    rw [← ho] at this
    exact this
noncomputable def pCutL (l : Addr) (vs : List Value) (n : Nat) (sl : Addr) (vl vu : Value) (lo hi : Option Int) (pl : IsPart vl lo) (pu : IsPart vu hi) (us : List Value) (hsz : vs.length ≤ sizeLine) (hu : slicePick ⟨vs⟩ lo hi none = ⟨us⟩) : Ck prog w kt where
  c := .call (.builtin "list.__getitem__") ⟨[.ref l, .ref sl], []⟩
  dep := 900
  uni := 9000
  rd := [(l, listO vs n), (sl, ⟨.type "slice", none, .fields #[vl, vu, .none], #[]⟩)]
  po := fun _ _ => [listO vs n, ⟨.type "slice", none, .fields #[vl, vu, .none], #[]⟩]
  na := 1
  nw := fun _ _ => [listO us 0]
  nt := 0
  res := fun as _ => .ok (.ret (.ref (nthN as 0)))
  ok := by
    intro A s R _ _ _ _ _ _ hrd _ _ hR
    have e := hrd _ (.head _)
    have e2 := hrd _ (.tail _ (.head _))
    have hl := list_is e
    have hs : s.heap.IsSliceOf sl vl vu .none := ⟨_, e2, rfl, rfl⟩
    obtain ⟨o, ho, hc, ne, hd⟩ := id hl
    obtain ⟨os, hos, hcs, hds⟩ := id hs
    have hTs : s.TypeIs (.ref sl) "slice" := ⟨os, hos, hcs⟩
    have fin := hR [s.heap.objs.size] [] (s.heap.push (listO us 0)) s.toks rfl rfl (fresh1 ..) (facts1 rfl) (fun q hq => by
      rcases List.mem_cons.mp hq with rfl | hq
      · exact Heap.get?_push_of_some _ e
      · rcases List.mem_cons.mp hq with rfl | hq
        · exact Heap.get?_push_of_some _ e2
        · cases hq) (keptP ..)
    rw [list_obj, ← hu] at fin
    refine codeAny_call_builtin slot_list_getitem.plain entry_list_getitem (slot_list_getitem.check _ _ _ _ _ _ _ _ hl.typeIs (args_list_getitem _ _) ?_)
    show wpAny _ _ (Builtin.List.listSubscript? (.ref sl) >>= _) _ _ s
    refine wpAny_bind ?_
    unfold Builtin.List.listSubscript?
    refine wpAny_bind (wpAny_specialOf hTs slice_no_index ?_)
    simp only [Option.isNone_none, if_true]
    refine wpAny_pure ?_
    show wpAny _ _ (typeOf (.ref sl) >>= _) _ _ s
    refine wpAny_bind (wpAny_typeOf hTs ?_)
    rw [if_neg (by decide), listSliceParts_eq]
    refine wpAny_bind (wpAny_bind (wpAny_field hos hds (x := .none) rfl (wpAny_bind (wpAny_listPart .none ?_))))
    rw [if_neg (by decide)]
    refine wpAny_bind (wpAny_field hos hds (x := vl) rfl (wpAny_bind (wpAny_listPart pl ?_)))
    refine wpAny_bind (wpAny_field hos hds (x := vu) rfl (wpAny_bind (wpAny_listPart pu (wpAny_pure ?_))))
    refine wpAny_bind (m := Builtin.List.listItems (.ref l)) ?_
    unfold Builtin.List.listItems
    refine wpAny_bind (wpAny_seqItems ho hd (wpAny_pure ?_))
    refine wpAny_bind (wpAny_of_eq (sliceIndices_raw lo hi none (⟨vs⟩ : Array Value).size (by simp)) ?_)
    exact wpAny_bind (wpAny_newObj_type (wpAny_pure fin) (Nat.le_trans (slicePick_size_le ⟨vs⟩ lo hi none) hsz))
noncomputable def pCnt (x : Str) (t : Nat) (y : Str) (u : Nat) (m : Nat) (h : (Builtin.Str.occurrences x y 0 x.length (x.length + 1)).length = m) : Ck prog w kt :=
  ⟨.call (.builtin "str.count") ⟨[.str x t, .str y u], []⟩, 900, 9000, [], fun _ _ => [], 0, fun _ _ => [], 1, fun _ ts => .ok (.ret (.int (m : Nat) (nthN ts 0))), fun _ s _ _ _ _ _ _ _ _ _ _ hR =>
    code_gives F.slot_str_count (typeIs_str s x t) F.entry_str_count (F.args_str_count_2 _ _) (gives_str_count x y t u) (by
      rw [h]; exact hR [] [s.toks] s.heap (s.toks + 1) rfl rfl (same_fresh _) (fun _ z => nomatch z) (fun _ z => nomatch z) (same_kept _ _))⟩
noncomputable def pButL (x : Str) (t : Nat) (a : Addr) (j : Int) (jt : Nat) (r : Str) (h : sliceMade x t none (some (j, jt)) none = .str r) (hr : r.length ≤ sizeLine) : Ck prog w kt :=
  ⟨.call (.builtin "str.__getitem__") ⟨[.str x t, .ref a], []⟩, 900, 9000, [(a, ⟨.type "slice", none, .fields #[.none, .int j jt, .none], #[]⟩)], fun _ _ => [⟨.type "slice", none, .fields #[.none, .int j jt, .none], #[]⟩], 0, fun _ _ => [], 1, fun _ ts => .ok (.ret (.str r (nthN ts 0))), fun _ s _ _ _ _ _ _ _ hrd _ _ hR =>
    code_meets F.slot_str_getitem (typeIs_str s x t) F.entry_str_getitem (F.args_str_getitem_2 _ _) (meets_str_getitem_slice x t a none (some (j, jt)) none rfl)
      ⟨⟨_, hrd _ (.head _), rfl, rfl⟩, by rw [h]; exact ⟨hr, hR [] [s.toks] s.heap (s.toks + 1) rfl rfl (same_fresh _) (fun _ z => nomatch z) (fun q hq => by
        rcases List.mem_cons.mp hq with rfl | hq
        · exact hrd _ (.head _)
        · cases hq) (same_kept _ _)⟩⟩⟩
noncomputable def SameV (A : Around) (s : Shared) : List Value → List Value → Prop
  | [], [] => True
  | x :: r, y :: q => PySem.SeqAt.EqAt A s x y true ∧ SameV A s r q
  | _, _ => False
theorem sameV_at {A : Around} {s : Shared} : ∀ {vs us : List Value}, SameV A s vs us → vs.length = us.length ∧ ∀ j (h1 : j < vs.length) (h2 : j < us.length), PySem.SeqAt.EqAt A s vs[j] us[j] true
  | [], [], _ => ⟨rfl, fun j h => absurd h (Nat.not_lt_zero _)⟩
  | x :: r, y :: q, h => by
    obtain ⟨h1, h2⟩ := sameV_at h.2
    refine ⟨congrArg Nat.succ h1, fun j g1 g2 => ?_⟩
    cases j with
    | zero => exact h.1
    | succ j => exact h2 j (Nat.lt_of_succ_lt_succ g1) (Nat.lt_of_succ_lt_succ g2)
  | [], _ :: _, h => h.elim
  | _ :: _, [], h => h.elim
theorem code_neL {A : Around} {s : Shared} {R : Result → Shared → Prop} {l b : Addr} {vs us : List Value} {n m : Nat} (e : s.heap.get? l = some (listO vs n)) (e2 : s.heap.get? b = some (listO us m)) (h : SameV A.in1 s vs us) (hR : R (.ok (.ret (.bool false))) s) :
    codeAny (model prog w) A (.call (.builtin "list.__ne__") ⟨[.ref l, .ref b], []⟩) R s := by
  have f1 : s.heap.get? l = some ⟨.type "list", none, .seq ⟨vs⟩ n, #[]⟩ := by rw [← list_obj]; exact e
  have f2 : s.heap.get? b = some ⟨.type "list", none, .seq ⟨us⟩ m, #[]⟩ := by rw [← list_obj]; exact e2
  obtain ⟨h1, h2⟩ := sameV_at h
  refine code_meets F.slot_list_ne ⟨_, f1, rfl⟩ F.entry_list_ne (F.args_list_ne_2 _ _) (PySem.SeqAt.list_neAt l b ⟨vs⟩ ⟨us⟩ n m none none #[] #[] h1 (fun _ => true)) ⟨f1, f2, fun j g1 g2 => h2 j g1 g2, ?_⟩
  have : (!(List.range (⟨vs⟩ : Array Value).size).all fun _ => true) = false := by simp
  rw [this]
  exact hR
theorem eqS (A : Around) (s : Shared) (x : Str) (t u : Nat) : PySem.SeqAt.EqAt A s (.str x t) (.str x u) true := by
  have := (SeqRoads2.EqGives.str x x t u).at A s
  simpa using this
theorem eqI (A : Around) (s : Shared) (x y : Int) (t u : Nat) (h : x = y) : PySem.SeqAt.EqAt A s (.int x t) (.int y u) true := by
  have := (MeetsSeq.EqGives.int x y t u).at A s
  rw [show (x == y) = true by rw [h]; exact beq_self_eq_true _] at this
  exact this
noncomputable def pNeLS (l : Addr) (vs : List Value) (n : Nat) (b : Addr) (us : List Value) (m : Nat) (h : ∀ A s, SameV A s vs us) : Ck prog w kt where
  c := .call (.builtin "list.__ne__") ⟨[.ref l, .ref b], []⟩
  dep := 900
  uni := 9000
  rd := [(l, listO vs n), (b, listO us m)]
  po := fun _ _ => [listO vs n, listO us m]
  na := 0
  nw := fun _ _ => []
  nt := 0
  res := fun _ _ => .ok (.ret (.bool false))
  ok := by
    intro A s R _ _ _ _ _ _ hrd _ _ hR
    have e := hrd _ (.head _)
    have e2 := hrd _ (.tail _ (.head _))
    refine code_neL e e2 (h _ _) (hR [] [] s.heap s.toks rfl rfl (same_fresh _) (fun _ z => nomatch z) (fun q hq => ?_) (same_kept _ _))
    rcases List.mem_cons.mp hq with rfl | hq
    · exact e
    · rcases List.mem_cons.mp hq with rfl | hq
      · exact e2
      · cases hq
noncomputable abbrev prO (x : Int) (t : Nat) (y : Int) (u : Nat) : Obj := tupO [.int x t, .int y u]
theorem eqP {A : Around} {s : Shared} (ha : A.units < cLine) {l b : Addr} {x y x' y' : Int} {t u t' u' : Nat} (f1 : s.heap.get? l = some (prO x t y u)) (f2 : s.heap.get? b = some (prO x' t' y' u')) (h1 : x = x') (h2 : y = y') : PySem.SeqAt.EqAt A s (.ref l) (.ref b) true := by
  by_cases hlb : l = b
  · subst hlb; exact PySem.SeqAt.EqAt.same _
  · refine PySem.SeqAt.EqAt.of_refs hlb ?_
    have g1 : s.heap.IsTuple l ⟨[.int x t, .int y u]⟩ := ⟨_, f1, congrArg Value.type SL.e2766695959194262286x5.symm, _, rfl⟩
    have g2 : s.heap.IsTuple b ⟨[.int x' t', .int y' u']⟩ := ⟨_, f2, congrArg Value.type SL.e2766695959194262286x5.symm, _, rfl⟩
    have := PySem.SeqAt.RcAt.tuples (A := A) (e := fun _ => true) g1 g2 ha (fun j q1 q2 => by
      match j, q1 with
      | 0, _ => exact eqI _ _ _ _ _ _ h1
      | 1, _ => exact eqI _ _ _ _ _ _ h2
      | j + 2, q1 => exact absurd q1 (by simp))
    have e : ((List.range (min 2 2)).all (fun _ => true) && (2 : Nat) == 2) = true := by decide
    rw [← e]
    exact this
inductive SameP : List (Addr × Obj) → List Value → List Value → Prop
  | nil (os) : SameP os [] []
  | cons {os vs us} (a b : Addr) (x y x' y' : Int) (t u t' u' : Nat) : (a, prO x t y u) ∈ os → (b, prO x' t' y' u') ∈ os → x = x' → y = y' → SameP os vs us → SameP os (.ref a :: vs) (.ref b :: us)
theorem SameP.v {os : List (Addr × Obj)} {vs us : List Value} (H : SameP os vs us) {A : Around} {s : Shared} (ha : A.units < cLine) (hf : Facts s.heap os) : SameV A s vs us := by
  induction H with
  | nil => exact trivial
  | cons a b x y x' y' t u t' u' m1 m2 h1 h2 _ ih => exact ⟨eqP ha (hf _ m1) (hf _ m2) h1 h2, ih⟩
noncomputable def pNeLP (l : Addr) (vs : List Value) (n : Nat) (b : Addr) (us : List Value) (m : Nat) (os : List (Addr × Obj)) (h : SameP os vs us) : Ck prog w kt where
  c := .call (.builtin "list.__ne__") ⟨[.ref l, .ref b], []⟩
  dep := 900
  uni := 9000
  rd := (l, listO vs n) :: (b, listO us m) :: os
  po := fun _ _ => listO vs n :: listO us m :: mapN Prod.snd os
  na := 0
  nw := fun _ _ => []
  nt := 0
  res := fun _ _ => .ok (.ret (.bool false))
  ok := by
    intro A s R _ hu _ _ _ _ hrd _ _ hR
    have e := hrd _ (.head _)
    have e2 := hrd _ (.tail _ (.head _))
    have e3 : Facts s.heap os := fun q hq => hrd q (.tail _ (.tail _ hq))
    refine code_neL e e2 (h.v (by show A.units + 1 < cLine; have : cLine = 9900 := rfl; omega) e3) (hR [] [] s.heap s.toks rfl rfl (same_fresh _) (fun _ z => nomatch z) (fun q hq => ?_) (same_kept _ _))
    rw [List.map_cons, List.map_cons, List.zip_cons_cons, List.zip_cons_cons] at hq
    rcases List.mem_cons.mp hq with rfl | hq
    · exact e
    · rcases List.mem_cons.mp hq with rfl | hq
      · exact e2
      · rw [mapN_eq, zip_same] at hq
        exact e3 q hq
end
end
section
open PySem PySem.Spec PySem.Calls PySem.W PySem.W.X
section
variable {prog : Program} {w : World} {kt : KT}
noncomputable def dueV (a b : Int) : List (Int × Int) := [(a * 1 + b * 0, a * 0 + b * 1), (a * 1 + b * 0, a * 1 + b * 1), (a * 1 + b * 1, a * 0 + b * 1), (a * 1 + b * 0, a * 2 + b * 1), (a * 2 + b * 1, a * 1 + b * 1), (a * 1 + b * 1, a * 1 + b * 2), (a * 1 + b * 2, a * 0 + b * 1), (a * 1 + b * 0, a * 3 + b * 1), (a * 3 + b * 1, a * 2 + b * 1), (a * 2 + b * 1, a * 3 + b * 2), (a * 3 + b * 2, a * 1 + b * 1), (a * 1 + b * 1, a * 2 + b * 3), (a * 2 + b * 3, a * 1 + b * 2), (a * 1 + b * 2, a * 1 + b * 3), (a * 1 + b * 3, a * 0 + b * 1), (a * 1 + b * 0, a * 4 + b * 1), (a * 4 + b * 1, a * 3 + b * 1), (a * 3 + b * 1, a * 5 + b * 2), (a * 5 + b * 2, a * 2 + b * 1), (a * 2 + b * 1, a * 5 + b * 3), (a * 5 + b * 3, a * 3 + b * 2), (a * 3 + b * 2, a * 4 + b * 3), (a * 4 + b * 3, a * 1 + b * 1), (a * 1 + b * 1, a * 3 + b * 4), (a * 3 + b * 4, a * 2 + b * 3), (a * 2 + b * 3, a * 3 + b * 5), (a * 3 + b * 5, a * 1 + b * 2), (a * 1 + b * 2, a * 2 + b * 5), (a * 2 + b * 5, a * 1 + b * 3), (a * 1 + b * 3, a * 1 + b * 4), (a * 1 + b * 4, a * 0 + b * 1)]
section
variable (prog : Program) (w : World) (kt : KT)
noncomputable def E_due : Prop := ∀ (a b : Int) (ta tb : Nat), CkOk prog w kt (Code.call (.ref 101) ⟨[.int a ta, .int b tb], []⟩) 420 3000 ([]) (fun _ _ => []) 32 (fun as ts => listO (mapN Value.ref (tailN as)) 31 :: tupsOf (dueV a b) ts) 62 (fun as _ => .ok (.ret (.ref (nthN as 0))))
end
structure RunsDue (prog : Program) (w : World) (kt : KT) : Prop where
  due : E_due prog w kt
end
end
section
open PySem PySem.Spec PySem.Calls PyProof.Rows PySem.W PySem.W.X
section
variable {prog : Program} {w : World} {kt : KT}
noncomputable def PieceOk (prog : Program) (w : World) (kt : KT) (word : Str) (way : Int) (r : Str) : Prop :=
  ∀ wt yt, CkOk prog w kt (.call (.ref 77) ⟨[.str word wt, .int way yt], []⟩) 420 3000 [] (fun _ _ => []) 0 (fun _ _ => []) 1 (fun _ ts => .ok (.ret (.str r (nthN ts 0))))
noncomputable def TreeOk (prog : Program) (w : World) (kt : KT) (word : Str) (a b : Int) : Prop :=
  ∀ p l lt wt ep, CkOk prog w kt (.call (.ref 96) ⟨[.ref p.lx], []⟩) 420 3000 (trG p l lt word wt ep) (fun _ _ => [listO [] (ep + 61), instO p.dlx, dlxO p l lt]) 32 (fun as ts => listO (mapN Value.ref (tailN as)) 31 :: tupsOf (trV a b) ts) 62 (fun as _ => .ok (.ret (.ref (nthN as 0))))
noncomputable def DueOk (prog : Program) (w : World) (kt : KT) (a b : Int) : Prop :=
  ∀ ta tb, CkOk prog w kt (.call (.ref 101) ⟨[.int a ta, .int b tb], []⟩) 420 3000 [] (fun _ _ => []) 32 (fun as ts => listO (mapN Value.ref (tailN as)) 31 :: tupsOf (dueV a b) ts) 62 (fun as _ => .ok (.ret (.ref (nthN as 0))))
noncomputable def wordOf (a b : Int) (k : Nat) : Str := match k with
  | 0 => strI a ++ (⟨#[46]⟩ : Str) ++ strI b
  | 1 => (⟨#[43]⟩ : Str) ++ strI a ++ (⟨#[46, 48]⟩ : Str) ++ strI b
  | _ => (⟨#[32]⟩ : Str) ++ strI a ++ (⟨#[32, 46, 10]⟩ : Str) ++ strI b ++ (⟨#[32]⟩ : Str)
theorem word3 (a b : Int) (t0 t1 t2 : Nat) : ∀ k, k < 3 → ([.str (strI a ++ (⟨#[46]⟩ : Str) ++ strI b) t0, .str ((⟨#[43]⟩ : Str) ++ strI a ++ (⟨#[46, 48]⟩ : Str) ++ strI b) t1, .str ((⟨#[32]⟩ : Str) ++ strI a ++ (⟨#[32, 46, 10]⟩ : Str) ++ strI b ++ (⟨#[32]⟩ : Str)) t2] : List Value)[((k : Nat) : Int).toNat]? = some (.str (wordOf a b k) (nthN [t0, t1, t2] k))
  | 0, _ => rfl
  | 1, _ => rfl
  | 2, _ => rfl
  | n + 3, h => absurd h (by omega)
noncomputable def lpM (w : World) (a t : Nat → Nat) (txt : Str) (tt : Nat) (at0 : Addr) (ep : Nat) : LP where
  lx := a 17
  dlx := a 16
  pb := a 19
  src := a 12
  dsrc := a 11
  rd := a 10
  cd := a 9
  cT := a 1
  cA := a 2
  at_ := at0
  ct := a 3
  text := txt
  tt := tt
  e := fun i => match Nat.beq i 20 with
    | true => (0, t 1)
    | false => ((nthE [n_lineno, n_instream, n_whitespace, n_pushback, n_lineno, n_instream, n_whitespace, n_pushback, n_read] i), nthN [t 33, t 35, t 38, t 40, t 14, t 16, t 19, t 21, t 24] i)
  v := fun i => nthV [.str n_read (t 0), .none, .str s_file (t 2), .int 82 0, .int 1 0, .int 0 0, .int 0 0, .int 19 0, .ref (a 4), .bool true, .int 181 0, .ref (a 5), .none, .ref (a 6), .ref (a 7), .ref (a 8), .int (t 7) 0, .int 82 0, .str s_file (t 8), .none, .int 1 (t 12), .none, .str ws4 (t 17), .ref (a 14)] i
  wt := t 36
  ep0 := 4
  ep1 := 5
  ep2 := ep
where nthE : List Str → Nat → Int := fun l i => @List.rec Str (fun _ => Nat → Int) (fun _ => 0) (fun x _ ih i => match Nat.beq i 0 with
  | true => hS w x
  | false => ih (i - 1)) l i
theorem len_0 : (⟨#[]⟩ : Str).length = 0 := rfl
theorem len_2 (c d : Nat) : (⟨#[c, d]⟩ : Str).length = 2 := rfl
theorem len_3 (c d e : Nat) : (⟨#[c, d, e]⟩ : Str).length = 3 := rfl
theorem cut_from (vs : List Value) (m : Nat) : slicePick ⟨vs⟩ (some ((m : Nat) : Int)) none none = ⟨vs.drop m⟩ := by
  have e : sliceBounds (some ((m : Nat) : Int)) none none (⟨vs⟩ : Array Value).size = (((min m vs.length : Nat) : Int), ((vs.length : Nat) : Int), 1) := by
    unfold sliceBounds
    have h1 : ((none : Option Int).getD 1) = 1 := rfl
    simp only [List.size_toArray, h1, gt_iff_lt, show ((0 : Int) < 1) = True from eq_true (by decide), if_true]
    have h0 : ¬ (((m : Nat) : Int) < 0) := by omega
    simp only [h0, if_false]
    refine Prod.ext ?_ (Prod.ext ?_ rfl) <;> dsimp only <;> omega
  rw [PySem.W.kmk_pick_nat _ e]
  show ((vs.drop (min m vs.length)).take (vs.length - min m vs.length)).toArray = ⟨vs.drop m⟩
  congr 1
  by_cases h : m ≤ vs.length
  · rw [Nat.min_eq_left h]
    exact List.take_of_length_le (by simp)
  · rw [Nat.min_eq_right (by omega), List.drop_of_length_le (Nat.le_refl _), List.drop_of_length_le (by omega), List.take_nil]
theorem cut_to5 (vs : List Value) : slicePick ⟨vs⟩ none (some 5) none = ⟨vs.take 5⟩ := by
  have e : sliceBounds none (some 5) none (⟨vs⟩ : Array Value).size = (((0 : Nat) : Int), ((min 5 vs.length : Nat) : Int), 1) := by
    unfold sliceBounds
    have h1 : ((none : Option Int).getD 1) = 1 := rfl
    simp only [List.size_toArray, h1, gt_iff_lt, show ((0 : Int) < 1) = True from eq_true (by decide), if_true]
    have h0 : ¬ ((5 : Int) < 0) := by omega
    simp only [h0, if_false]
    refine Prod.ext ?_ (Prod.ext ?_ rfl) <;> dsimp only <;> omega
  rw [PySem.W.kmk_pick_nat _ e]
  show ((vs.drop 0).take (min 5 vs.length - 0)).toArray = ⟨vs.take 5⟩
  congr 1
  rw [List.drop_zero, Nat.sub_zero]
  by_cases h : 5 ≤ vs.length
  · rw [Nat.min_eq_left h]
  · rw [Nat.min_eq_right (by omega), List.take_of_length_le (Nat.le_refl _), List.take_of_length_le (by omega)]
theorem tr_due (a b : Int) : trV a b = dueV a b := by
  unfold trV dueV
  simp only [List.cons.injEq, Prod.mk.injEq, and_true]
  refine ⟨?_, ?_, ?_, ?_, ?_, ?_, ?_, ?_, ?_, ?_, ?_, ?_, ?_, ?_, ?_, ?_, ?_, ?_, ?_, ?_, ?_, ?_, ?_, ?_, ?_, ?_, ?_, ?_, ?_, ?_, ?_⟩ <;> constructor <;> omega
theorem mem_app {x : Addr × Obj} {l r : List (Addr × Obj)} : x ∈ R.appendR l r ↔ x ∈ l ∨ x ∈ r := by
  have e : (R.appendR l r : List (Addr × Obj)) = l ++ r := by rw [← R.appendR_eq]; rfl
  rw [e, List.mem_append]
theorem same_tups : ∀ (V : List (Int × Int)) (as bs ts us : List Nat) (os : List (Addr × Obj)), as.length = V.length → bs.length = V.length →
    (∀ x ∈ zipN as (tupsOf V ts), x ∈ os) → (∀ x ∈ zipN bs (tupsOf V us), x ∈ os) → SameP os (mapN Value.ref as) (mapN Value.ref bs)
  | [], [], [], _, _, os, _, _, _, _ => .nil os
  | q :: V, a :: as, b :: bs, ts, us, os, h1, h2, h3, h4 =>
    .cons a b q.1 q.2 q.1 q.2 _ _ _ _ (h3 _ (.head _)) (h4 _ (.head _)) rfl rfl (same_tups V as bs _ _ os (Nat.succ.inj h1) (Nat.succ.inj h2) (fun x hx => h3 x (.tail _ hx)) (fun x hx => h4 x (.tail _ hx)))
  | [], _ :: _, _, _, _, _, h, _, _, _ => nomatch h
  | [], [], _ :: _, _, _, _, _, h, _, _ => nomatch h
  | _ :: _, [], _, _, _, _, h, _, _, _ => nomatch h
  | _ :: _, _ :: _, [], _, _, _, _, h, _, _ => nomatch h
theorem same_td (a b : Int) (as bs ts us : List Nat) (h1 : as.length = 31) (h2 : bs.length = 31) : SameP (R.appendR (zipN as (tupsOf (trV a b) ts)) (zipN bs (tupsOf (dueV a b) us))) (mapN Value.ref as) (mapN Value.ref bs) := by
  rw [← tr_due]
  exact same_tups (trV a b) as bs ts us _ h1 h2 (fun x hx => mem_app.mpr (.inl hx)) (fun x hx => mem_app.mpr (.inr hx))
theorem lf_len (f : Nat → Nat) : ∀ n m, (listFrom f m n).length = n
  | 0, _ => rfl
  | n + 1, m => by rw [listFrom_succ, List.length_cons, lf_len f n (m + 1)]
end
end
section
open PySem PySem.Spec PySem.Calls PyProof.Rows PySem.W PySem.W.X
section
variable {prog : Program} {w : World} {kt : KT}
noncomputable abbrev n_script : Str := ⟨#[115, 99, 114, 105, 112, 116]⟩
noncomputable abbrev n_numbers : Str := ⟨#[110, 117, 109, 98, 101, 114, 115]⟩
noncomputable abbrev n_total : Str := ⟨#[116, 111, 116, 97, 108]⟩
noncomputable abbrev n_two : Str := ⟨#[116, 119, 111]⟩
noncomputable abbrev n_one : Str := ⟨#[111, 110, 101]⟩
noncomputable abbrev n_other : Str := ⟨#[111, 116, 104, 101, 114]⟩
noncomputable abbrev n_first : Str := ⟨#[102, 105, 114, 115, 116]⟩
noncomputable abbrev n_lexer : Str := ⟨#[108, 101, 120, 101, 114]⟩
noncomputable abbrev n_told : Str := ⟨#[116, 111, 108, 100]⟩
noncomputable abbrev n_stands : Str := ⟨#[115, 116, 97, 110, 100, 115]⟩
noncomputable abbrev n_pairs : Str := ⟨#[112, 97, 105, 114, 115]⟩
noncomputable abbrev n_early : Str := ⟨#[101, 97, 114, 108, 121]⟩
noncomputable abbrev n_late : Str := ⟨#[108, 97, 116, 101]⟩
noncomputable abbrev n_number : Str := ⟨#[110, 117, 109, 98, 101, 114]⟩
noncomputable abbrev n_leaf : Str := ⟨#[108, 101, 97, 102]⟩
noncomputable def sL (kt : KT) : Stmt := nthS (bodyOf kt 113) 27
noncomputable def cLw (kt : KT) (it fr cl : Addr) : Code := forC (sL kt) (.ref it) ⟨(fdOf kt 113).scope, fr, 3, [(n_leaf, cl)], ⟨(fdOf kt 113).qualname.cps ++ dotLocals.cps⟩, some 113, .ref 112, some fr, 0⟩
structure LF where
  (fr it ls cl pl ro : Addr)
  f : Nat → Int × Nat
  v : Nat → Value
noncomputable def lfE (q : LF) (l : List DictEntry) : List DictEntry := ent n_script (q.f 0) (q.v 0) :: ent n_numbers (q.f 1) (q.v 1) :: ent n_root (q.f 2) (.ref q.ro) :: ent n_total (q.f 3) (q.v 3) :: ent n_two (q.f 4) (q.v 4) :: ent n_one (q.f 5) (q.v 5) :: ent n_word (q.f 6) (q.v 6) :: ent n_other (q.f 7) (q.v 7) :: ent n_first (q.f 8) (q.v 8) :: ent n_text (q.f 9) (q.v 9) :: ent n_at (q.f 10) (q.v 10) :: ent n_lexer (q.f 11) (q.v 11) :: ent n_told (q.f 12) (q.v 12) :: ent n_stands (q.f 13) (q.v 13) :: ent n_pairs (q.f 14) (.ref q.pl) :: ent n_early (q.f 15) (q.v 15) :: ent n_late (q.f 16) (q.v 16) :: l
noncomputable def lfr0 (q : LF) : Obj := frameO (lfE q []) 17
noncomputable def lfr1 (q : LF) (a b c d : Value) : Obj := frameO (lfE q [ent n_number (q.f 17) a, ent n_figures (q.f 18) b, ent n_col (q.f 19) c, ent n_pair (q.f 20) d]) 21
noncomputable def lit (ls : Addr) (i : Int) : Obj := ⟨.type "list_iterator", none, .fields #[.ref ls, .int i 0], #[]⟩
noncomputable def LbOk (prog : Program) (w : World) (kt : KT) (c : WC) (c0 c1 c2 c3 : Nat) (b : Bool) (col x y A B : Int) : Prop :=
  ∀ ft ct pa xt yt ro at_ bt, CkOk prog w kt (.call (.ref 108) ⟨[.str ⟨#[c0, c1, c2, c3]⟩ ft, .bool b, .int col ct, .ref pa, .ref ro], []⟩) 380 2500
    [(86, tabO 93 4 c.sc), (c.sc, scO c), (c.st, tabO 103 19 c.lc), (c.lc, lcO c), pairG pa x xt y yt, pairG ro A at_ B bt] (fun _ _ => [tabO 93 4 c.sc, scO c, tabO 103 19 c.lc, lcO c, tupO [.int x xt, .int y yt], tupO [.int A at_, .int B bt]]) 0 (fun _ _ => []) 0 (fun _ _ => .ok (.ret (.bool true)))
noncomputable def LbcOk (prog : Program) (w : World) (kt : KT) (c0 c1 c2 c3 : Nat) (x y A B : Int) : Prop :=
  ∀ ft ct pa xt yt ro at_ bt, CkOk prog w kt (.call (.ref 108) ⟨[.str ⟨#[c0, c1, c2, c3]⟩ ft, .bool false, .int 1 ct, .ref pa, .ref ro], []⟩) 380 2500
    [(86, tableObj #[]), pairG pa x xt y yt, pairG ro A at_ B bt] (fun as _ => [tabO 93 4 (nthN as 0), tupO [.int x xt, .int y yt], tupO [.int A at_, .int B bt]]) 3
    (fun as ts => [scO (wc1 (wc0 (nthN as 0) (nthN as 1) ts) (nthN as 2) (dropN 7 ts)), tabO 103 19 (wc1 (wc0 (nthN as 0) (nthN as 1) ts) (nthN as 2) (dropN 7 ts)).lc, lcO (wc1 (wc0 (nthN as 0) (nthN as 1) ts) (nthN as 2) (dropN 7 ts))]) 17 (fun _ _ => .ok (.ret (.bool true)))
noncomputable def pReprC (n : Int) (t : Nat) (c : Nat) (h : strI n = ⟨#[c]⟩) (hl : n.natAbs.log2 < 1920) : Ck prog w kt :=
  ⟨.call (.builtin "int.__repr__") ⟨[.int n t], []⟩, 900, 9000, [], fun _ _ => [], 0, fun _ _ => [], 1, fun _ ts => .ok (.ret (.str ⟨#[c]⟩ (nthN ts 0))), fun A s R a b c' d e f g i j hR =>
    (pRepr (prog := prog) (w := w) (kt := kt) n t hl (by rw [h]; exact len1 c)).ok A s R a b c' d e f g i j (fun as ts h' tk' h1 h2 h3 h4 h5 h6 => by
      have := hR as ts h' tk' h1 h2 h3 h4 h5 h6
      rw [← h] at this
      exact this)⟩
structure Bits (n leaf : Int) (c0 c1 c2 c3 : Nat) (b0 b1 b2 b3 : Int) : Prop where
  m : Int.fmod n 16 = leaf
  f0 : Int.fmod (Int.fdiv leaf 8) 2 = b0
  f1 : Int.fmod (Int.fdiv leaf 4) 2 = b1
  f2 : Int.fmod (Int.fdiv leaf 2) 2 = b2
  f3 : Int.fmod (Int.fdiv leaf 1) 2 = b3
  s0 : strI b0 = ⟨#[c0]⟩
  s1 : strI b1 = ⟨#[c1]⟩
  s2 : strI b2 = ⟨#[c2]⟩
  s3 : strI b3 = ⟨#[c3]⟩
  g0 : b0.natAbs.log2 < 1920
  g1 : b1.natAbs.log2 < 1920
  g2 : b2.natAbs.log2 < 1920
  g3 : b3.natAbs.log2 < 1920
structure Pick (pv : List Value) (leaf : Int) (a b : Int) (q : Int) (r : Addr) : Prop where
  d : Int.fdiv leaf a = q
  h0 : 0 ≤ b + q - 1
  h1 : b + q - 1 < 2 ^ 63
  hx : pv[(b + q - 1).toNat]? = some (.ref r)
end
end
section
open PySem PySem.Spec PySem.Calls PyProof.Rows PySem.W PySem.W.X
section
variable {prog : Program} {w : World} {kt : KT}
noncomputable def pListNext (it l : Addr) (vs : List Value) (n i : Nat) (x : Value) (h : vs[i]? = some x) : Ck prog w kt where
  c := .call (.builtin "list_iterator.__next__") ⟨[.ref it], []⟩
  dep := 900
  uni := 9000
  rd := [(it, lit l (i : Nat)), (l, listO vs n)]
  po := fun _ _ => [lit l ((i : Nat) + 1), listO vs n]
  na := 0
  nw := fun _ _ => []
  nt := 0
  res := fun _ _ => .ok (.ret x)
  ok := by
    intro A s R _ _ _ _ _ _ hrd hnd _ hR
    have e := hrd _ (.head _)
    have e2 := hrd _ (.tail _ (.head _))
    have hne : l ≠ it := by
      intro z
      rw [List.map_cons, List.map_cons, List.nodup_cons] at hnd
      exact hnd.1 (by rw [z]; exact .head _)
    have hl := list_is e2
    have hit : s.heap.IsListIter it l i := ⟨_, e, rfl, rfl⟩
    obtain ⟨o, ho, hc, hd⟩ := id hit
    obtain ⟨ol, hol, _, nl, hdl⟩ := hl
    refine codeAny_call_builtin slot_listiter_next.plain entry_listiter_next (slot_listiter_next.check _ _ _ _ _ _ _ _ hit.typeIs (args_listiter_next _) ?_)
    show wpAny _ _ (field (.ref it) 0 >>= _) _ _ s
    refine wpAny_bind (wpAny_field e rfl (x := .ref l) rfl ?_)
    show wpAny _ _ (if (Value.ref l == Value.none) = true then _ else _) _ _ s
    rw [if_neg (show ¬ ((Value.ref l == Value.none) = true) from Bool.false_ne_true)]
    show wpAny _ _ (field (.ref it) 1 >>= _) _ _ s
    refine wpAny_bind (wpAny_field e rfl (x := .int i 0) rfl ?_)
    show wpAny _ _ (seqItems? (.ref l) >>= _) _ _ s
    refine wpAny_bind (wpAny_seqItems hol hdl ?_)
    have hx : (⟨vs⟩ : Array Value)[i]? = some x := by simpa using h
    simp only [Int.toNat_natCast, hx]
    refine wpAny_bind (wpAny_setField_rec e (by simp) fun h1 x1 y1 => ?_)
    refine wpAny_pure ?_
    refine hR [] [] h1 s.toks rfl rfl ⟨List.nodup_nil, fun _ z => nomatch z⟩ (fun _ z => nomatch z) (fun q hq => ?_) ⟨by rw [y1.1]; exact Nat.le_refl _, fun b o hb hn => (y1.2 b (fun z => hn (by rw [z]; exact .head _))).trans hb⟩
    rcases List.mem_cons.mp hq with rfl | hq
    · simpa [lit, rawInt] using x1
    · rcases List.mem_cons.mp hq with rfl | hq
      · exact (y1.2 l hne).trans e2
      · cases hq
noncomputable def litD (i : Nat) : Obj := ⟨.type "list_iterator", none, .fields #[.none, .int (i : Nat) 0], #[]⟩
noncomputable def pListEnd (it l : Addr) (vs : List Value) (n i : Nat) (h : vs[i]? = none) : Ck prog w kt where
  c := .call (.builtin "list_iterator.__next__") ⟨[.ref it], []⟩
  dep := 900
  uni := 9000
  rd := [(it, lit l (i : Nat)), (l, listO vs n)]
  po := fun _ _ => [litD i, listO vs n]
  na := 2
  nw := fun as _ => [tupO [], stopO (nthN as 0)]
  nt := 0
  res := fun as _ => .error (.ref (nthN as 1))
  ok := by
    intro A s R _ _ a3 _ _ _ hrd hnd _ hR
    have e := hrd _ (.head _)
    have e2 := hrd _ (.tail _ (.head _))
    have hne : l ≠ it := by
      intro z
      rw [List.map_cons, List.map_cons, List.nodup_cons] at hnd
      exact hnd.1 (by rw [z]; exact .head _)
    have hl := list_is e2
    have hit : s.heap.IsListIter it l i := ⟨_, e, rfl, rfl⟩
    obtain ⟨o, ho, hc, hd⟩ := id hit
    obtain ⟨ol, hol, _, nl, hdl⟩ := hl
    refine codeAny_call_builtin slot_listiter_next.plain entry_listiter_next (slot_listiter_next.check _ _ _ _ _ _ _ _ hit.typeIs (args_listiter_next _) ?_)
    show wpAny _ _ (field (.ref it) 0 >>= _) _ _ s
    refine wpAny_bind (wpAny_field e rfl (x := .ref l) rfl ?_)
    show wpAny _ _ (if (Value.ref l == Value.none) = true then _ else _) _ _ s
    rw [if_neg (show ¬ ((Value.ref l == Value.none) = true) from Bool.false_ne_true)]
    show wpAny _ _ (field (.ref it) 1 >>= _) _ _ s
    refine wpAny_bind (wpAny_field e rfl (x := .int i 0) rfl ?_)
    show wpAny _ _ (seqItems? (.ref l) >>= _) _ _ s
    refine wpAny_bind (wpAny_seqItems hol hdl ?_)
    have hx : (⟨vs⟩ : Array Value)[i]? = none := by simpa using h
    simp only [Int.toNat_natCast, hx]
    refine wpAny_bind (wpAny_rule (wpAny_bind (wpAny_setField_rec e (by simp) fun h1 x1 y1 => ?_)))
    refine wpAny_stop a3 ?_
    have kp : ∀ q o, h1.get? q = some o → ((h1.push (tupO [])).push (stopO h1.objs.size)).get? q = some o := fun q o ho => Heap.get?_push_of_some _ (Heap.get?_push_of_some _ ho)
    refine hR [h1.objs.size, h1.objs.size + 1] [] ((h1.push (tupO [])).push (stopO h1.objs.size)) s.toks rfl rfl ⟨by simp, fun a ha => ?_⟩ (fun q hq => ?_) (fun q hq => ?_) ⟨?_, fun b o hb hn => kp b o ((y1.2 b (fun z => hn (by rw [z]; exact .head _))).trans hb)⟩
    · rw [Heap.size_push, Heap.size_push]
      have ha : a = h1.objs.size ∨ a = h1.objs.size + 1 := by simpa using ha
      have sz := y1.1
      rcases ha with rfl | rfl
      · exact ⟨by rw [sz]; exact Nat.le_refl _, Nat.lt_succ_of_lt (Nat.lt_succ_self _)⟩
      · exact ⟨by rw [sz]; exact Nat.le_succ _, Nat.lt_succ_self _⟩
    · rcases List.mem_cons.mp hq with rfl | hq
      · exact Heap.get?_push_of_some _ (Heap.get?_push_size _ rfl)
      · rcases List.mem_cons.mp hq with rfl | hq
        · have := Heap.get?_push_size (h1.push (tupO [])) (o := stopO h1.objs.size) rfl
          rw [Heap.size_push] at this
          exact this
        · cases hq
    · rcases List.mem_cons.mp hq with rfl | hq
      · exact kp _ _ (by simpa [lit, litD] using x1)
      · rcases List.mem_cons.mp hq with rfl | hq
        · exact kp _ _ ((y1.2 l hne).trans e2)
        · cases hq
    · rw [Heap.size_push, Heap.size_push, y1.1]; omega
end
end
section
open PySem PySem.Spec PySem.Calls PyProof.Rows PySem.W PySem.W.X
section
variable {prog : Program} {w : World} {kt : KT}
theorem run_gen {cert : Cert prog w kt} {dep uni : Nat} {c : Code} {rd : List (Addr × Obj)} (A : Around) (h : Heap) (g : Array GenState) (d : Drawn) (toks : Nat) (os : OsState) (R : Result → Shared → Prop)
    (hd : A.depth ≤ dep) (hu : A.units ≤ uni) (hh : A.handled = none) (hN : N0 ≤ h.objs.size) (hL : h.NoLimit) (hS : Stat kt h)
    (hF : Facts h rd) (hnd : (rd.map Prod.fst).Nodup) (hhi : ∀ q ∈ rd, N0 ≤ q.1 ∨ exB q.1 = true)
    (X : SOk kt h h.objs.size (rd.map Prod.fst) → ∀ al tau, Good A R h h.objs.size g d os al (whole cert dep uni c rd al tau)) : codeAny (model prog w) A c R ⟨h, g, d, toks, os⟩ := by
  have S : SOk kt h h.objs.size (rd.map Prod.fst) := ⟨rfl, hN, hS, fun a ha => by
    obtain ⟨q, hq, e⟩ := List.mem_map.mp ha
    exact ⟨e ▸ hhi q hq, e ▸ Heap.lt_size (hF q hq)⟩, hnd, hL⟩
  have D : SRep (fun _ => 0) h h h.objs.size rd .nil 0 := by
    refine ⟨Nat.le_refl _, fun j p e => ?_, fun i o e => (by cases i <;> cases e), fun i hi => absurd hi (Nat.not_lt_zero _), fun i j hi => absurd hi (Nat.not_lt_zero _), fun b o e _ => e⟩
    have : ∀ (G : List (Addr × Obj)) (j : Nat), place (fun _ => 0) BT.nil G j = some p → p ∈ G := by
      intro G
      induction G with
      | nil =>
        intro j e
        unfold place at e
        have : BT.nil.get j = none := by cases j <;> rfl
        rw [this] at e; cases e
      | cons x r ih =>
        intro j e
        unfold place at e
        cases q : Nat.beq j 0 with
        | true => rw [q] at e; cases e; exact .head _
        | false => rw [q] at e; exact .tail _ (ih _ e)
    exact hF p (this rd j e)
  have hA : AOk (⟨false, dep, uni⟩ : SE) A := ⟨hd, hu, hh⟩
  have z := sim_sound (prog := prog) (w := w) (R₀ := R) (g := g) (d := d) (os := os) S hA 100000 (fun _ => 0) (fun _ => 0) cert c .base (den c) rd .nil 0 0 [] h toks rfl D fun al tau _ => X S al tau
  refine y_code _ _ _ _ _ _ ?_
  rw [den_eq]
  exact z
theorem end_facts {al : Nat → Addr} {h h' : Heap} {G : List (Addr × Obj)} {T : BT} {m : Nat} {js : List Nat} {keys : List Addr} {po nw : List Obj}
    (D : SRep al h h' h.objs.size G T m) (e3 : G = keys.zip po) (e4 : js.map T.get = nw.map some) (hj : nodupB js = true) :
    Fresh h h' (js.map al) ∧ Facts h' ((js.map al).zip nw) ∧ Facts h' (keys.zip po) ∧ KeptBut keys h h' := by
  refine ⟨⟨nodup_map D.inj js (get_all D.bnd js _ e4) hj, fun a ha => ?_⟩, fun y hy => ?_, fun y hy => ?_, ⟨D.lo, fun b o' hb hk => D.keep b o' hb fun hm => hk ?_⟩⟩
  · obtain ⟨j, hj', e⟩ := List.mem_map.mp ha
    rw [← e]
    exact D.adr j (get_all D.bnd js _ e4 j hj')
  · obtain ⟨i, h1, h2⟩ := zip_own js _ e4 y hy
    have := D.plc _ _ (place_own (al := al) h1 G)
    rw [h2]; exact this
  · rw [← e3] at hy
    obtain ⟨j, ej⟩ := place_mem (al := al) (T := T) G y hy
    exact D.plc j y ej
  · rw [e3] at hm
    obtain ⟨q', hq', e⟩ := List.mem_map.mp hm
    rw [← e]
    exact (List.of_mem_zip (a := q'.1) (b := q'.2) hq').1
noncomputable def outA (js : List Nat) : Out prog w kt → List Side × Option (Code × List (Addr × Obj) × List (Option Obj))
  | .agn c' κ G T _ _ o => match κ with
    | .base => (lefts o, some (c', G, mapN T.get js))
    | _ => (lefts o, none)
  | x => (lefts x.ob, none)
noncomputable def RunEqA (cert : Cert prog w kt) (dep uni : Nat) (c : Code) (rd : List (Addr × Obj)) (js : List Nat) (tf : (Nat → Addr) → (Nat → Nat) → List Nat) (po nw : List Addr → List Nat → List Obj) (c' : Code) : Prop :=
  ∀ al tau, outA js (whole cert dep uni c rd al tau) = (rights (whole cert dep uni c rd al tau).ob, some (c', zipN (mapN Prod.fst rd) (po (mapN al js) (tf al tau)), mapN some (nw (mapN al js) (tf al tau))))
theorem run_okA {cert : Cert prog w kt} {dep uni : Nat} {c c' : Code} {rd : List (Addr × Obj)} {js : List Nat} {tf : (Nat → Addr) → (Nat → Nat) → List Nat} {nt : Nat} {po nw : List Addr → List Nat → List Obj}
    (htf : ∀ al tau, (tf al tau).length = nt) (H : RunEqA cert dep uni c rd js tf po nw c') (hj : nodupB js = true) :
    ∀ (A : Around) (s : Shared) (R : Result → Shared → Prop), A.depth ≤ dep → A.units ≤ uni → A.handled = none → N0 ≤ s.heap.objs.size → s.heap.NoLimit → Stat kt s.heap →
    Facts s.heap rd → (rd.map Prod.fst).Nodup → (∀ q ∈ rd, N0 ≤ q.1 ∨ exB q.1 = true) →
    (∀ as ts h' tk', as.length = js.length → ts.length = nt → Fresh s.heap h' as → Facts h' (as.zip (nw as ts)) → Facts h' ((rd.map Prod.fst).zip (po as ts)) → KeptBut (rd.map Prod.fst) s.heap h' →
      codeAny (model prog w) A c' R ⟨h', s.gens, s.drawn, tk', s.os⟩) → codeAny (model prog w) A c R s := by
  intro A s R hd hu hh hN hL hS hF hnd hhi hR
  obtain ⟨h, g, d, toks, os⟩ := s
  dsimp only at hN hL hS hF hR
  refine run_gen (cert := cert) (dep := dep) (uni := uni) A h g d toks os R hd hu hh hN hL hS hF hnd hhi fun S al tau => ?_
  have e := H al tau
  cases q : whole cert dep uni c rd al tau with
  | agn c₁ κ G T m k o =>
    rw [q] at e
    cases κ with
    | base =>
      have e1 : (lefts o, some (c₁, G, mapN T.get js)) = (rights o, _) := e
      injection e1 with e1 e2
      injection e2 with e2
      injection e2 with e2 e3
      injection e3 with e3 e4
      refine ⟨pairs_of e1, fun h' toks' D' => ?_⟩
      simp only [mapN_eq, zipN_eq] at e3 e4
      obtain ⟨f0, f1, f2, f3⟩ := end_facts D' e3 e4 hj
      rw [e2]
      exact hR (js.map al) (tf al tau) h' toks' (List.length_map ..) (htf al tau) f0 f1 f2 f3
    | ret _ _ _ _ => cases (congrArg Prod.snd e)
  | done => rw [q] at e; cases (congrArg Prod.snd e)
  | halt => rw [q] at e; cases (congrArg Prod.snd e)
  | stop => rw [q] at e; cases (congrArg Prod.snd e)
noncomputable def resume (cert2 : Cert prog w kt) (dep uni : Nat) (al2 : Nat → Addr) (tau2 : Nat → Nat) : Out prog w kt → Out prog w kt
  | .halt _ c _ f κ _ _ _ _ _ => sim ⟨false, dep, uni⟩ al2 tau2 100000 cert2 c κ (f (.ok .next)) [] .nil 0 0 []
  | x => x
noncomputable def outH (dep uni depL uniL : Nat) (js : List Nat) : Out prog w kt → List Side × Option (Code × List (Addr × Obj) × List (Option Obj) × Bool)
  | .halt c' c hd f κ G T _ _ o => (lefts o, some (c', G, mapN T.get js, match Nat.ble (depthOf dep (.ret c hd f κ)) depL with
    | true => match Nat.ble (unitsOfK uni (.ret c hd f κ)) uniL with
      | true => match okMark hd with
        | true => match handledK (.ret c hd f κ) with
          | none => true
          | some _ => false
        | false => false
      | false => false
    | false => false))
  | x => (lefts x.ob, none)
noncomputable def outR : Out prog w kt → List Side × Option (Result × List (Addr × Obj))
  | .done r G _ _ _ o => (lefts o, some (r, G))
  | x => (lefts x.ob, none)
noncomputable def RunEqH (cert cert2 : Cert prog w kt) (dep uni depL uniL : Nat) (c : Code) (rd : List (Addr × Obj)) (js : List Nat) (tf : (Nat → Addr) → (Nat → Nat) → List Nat) (po nw : List Addr → List Nat → List Obj) (c' : List Addr → List Nat → Code) (r : Result) : Prop :=
  (∀ al tau, outH dep uni depL uniL js (whole cert dep uni c rd al tau) = (rights (whole cert dep uni c rd al tau).ob, some (c' (mapN al js) (tf al tau), zipN (mapN Prod.fst rd) (po (mapN al js) (tf al tau)), mapN some (nw (mapN al js) (tf al tau)), true))) ∧
  (∀ al tau al2 tau2, outR (resume cert2 dep uni al2 tau2 (whole cert dep uni c rd al tau)) = (rights (resume cert2 dep uni al2 tau2 (whole cert dep uni c rd al tau)).ob, some (r, [])))
theorem run_okH {cert cert2 : Cert prog w kt} {dep uni depL uniL : Nat} {c : Code} {rd : List (Addr × Obj)} {js : List Nat} {tf : (Nat → Addr) → (Nat → Nat) → List Nat} {nt : Nat} {po nw : List Addr → List Nat → List Obj} {c' : List Addr → List Nat → Code} {r : Result} (P : Heap → Prop)
    (htf : ∀ al tau, (tf al tau).length = nt) (H : RunEqH cert cert2 dep uni depL uniL c rd js tf po nw c' r) (hj : nodupB js = true) (hpl : ∀ as ts, (po as ts).length = rd.length) :
    ∀ (A : Around) (s : Shared) (R : Result → Shared → Prop), A.depth ≤ dep → A.units ≤ uni → A.handled = none → N0 ≤ s.heap.objs.size → s.heap.NoLimit → Stat kt s.heap →
    Facts s.heap rd → (rd.map Prod.fst).Nodup → (∀ q ∈ rd, N0 ≤ q.1 ∨ exB q.1 = true) →
    (∀ as ts h' tk' A' R', as.length = js.length → ts.length = nt → Fresh s.heap h' as → Facts h' (as.zip (nw as ts)) → Facts h' ((rd.map Prod.fst).zip (po as ts)) → KeptBut (rd.map Prod.fst) s.heap h' →
      A'.depth ≤ depL → A'.units ≤ uniL → A'.handled = none → N0 ≤ h'.objs.size → h'.NoLimit → Stat kt h' →
      (∀ h'' tk'', N0 ≤ h''.objs.size → h''.NoLimit → Stat kt h'' → P h'' → R' (.ok .next) ⟨h'', s.gens, s.drawn, tk'', s.os⟩) → codeAny (model prog w) A' (c' as ts) R' ⟨h', s.gens, s.drawn, tk', s.os⟩) →
    (∀ h'' h' tk', P h'' → KeptBut [] h'' h' → R r ⟨h', s.gens, s.drawn, tk', s.os⟩) → codeAny (model prog w) A c R s := by
  intro A s R hd hu hh hN hL hS hF hnd hhi hR hE
  obtain ⟨h, g, d, toks, os⟩ := s
  dsimp only at hN hL hS hF hR hE
  refine run_gen (cert := cert) (dep := dep) (uni := uni) A h g d toks os R hd hu hh hN hL hS hF hnd hhi fun S al tau => ?_
  have e := H.1 al tau
  have hA : AOk (⟨false, dep, uni⟩ : SE) A := ⟨hd, hu, hh⟩
  cases q : whole cert dep uni c rd al tau with
  | halt c₁ c₀ mk f κ G T m k o =>
    rw [q] at e
    have e1 : (lefts o, some (c₁, G, mapN T.get js, _)) = (rights o, _) := e
    injection e1 with e1 e2
    injection e2 with e2
    injection e2 with e2 e3
    injection e3 with e3 e4
    injection e4 with e4 e5
    split at e5 <;> first | cases e5 | rename_i b1
    split at e5 <;> first | cases e5 | rename_i b2
    split at e5 <;> first | cases e5 | rename_i b3
    have b4 : handledK (.ret c₀ mk f κ) = none := by
      cases hz : handledK (.ret c₀ mk f κ) with
      | none => rfl
      | some v => rw [hz] at e5; cases e5
    refine ⟨pairs_of e1, fun h' toks' D' => ?_⟩
    simp only [mapN_eq, zipN_eq] at e3 e4
    obtain ⟨f0, f1, f2, f3⟩ := end_facts D' e3 e4 hj
    have hk : G.map Prod.fst = rd.map Prod.fst := by
      rw [e3, List.map_fst_zip]
      rw [List.length_map, hpl]
      exact Nat.le_refl _
    rw [e2]
    refine hR (mapN al js) (tf al tau) h' toks' _ _ (by rw [mapN_eq, List.length_map]) (htf al tau) (by rw [mapN_eq]; exact f0) (by rw [mapN_eq]; exact f1) (by rw [mapN_eq]; exact f2) f3 ?_ ?_ ?_ (Nat.le_trans S.top D'.lo) (D'.noLimit S hk) (D'.stat S hk) fun h'' tk'' z1 z2 z3 zP => ?_
    · exact Nat.le_trans (depth_le hA (.ret c₀ mk f κ)) (Nat.le_of_ble_eq_true b1)
    · exact Nat.le_trans (units_le hA (.ret c₀ mk f κ)) (Nat.le_of_ble_eq_true b2)
    · exact (handled_is hA (.ret c₀ mk f κ)).trans b4
    · have S2 : SOk kt h'' h''.objs.size [] := ⟨rfl, z1, z3, fun a ha => (nomatch ha), List.nodup_nil, z2⟩
      have D2 : SRep (fun _ => 0) h'' h'' h''.objs.size [] .nil 0 :=
        ⟨Nat.le_refl _, fun j p e => (by unfold place at e; have : BT.nil.get j = none := (by cases j <;> rfl); rw [this] at e; cases e), fun i o e => (by cases i <;> cases e), fun i hi => absurd hi (Nat.not_lt_zero _), fun i j hi => absurd hi (Nat.not_lt_zero _), fun b o e _ => e⟩
      refine sim_sound (prog := prog) (w := w) (R₀ := R) (g := g) (d := d) (os := os) S2 hA 100000 (fun _ => 0) (fun _ => 0) cert2 c₀ κ (f (.ok .next)) [] .nil 0 0 [] h'' tk'' rfl D2 fun al2 tau2 _ => ?_
      have u := H.2 al tau al2 tau2
      rw [q] at u
      change outR (sim ⟨false, dep, uni⟩ al2 tau2 100000 cert2 c₀ κ (f (.ok .next)) [] .nil 0 0 []) = _ at u
      show Good A R h'' h''.objs.size g d os al2 (sim ⟨false, dep, uni⟩ al2 tau2 100000 cert2 c₀ κ (f (.ok .next)) [] .nil 0 0 [])
      change _ = (rights (sim (kt := kt) ⟨false, dep, uni⟩ al2 tau2 100000 cert2 c₀ κ (f (.ok .next)) [] .nil 0 0 []).ob, some (r, [])) at u
      cases q2 : sim (kt := kt) ⟨false, dep, uni⟩ al2 tau2 100000 cert2 c₀ κ (f (.ok .next)) [] .nil 0 0 [] with
      | done r' G' T' m' k' o' =>
        rw [q2] at u
        have u1 : (lefts o', some (r', G')) = (rights o', some (r, [])) := u
        injection u1 with u1 u2
        injection u2 with u2
        injection u2 with u2 u3
        refine ⟨pairs_of u1, fun h3 tk3 D3 => u2 ▸ hE h'' h3 tk3 zP ⟨D3.lo, fun b o' hb _ => D3.keep b o' hb fun hm => ?_⟩⟩
        rw [u3] at hm
        cases hm
      | halt => rw [q2] at u; cases (congrArg Prod.snd u)
      | agn => rw [q2] at u; cases (congrArg Prod.snd u)
      | stop => rw [q2] at u; cases (congrArg Prod.snd u)
  | done => rw [q] at e; cases (congrArg Prod.snd e)
  | agn => rw [q] at e; cases (congrArg Prod.snd e)
  | stop => rw [q] at e; cases (congrArg Prod.snd e)
end
end
section
open PySem PySem.W PySem.W.X PyProof.Rows
section
variable {prog : Program} {w : World} {kt : KT}
noncomputable def putT (v : Nat) (sp : List (Tg prog w kt)) (go : List (Tg prog w kt) → List (Tg prog w kt)) : List (Tg prog w kt) := match v with
  | 0 => []
  | 1 => .d :: go sp
  | 2 => .q :: go sp
  | 3 => .e :: go sp
  | 4 => .h :: go sp
  | 5 => match sp with
    | [] => []
    | x :: sp' => x :: go sp'
  | d + 6 => .i d :: go sp
noncomputable def unM (d : List Nat) (k : List (Tg prog w kt) → List (Tg prog w kt)) (f : Nat) : Nat → List (Tg prog w kt) → List (Tg prog w kt) :=
  @Nat.rec (fun _ => Nat → List (Tg prog w kt) → List (Tg prog w kt)) (fun _ sp => k sp)
    (fun _ ih n sp => match Nat.beq (Nat.mod n 16) 15 with
      | true => putT (Nat.mod (Nat.div n 16) 4096) sp (ih (Nat.div n 65536))
      | false => match Nat.mod n 16 with
        | 0 => k sp
        | j + 1 => putT (nthN d j) sp (ih (Nat.div n 16))) f
noncomputable def unq (d : List Nat) : List Nat → List (Tg prog w kt) → List (Tg prog w kt)
  | [], _ => []
  | n :: r, sp => unM d (unq d r) 64 n sp
noncomputable def idN (n : Nat) (ts : List Nat) : List Nat := listFrom (nthN ts) 0 n
noncomputable def CkA (prog : Program) (w : World) (kt : KT) (c : Code) (dep uni : Nat) (rd : List (Addr × Obj)) (po : List Addr → List Nat → List Obj) (na : Nat) (nw : List Addr → List Nat → List Obj) (nt : Nat) (c' : Code) : Prop :=
    ∀ (A : Around) (s : Shared) (R : Result → Shared → Prop), A.depth ≤ dep → A.units ≤ uni → A.handled = none → N0 ≤ s.heap.objs.size → s.heap.NoLimit → Stat kt s.heap →
    Facts s.heap rd → (rd.map Prod.fst).Nodup → (∀ q ∈ rd, N0 ≤ q.1 ∨ exB q.1 = true) →
    (∀ as ts h' tk', as.length = na → ts.length = nt → Fresh s.heap h' as → Facts h' (as.zip (nw as ts)) → Facts h' ((rd.map Prod.fst).zip (po as ts)) → KeptBut (rd.map Prod.fst) s.heap h' →
      codeAny (model prog w) A c' R ⟨h', s.gens, s.drawn, tk', s.os⟩) → codeAny (model prog w) A c R s
noncomputable def CkH (prog : Program) (w : World) (kt : KT) (c : Code) (dep uni depL uniL : Nat) (rd : List (Addr × Obj)) (po : List Addr → List Nat → List Obj) (na : Nat) (nw : List Addr → List Nat → List Obj) (nt : Nat) (c' : List Addr → List Nat → Code) (r : Result) : Prop :=
    ∀ (P : Heap → Prop) (A : Around) (s : Shared) (R : Result → Shared → Prop), A.depth ≤ dep → A.units ≤ uni → A.handled = none → N0 ≤ s.heap.objs.size → s.heap.NoLimit → Stat kt s.heap →
    Facts s.heap rd → (rd.map Prod.fst).Nodup → (∀ q ∈ rd, N0 ≤ q.1 ∨ exB q.1 = true) →
    (∀ as ts h' tk' A' R', as.length = na → ts.length = nt → Fresh s.heap h' as → Facts h' (as.zip (nw as ts)) → Facts h' ((rd.map Prod.fst).zip (po as ts)) → KeptBut (rd.map Prod.fst) s.heap h' →
      A'.depth ≤ depL → A'.units ≤ uniL → A'.handled = none → N0 ≤ h'.objs.size → h'.NoLimit → Stat kt h' →
      (∀ h'' tk'', N0 ≤ h''.objs.size → h''.NoLimit → Stat kt h'' → P h'' → R' (.ok .next) ⟨h'', s.gens, s.drawn, tk'', s.os⟩) → codeAny (model prog w) A' (c' as ts) R' ⟨h', s.gens, s.drawn, tk', s.os⟩) →
    (∀ h'' h' tk', P h'' → KeptBut [] h'' h' → R r ⟨h', s.gens, s.drawn, tk', s.os⟩) → codeAny (model prog w) A c R s
theorem ckP (cert : Cert prog w kt) (js ks : List Nat) {dep uni : Nat} {c : Code} {rd : List (Addr × Obj)} {po nw : List Addr → List Nat → List Obj} {res : List Addr → List Nat → Result} {na nt : Nat}
    (H : RunEq cert dep uni c rd js ks po nw res := by intro _ _; kernel_rfl) (hj : nodupB js = true := by rfl) (ha : js.length = na := by rfl) (ht : ks.length = nt := by rfl) : CkOk prog w kt c dep uni rd po na nw nt res := by
  subst ha ht
  exact run_ok H hj
theorem ckG (cert : Cert prog w kt) (js ks : List Nat) (g : List Nat → List Nat) {dep uni : Nat} {c : Code} {rd : List (Addr × Obj)} {po nw : List Addr → List Nat → List Obj} {res : List Addr → List Nat → Result} {na nt : Nat}
    (H : RunEq cert dep uni c rd js ks (fun as ts => po as (g ts)) (fun as ts => nw as (g ts)) (fun as ts => res as (g ts)) := by intro _ _; kernel_rfl) (hj : nodupB js = true := by rfl) (ha : js.length = na := by rfl) (ht : ∀ ts, (g ts).length = nt := by intro; rfl) : CkOk prog w kt c dep uni rd po na nw nt res :=
  ckOf g ht H hj ha
theorem ckX (cert : Cert prog w kt) (js ks es : List Nat) (g : List Nat → List Nat → List Nat) {dep uni : Nat} {c : Code} {rd : List (Addr × Obj)} {po nw : List Addr → List Nat → List Obj} {res : List Addr → List Nat → Result} {na nt : Nat}
    (H : RunEqT cert dep uni c rd js (fun al tau => g (mapN tau ks) (mapN al es)) po nw res := by intro _ _; kernel_rfl) (hj : nodupB js = true := by rfl) (ha : js.length = na := by rfl) (ht : ∀ ts es, (g ts es).length = nt := by intros; rfl) : CkOk prog w kt c dep uni rd po na nw nt res :=
  ckOfX g ht H hj ha
theorem ckA (cert : Cert prog w kt) (js ks es : List Nat) (g : List Nat → List Nat → List Nat) {dep uni : Nat} {c c' : Code} {rd : List (Addr × Obj)} {po nw : List Addr → List Nat → List Obj} {na nt : Nat}
    (H : RunEqA cert dep uni c rd js (fun al tau => g (mapN tau ks) (mapN al es)) po nw c' := by intro _ _; kernel_rfl) (hj : nodupB js = true := by rfl) (ha : js.length = na := by rfl) (ht : ∀ ts es, (g ts es).length = nt := by intros; rfl) : CkA prog w kt c dep uni rd po na nw nt c' := by
  subst ha
  exact run_okA (fun _ _ => ht _ _) H hj
theorem ckH (cert cert2 : Cert prog w kt) (js ks es : List Nat) (g : List Nat → List Nat → List Nat) {dep uni depL uniL : Nat} {c : Code} {c' : List Addr → List Nat → Code} {rd : List (Addr × Obj)} {po nw : List Addr → List Nat → List Obj} {r : Result} {na nt : Nat}
    (H : RunEqH cert cert2 dep uni depL uniL c rd js (fun al tau => g (mapN tau ks) (mapN al es)) po nw c' r := by exact ⟨by intro _ _; kernel_rfl, by intro _ _ _ _; kernel_rfl⟩) (hj : nodupB js = true := by rfl) (ha : js.length = na := by rfl) (ht : ∀ ts es, (g ts es).length = nt := by intros; rfl)
    (hl : ∀ as ts, (po as ts).length = rd.length := by intros; rfl) : CkH prog w kt c dep uni depL uniL rd po na nw nt c' r := by
  subst ha
  exact fun P => run_okH P (fun _ _ => ht _ _) H hj hl
end
end
section
open PySem PySem.Spec PySem.Calls PyProof.Rows PySem.W PySem.W.X
section
variable {prog : Program} {w : World} {kt : KT}
noncomputable def hsAt (w : World) (l : List Str) : Nat → Int := @List.rec Str (fun _ => Nat → Int) (fun _ => 0) (fun x _ ih i => match Nat.beq i 0 with
  | true => hS w x
  | false => ih (i - 1)) l
noncomputable def lwF (w : World) (ts : List Nat) : Nat → Int × Nat := fun i => (hsAt w [n_script, n_numbers, n_root, n_total, n_two, n_one, n_word, n_other, n_first, n_text, n_at, n_lexer, n_told, n_stands, n_pairs, n_early, n_late] i, nthN ts i)
noncomputable def lwV (total : Int) (two one word other first text : Str) (ts : List Nat) : Nat → Value := fun i => nthV [.ref 114, .ref (nthN ts 24), .none, .int total (nthN ts 17), .str two (nthN ts 18), .str one (nthN ts 19), .str word (nthN ts 20), .str other (nthN ts 21), .str first (nthN ts 22), .str text (nthN ts 23), .ref (nthN ts 25), .ref (nthN ts 26), .ref (nthN ts 27), .ref (nthN ts 28), .none, .ref (nthN ts 29), .ref (nthN ts 30)] i
noncomputable def lwQ (w : World) (total : Int) (two one word other first text : Str) (as ts : List Nat) : LF := ⟨nthN as 0, nthN as 4, nthN as 3, nthN as 1, nthN as 5, nthN as 2, lwF w ts, lwV total two one word other first text ts⟩
noncomputable def cellN : Obj := ⟨.type "cell", none, .cell none, #[]⟩
noncomputable def lwNw (q : LF) (a b : Int) (ls : List Value) (as ts : List Nat) : List Obj :=
  lfr0 q :: cellN :: prO a (nthN ts 31) b (nthN ts 32) :: listO ls 0 :: lit q.ls 0 :: listO (mapN Value.ref (dropN 6 as)) 31 :: tupsOf (trV a b) (dropN 38 ts)
end
section
noncomputable def lqx (w : World) (q : LF) (ts : List Nat) : LF := ⟨q.fr, q.it, q.ls, q.cl, q.pl, q.ro, fun i => match Nat.ble i 16 with
  | true => q.f i
  | false => (hsAt w [n_number, n_figures, n_col, n_pair] (i - 17), nthN ts i), q.v⟩
noncomputable def fig4 (c0 c1 c2 c3 : Nat) : Str := ⟨#[c0, c1, c2, c3]⟩
noncomputable def wcOf (as ts : List Nat) : WC := wc1 (wc0 (nthN as 0) (nthN as 1) ts) (nthN as 2) (dropN 7 ts)
end
end
section
open PySem PySem.Spec PySem.Calls PySem.W PySem.W.X
section
variable {prog : Program} {w : World} {kt : KT}
section
variable (prog : Program) (w : World) (kt : KT)
noncomputable def E_uC : Prop := ∀ (X : RunsRC prog w kt) (Y : RunsRF prog w kt) (p : LP) (s : LS) (x : TF) (tok : Str) (tt : Nat) (ch : Str) (ct : Nat) (r : RR) (c : Nat) (l : Int) (hr : Rd p s.i s.l ⟨#[c+1]⟩ l) (h1 : c+1 ∉ [10, 9, 13, 32]) (h2 : c+1 ≠ 92) (h4 : (tok ++ (⟨#[c+1]⟩ : Str)).length ≤ sizeLine) (H : ∀ it lt t u, LOk prog w kt false p ⟨s.i + (⟨#[c+1]⟩ : Str).length, l, it, lt⟩ x (tok ++ (⟨#[c+1]⟩ : Str)) t ⟨#[c+1]⟩ u r), CkOk prog w kt (cU kt x.fi x.fr) 600 5000 (lG kt p s x tok tt ch ct) (fun _ ts => lPo kt p x r ts) 0 (fun _ _ => []) 4 (fun _ ts => lRes r ts)
noncomputable def E_uB : Prop := ∀ (X : RunsRC prog w kt) (Y : RunsRF prog w kt) (p : LP) (s : LS) (x : TF) (tok : Str) (tt : Nat) (ch : Str) (ct : Nat) (r : RR) (d : Nat) (l : Int) (h0 : Rd p s.i s.l ⟨#[92]⟩ s.l) (hr : Rd p (s.i + (⟨#[92]⟩ : Str).length) s.l ⟨#[d+1]⟩ l) (h4 : (tok ++ (⟨#[d+1]⟩ : Str)).length ≤ sizeLine) (H : ∀ it lt t u, LOk prog w kt false p ⟨s.i + (⟨#[92]⟩ : Str).length + (⟨#[d+1]⟩ : Str).length, l, it, lt⟩ x (tok ++ (⟨#[d+1]⟩ : Str)) t ⟨#[d+1]⟩ u r), CkOk prog w kt (cU kt x.fi x.fr) 600 5000 (lG kt p s x tok tt ch ct) (fun _ ts => lPo kt p x r ts) 0 (fun _ _ => []) 4 (fun _ ts => lRes r ts)
noncomputable def E_uW : Prop := ∀ (X : RunsRC prog w kt) (Y : RunsRF prog w kt) (p : LP) (s : LS) (x : TF) (tok : Str) (tt : Nat) (ch : Str) (ct : Nat) (c : Nat) (l : Int) (hr : Rd p s.i s.l ⟨#[c+1]⟩ l) (h1 : c+1 ∈ [10, 9, 13, 32]), CkOk prog w kt (cU kt x.fi x.fr) 600 5000 (lG kt p s x tok tt ch ct) (fun _ ts => lPo kt p x ⟨s.i + (⟨#[c+1]⟩ : Str).length, l, tok, ⟨#[c+1]⟩, false⟩ [nthN ts 0, nthN ts 1, tt, nthN ts 2]) 0 (fun _ _ => []) 3 (fun _ ts => lRes ⟨s.i + (⟨#[c+1]⟩ : Str).length, l, tok, ⟨#[c+1]⟩, false⟩ [nthN ts 0, nthN ts 1, tt, nthN ts 2])
noncomputable def E_uE : Prop := ∀ (X : RunsRC prog w kt) (Y : RunsRF prog w kt) (p : LP) (s : LS) (x : TF) (tok : Str) (tt : Nat) (ch : Str) (ct : Nat) (hr : OneAt p s.i ⟨#[]⟩) (fo : Obj) (fd : FuncData) (k35 : (kt).get 35 = some fo) (k35f : fo.data = .func fd), CkOk prog w kt (cU kt x.fi x.fr) 600 5000 (lG kt p s x tok tt ch ct) (fun _ ts => lPo kt p x ⟨s.i + (⟨#[]⟩ : Str).length, s.l, tok, ch, true⟩ [nthN ts 0, nthN ts 1, tt, ct]) 0 (fun _ _ => []) 2 (fun _ ts => lRes ⟨s.i + (⟨#[]⟩ : Str).length, s.l, tok, ch, true⟩ [nthN ts 0, nthN ts 1, tt, ct])
noncomputable def E_qC : Prop := ∀ (X : RunsRC prog w kt) (Y : RunsRF prog w kt) (p : LP) (s : LS) (x : TF) (tok : Str) (tt : Nat) (ch : Str) (ct : Nat) (r : RR) (c : Nat) (l : Int) (hr : Rd p s.i s.l ⟨#[c+1]⟩ l) (h1 : c+1 ≠ 34) (h2 : c+1 ≠ 92) (h4 : (tok ++ (⟨#[c+1]⟩ : Str)).length ≤ sizeLine) (H : ∀ it lt t u, LOk prog w kt true p ⟨s.i + (⟨#[c+1]⟩ : Str).length, l, it, lt⟩ x (tok ++ (⟨#[c+1]⟩ : Str)) t ⟨#[c+1]⟩ u r), CkOk prog w kt (cQ kt x.fi x.fr) 600 5000 (lG kt p s x tok tt ch ct) (fun _ ts => lPo kt p x r ts) 0 (fun _ _ => []) 4 (fun _ ts => lRes r ts)
noncomputable def E_qB : Prop := ∀ (X : RunsRC prog w kt) (Y : RunsRF prog w kt) (p : LP) (s : LS) (x : TF) (tok : Str) (tt : Nat) (ch : Str) (ct : Nat) (r : RR) (d : Nat) (l : Int) (h0 : Rd p s.i s.l ⟨#[92]⟩ s.l) (hr : Rd p (s.i + (⟨#[92]⟩ : Str).length) s.l ⟨#[d+1]⟩ l) (h4 : (tok ++ (⟨#[d+1]⟩ : Str)).length ≤ sizeLine) (H : ∀ it lt t u, LOk prog w kt true p ⟨s.i + (⟨#[92]⟩ : Str).length + (⟨#[d+1]⟩ : Str).length, l, it, lt⟩ x (tok ++ (⟨#[d+1]⟩ : Str)) t ⟨#[d+1]⟩ u r), CkOk prog w kt (cQ kt x.fi x.fr) 600 5000 (lG kt p s x tok tt ch ct) (fun _ ts => lPo kt p x r ts) 0 (fun _ _ => []) 4 (fun _ ts => lRes r ts)
noncomputable def E_qW : Prop := ∀ (X : RunsRC prog w kt) (Y : RunsRF prog w kt) (p : LP) (s : LS) (x : TF) (tok : Str) (tt : Nat) (ch : Str) (ct : Nat) (hr : Rd p s.i s.l ⟨#[34]⟩ s.l), CkOk prog w kt (cQ kt x.fi x.fr) 600 5000 (lG kt p s x tok tt ch ct) (fun _ ts => lPo kt p x ⟨s.i + (⟨#[34]⟩ : Str).length, s.l, tok, ⟨#[34]⟩, false⟩ [nthN ts 0, nthN ts 1, tt, nthN ts 2]) 0 (fun _ _ => []) 3 (fun _ ts => lRes ⟨s.i + (⟨#[34]⟩ : Str).length, s.l, tok, ⟨#[34]⟩, false⟩ [nthN ts 0, nthN ts 1, tt, nthN ts 2])
noncomputable def E_qE : Prop := ∀ (X : RunsRC prog w kt) (Y : RunsRF prog w kt) (p : LP) (s : LS) (x : TF) (tok : Str) (tt : Nat) (ch : Str) (ct : Nat) (hr : OneAt p s.i ⟨#[]⟩) (fo : Obj) (fd : FuncData) (k35 : (kt).get 35 = some fo) (k35f : fo.data = .func fd), CkOk prog w kt (cQ kt x.fi x.fr) 600 5000 (lG kt p s x tok tt ch ct) (fun _ ts => lPo kt p x ⟨s.i + (⟨#[]⟩ : Str).length, s.l, tok, ch, true⟩ [nthN ts 0, nthN ts 1, tt, ct]) 0 (fun _ _ => []) 2 (fun _ ts => lRes ⟨s.i + (⟨#[]⟩ : Str).length, s.l, tok, ch, true⟩ [nthN ts 0, nthN ts 1, tt, ct])
noncomputable def E_oW0 : Prop := ∀ (X : RunsRC prog w kt) (Y : RunsRF prog w kt) (p : LP) (s : LS) (x : TF) (tt : Nat) (r : RO) (c : Nat) (l : Int) (hr : Rd p s.i s.l ⟨#[c+1]⟩ l) (h1 : c+1 ∈ [10, 9, 13, 32]) (H : ∀ (j : Nat) it lt u, OOk1 prog w kt p ⟨s.i + (⟨#[c+1]⟩ : Str).length, l, it, lt⟩ (xc x (hS w n_ch, j)) tt ⟨#[c+1]⟩ u r), CkOk prog w kt (cO kt x.fi x.fr) 500 4000 (oG0 kt p s x ⟨#[]⟩ tt) (fun _ ts => oPo kt p x r ts) 0 (fun _ _ => []) 5 (fun _ ts => r.res ts)
noncomputable def E_oQr0 : Prop := ∀ (X : RunsRC prog w kt) (Y : RunsRF prog w kt) (p : LP) (s : LS) (x : TF) (tt : Nat) (n : Int) (l2 : Int) (tok : Str) (ch2 : Str) (hr : Rd p s.i s.l ⟨#[34]⟩ s.l) (H : ∀ j it lt u, LOk prog w kt true p ⟨s.i + (⟨#[34]⟩ : Str).length, s.l, it, lt⟩ (xc x j) ⟨#[]⟩ tt ⟨#[34]⟩ u ⟨n, l2, tok, ch2, false⟩), CkOk prog w kt (cO kt x.fi x.fr) 500 4000 (oG0 kt p s x ⟨#[]⟩ tt) (fun _ ts => oPo kt p x (roOf w p x ⟨n, l2, tok, ch2, false⟩) ts) 0 (fun _ _ => []) 5 (fun _ ts => lRes ⟨n, l2, tok, ch2, false⟩ ts)
noncomputable def E_oPr0 : Prop := ∀ (X : RunsRC prog w kt) (Y : RunsRF prog w kt) (p : LP) (s : LS) (x : TF) (tt : Nat) (n : Int) (l2 : Int) (tok : Str) (ch2 : Str) (c : Nat) (l : Int) (hr : Rd p s.i s.l ⟨#[c+1]⟩ l) (h1 : c+1 ∉ [10, 9, 13, 32]) (h2 : c+1 ≠ 92) (h3 : c+1 ≠ 34) (H : ∀ j it lt t u, LOk prog w kt false p ⟨s.i + (⟨#[c+1]⟩ : Str).length, l, it, lt⟩ (xc x j) (⟨#[]⟩ ++ (⟨#[c+1]⟩ : Str)) t ⟨#[c+1]⟩ u ⟨n, l2, tok, ch2, false⟩), CkOk prog w kt (cO kt x.fi x.fr) 500 4000 (oG0 kt p s x ⟨#[]⟩ tt) (fun _ ts => oPo kt p x (roOf w p x ⟨n, l2, tok, ch2, false⟩) ts) 0 (fun _ _ => []) 5 (fun _ ts => lRes ⟨n, l2, tok, ch2, false⟩ ts)
noncomputable def E_oBr0 : Prop := ∀ (X : RunsRC prog w kt) (Y : RunsRF prog w kt) (p : LP) (s : LS) (x : TF) (tt : Nat) (n : Int) (l2 : Int) (tok : Str) (ch2 : Str) (d : Nat) (l : Int) (h0 : Rd p s.i s.l ⟨#[92]⟩ s.l) (hr : Rd p (s.i + (⟨#[92]⟩ : Str).length) s.l ⟨#[d+1]⟩ l) (H : ∀ j it lt t u, LOk prog w kt false p ⟨s.i + (⟨#[92]⟩ : Str).length + (⟨#[d+1]⟩ : Str).length, l, it, lt⟩ (xc x j) (⟨#[]⟩ ++ (⟨#[d+1]⟩ : Str)) t ⟨#[d+1]⟩ u ⟨n, l2, tok, ch2, false⟩), CkOk prog w kt (cO kt x.fi x.fr) 500 4000 (oG0 kt p s x ⟨#[]⟩ tt) (fun _ ts => oPo kt p x (roOf w p x ⟨n, l2, tok, ch2, false⟩) ts) 0 (fun _ _ => []) 5 (fun _ ts => lRes ⟨n, l2, tok, ch2, false⟩ ts)
noncomputable def E_oQe0 : Prop := ∀ (X : RunsRC prog w kt) (Y : RunsRF prog w kt) (p : LP) (s : LS) (x : TF) (tt : Nat) (n : Int) (l2 : Int) (tok : Str) (ch2 : Str) (hr : Rd p s.i s.l ⟨#[34]⟩ s.l) (H : ∀ j it lt u, LOk prog w kt true p ⟨s.i + (⟨#[34]⟩ : Str).length, s.l, it, lt⟩ (xc x j) ⟨#[]⟩ tt ⟨#[34]⟩ u ⟨n, l2, tok, ch2, true⟩), CkOk prog w kt (cO kt x.fi x.fr) 500 4000 (oG0 kt p s x ⟨#[]⟩ tt) (fun _ ts => oPo kt p x (roOf w p x ⟨n, l2, tok, ch2, true⟩) ts) 0 (fun _ _ => []) 5 (fun _ ts => lRes ⟨n, l2, tok, ch2, true⟩ ts)
noncomputable def E_oPe0 : Prop := ∀ (X : RunsRC prog w kt) (Y : RunsRF prog w kt) (p : LP) (s : LS) (x : TF) (tt : Nat) (n : Int) (l2 : Int) (tok : Str) (ch2 : Str) (c : Nat) (l : Int) (hr : Rd p s.i s.l ⟨#[c+1]⟩ l) (h1 : c+1 ∉ [10, 9, 13, 32]) (h2 : c+1 ≠ 92) (h3 : c+1 ≠ 34) (H : ∀ j it lt t u, LOk prog w kt false p ⟨s.i + (⟨#[c+1]⟩ : Str).length, l, it, lt⟩ (xc x j) (⟨#[]⟩ ++ (⟨#[c+1]⟩ : Str)) t ⟨#[c+1]⟩ u ⟨n, l2, tok, ch2, true⟩), CkOk prog w kt (cO kt x.fi x.fr) 500 4000 (oG0 kt p s x ⟨#[]⟩ tt) (fun _ ts => oPo kt p x (roOf w p x ⟨n, l2, tok, ch2, true⟩) ts) 0 (fun _ _ => []) 5 (fun _ ts => lRes ⟨n, l2, tok, ch2, true⟩ ts)
noncomputable def E_oBe0 : Prop := ∀ (X : RunsRC prog w kt) (Y : RunsRF prog w kt) (p : LP) (s : LS) (x : TF) (tt : Nat) (n : Int) (l2 : Int) (tok : Str) (ch2 : Str) (d : Nat) (l : Int) (h0 : Rd p s.i s.l ⟨#[92]⟩ s.l) (hr : Rd p (s.i + (⟨#[92]⟩ : Str).length) s.l ⟨#[d+1]⟩ l) (H : ∀ j it lt t u, LOk prog w kt false p ⟨s.i + (⟨#[92]⟩ : Str).length + (⟨#[d+1]⟩ : Str).length, l, it, lt⟩ (xc x j) (⟨#[]⟩ ++ (⟨#[d+1]⟩ : Str)) t ⟨#[d+1]⟩ u ⟨n, l2, tok, ch2, true⟩), CkOk prog w kt (cO kt x.fi x.fr) 500 4000 (oG0 kt p s x ⟨#[]⟩ tt) (fun _ ts => oPo kt p x (roOf w p x ⟨n, l2, tok, ch2, true⟩) ts) 0 (fun _ _ => []) 5 (fun _ ts => lRes ⟨n, l2, tok, ch2, true⟩ ts)
noncomputable def E_oW1 : Prop := ∀ (X : RunsRC prog w kt) (Y : RunsRF prog w kt) (p : LP) (s : LS) (x : TF) (tt : Nat) (ch : Str) (ct : Nat) (r : RO) (c : Nat) (l : Int) (hr : Rd p s.i s.l ⟨#[c+1]⟩ l) (h1 : c+1 ∈ [10, 9, 13, 32]) (H : ∀ it lt u, OOk1 prog w kt p ⟨s.i + (⟨#[c+1]⟩ : Str).length, l, it, lt⟩ x tt ⟨#[c+1]⟩ u r), CkOk prog w kt (cO kt x.fi x.fr) 500 4000 (lG kt p s x ⟨#[]⟩ tt ch ct) (fun _ ts => oPo kt p x r ts) 0 (fun _ _ => []) 5 (fun _ ts => r.res ts)
noncomputable def E_oQr1 : Prop := ∀ (X : RunsRC prog w kt) (Y : RunsRF prog w kt) (p : LP) (s : LS) (x : TF) (tt : Nat) (ch : Str) (ct : Nat) (n : Int) (l2 : Int) (tok : Str) (ch2 : Str) (hr : Rd p s.i s.l ⟨#[34]⟩ s.l) (H : ∀ it lt u, LOk prog w kt true p ⟨s.i + (⟨#[34]⟩ : Str).length, s.l, it, lt⟩ x ⟨#[]⟩ tt ⟨#[34]⟩ u ⟨n, l2, tok, ch2, false⟩), CkOk prog w kt (cO kt x.fi x.fr) 500 4000 (lG kt p s x ⟨#[]⟩ tt ch ct) (fun _ ts => oPo kt p x ⟨n, l2, false, lFr p x tok ch2, lRes ⟨n, l2, tok, ch2, false⟩⟩ ts) 0 (fun _ _ => []) 4 (fun _ ts => lRes ⟨n, l2, tok, ch2, false⟩ ts)
noncomputable def E_oPr1 : Prop := ∀ (X : RunsRC prog w kt) (Y : RunsRF prog w kt) (p : LP) (s : LS) (x : TF) (tt : Nat) (ch : Str) (ct : Nat) (n : Int) (l2 : Int) (tok : Str) (ch2 : Str) (c : Nat) (l : Int) (hr : Rd p s.i s.l ⟨#[c+1]⟩ l) (h1 : c+1 ∉ [10, 9, 13, 32]) (h2 : c+1 ≠ 92) (h3 : c+1 ≠ 34) (H : ∀ it lt t u, LOk prog w kt false p ⟨s.i + (⟨#[c+1]⟩ : Str).length, l, it, lt⟩ x (⟨#[]⟩ ++ (⟨#[c+1]⟩ : Str)) t ⟨#[c+1]⟩ u ⟨n, l2, tok, ch2, false⟩), CkOk prog w kt (cO kt x.fi x.fr) 500 4000 (lG kt p s x ⟨#[]⟩ tt ch ct) (fun _ ts => oPo kt p x ⟨n, l2, false, lFr p x tok ch2, lRes ⟨n, l2, tok, ch2, false⟩⟩ ts) 0 (fun _ _ => []) 4 (fun _ ts => lRes ⟨n, l2, tok, ch2, false⟩ ts)
noncomputable def E_oBr1 : Prop := ∀ (X : RunsRC prog w kt) (Y : RunsRF prog w kt) (p : LP) (s : LS) (x : TF) (tt : Nat) (ch : Str) (ct : Nat) (n : Int) (l2 : Int) (tok : Str) (ch2 : Str) (d : Nat) (l : Int) (h0 : Rd p s.i s.l ⟨#[92]⟩ s.l) (hr : Rd p (s.i + (⟨#[92]⟩ : Str).length) s.l ⟨#[d+1]⟩ l) (H : ∀ it lt t u, LOk prog w kt false p ⟨s.i + (⟨#[92]⟩ : Str).length + (⟨#[d+1]⟩ : Str).length, l, it, lt⟩ x (⟨#[]⟩ ++ (⟨#[d+1]⟩ : Str)) t ⟨#[d+1]⟩ u ⟨n, l2, tok, ch2, false⟩), CkOk prog w kt (cO kt x.fi x.fr) 500 4000 (lG kt p s x ⟨#[]⟩ tt ch ct) (fun _ ts => oPo kt p x ⟨n, l2, false, lFr p x tok ch2, lRes ⟨n, l2, tok, ch2, false⟩⟩ ts) 0 (fun _ _ => []) 4 (fun _ ts => lRes ⟨n, l2, tok, ch2, false⟩ ts)
noncomputable def E_oQe1 : Prop := ∀ (X : RunsRC prog w kt) (Y : RunsRF prog w kt) (p : LP) (s : LS) (x : TF) (tt : Nat) (ch : Str) (ct : Nat) (n : Int) (l2 : Int) (tok : Str) (ch2 : Str) (hr : Rd p s.i s.l ⟨#[34]⟩ s.l) (H : ∀ it lt u, LOk prog w kt true p ⟨s.i + (⟨#[34]⟩ : Str).length, s.l, it, lt⟩ x ⟨#[]⟩ tt ⟨#[34]⟩ u ⟨n, l2, tok, ch2, true⟩), CkOk prog w kt (cO kt x.fi x.fr) 500 4000 (lG kt p s x ⟨#[]⟩ tt ch ct) (fun _ ts => oPo kt p x ⟨n, l2, true, lFr p x tok ch2, lRes ⟨n, l2, tok, ch2, true⟩⟩ ts) 0 (fun _ _ => []) 4 (fun _ ts => lRes ⟨n, l2, tok, ch2, true⟩ ts)
noncomputable def E_oPe1 : Prop := ∀ (X : RunsRC prog w kt) (Y : RunsRF prog w kt) (p : LP) (s : LS) (x : TF) (tt : Nat) (ch : Str) (ct : Nat) (n : Int) (l2 : Int) (tok : Str) (ch2 : Str) (c : Nat) (l : Int) (hr : Rd p s.i s.l ⟨#[c+1]⟩ l) (h1 : c+1 ∉ [10, 9, 13, 32]) (h2 : c+1 ≠ 92) (h3 : c+1 ≠ 34) (H : ∀ it lt t u, LOk prog w kt false p ⟨s.i + (⟨#[c+1]⟩ : Str).length, l, it, lt⟩ x (⟨#[]⟩ ++ (⟨#[c+1]⟩ : Str)) t ⟨#[c+1]⟩ u ⟨n, l2, tok, ch2, true⟩), CkOk prog w kt (cO kt x.fi x.fr) 500 4000 (lG kt p s x ⟨#[]⟩ tt ch ct) (fun _ ts => oPo kt p x ⟨n, l2, true, lFr p x tok ch2, lRes ⟨n, l2, tok, ch2, true⟩⟩ ts) 0 (fun _ _ => []) 4 (fun _ ts => lRes ⟨n, l2, tok, ch2, true⟩ ts)
noncomputable def E_oBe1 : Prop := ∀ (X : RunsRC prog w kt) (Y : RunsRF prog w kt) (p : LP) (s : LS) (x : TF) (tt : Nat) (ch : Str) (ct : Nat) (n : Int) (l2 : Int) (tok : Str) (ch2 : Str) (d : Nat) (l : Int) (h0 : Rd p s.i s.l ⟨#[92]⟩ s.l) (hr : Rd p (s.i + (⟨#[92]⟩ : Str).length) s.l ⟨#[d+1]⟩ l) (H : ∀ it lt t u, LOk prog w kt false p ⟨s.i + (⟨#[92]⟩ : Str).length + (⟨#[d+1]⟩ : Str).length, l, it, lt⟩ x (⟨#[]⟩ ++ (⟨#[d+1]⟩ : Str)) t ⟨#[d+1]⟩ u ⟨n, l2, tok, ch2, true⟩), CkOk prog w kt (cO kt x.fi x.fr) 500 4000 (lG kt p s x ⟨#[]⟩ tt ch ct) (fun _ ts => oPo kt p x ⟨n, l2, true, lFr p x tok ch2, lRes ⟨n, l2, tok, ch2, true⟩⟩ ts) 0 (fun _ _ => []) 4 (fun _ ts => lRes ⟨n, l2, tok, ch2, true⟩ ts)
noncomputable def E_oE0 : Prop := ∀ (X : RunsRC prog w kt) (Y : RunsRF prog w kt) (p : LP) (s : LS) (x : TF) (tt : Nat) (hr : OneAt p s.i ⟨#[]⟩) (fo : Obj) (fd : FuncData) (k35 : (kt).get 35 = some fo) (k35f : fo.data = .func fd), CkOk prog w kt (cO kt x.fi x.fr) 500 4000 (oG0 kt p s x ⟨#[]⟩ tt) (fun _ ts => oPo kt p x (roE p x (s.i + (⟨#[]⟩ : Str).length) s.l) [nthN ts 0, nthN ts 1, tt]) 0 (fun _ _ => []) 2 (fun _ _ => .ok .next)
noncomputable def E_gtr : Prop := ∀ (p : LP) (s : LS) (ep : Nat) (n l : Int) (tok ch : Str) (H : ∀ x tt, OOk0 prog w kt p s x tt (roOf w p x ⟨n, l, tok, ch, false⟩)), CkOk prog w kt (Code.call (.ref 42) ⟨[.ref p.lx], []⟩) 420 3000 ((p.pb, listO [] ep) :: lexG kt p s) (fun _ ts => listO [] ep :: lexP kt p ⟨n, l, nthN ts 0, nthN ts 1⟩) 0 (fun _ _ => []) 3 (fun _ ts => .ok (.ret (.str tok (nthN ts 2))))
noncomputable def E_gte : Prop := ∀ (p : LP) (s : LS) (ep : Nat) (n l : Int) (tok ch : Str) (H : ∀ x tt, OOk0 prog w kt p s x tt (roOf w p x ⟨n, l, tok, ch, true⟩)), CkOk prog w kt (Code.call (.ref 42) ⟨[.ref p.lx], []⟩) 420 3000 ((p.pb, listO [] ep) :: lexG kt p s) (fun _ ts => listO [] ep :: lexP kt p ⟨n, l, nthN ts 0, nthN ts 1⟩) 0 (fun _ _ => []) 3 (fun _ ts => .ok (.ret (.str tok (nthN ts 2))))
noncomputable def E_gt0 : Prop := ∀ (p : LP) (s : LS) (ep : Nat) (n l : Int) (H : ∀ x tt, OOk0 prog w kt p s x tt (roE p x n l)), CkOk prog w kt (Code.call (.ref 42) ⟨[.ref p.lx], []⟩) 420 3000 ((p.pb, listO [] ep) :: lexG kt p s) (fun _ ts => listO [] ep :: lexP kt p ⟨n, l, nthN ts 0, nthN ts 1⟩) 0 (fun _ _ => []) 3 (fun _ ts => .ok (.ret (.str ⟨#[]⟩ (nthN ts 2))))
end
structure RunsLex (prog : Program) (w : World) (kt : KT) : Prop where
  uC : E_uC prog w kt
  uB : E_uB prog w kt
  uW : E_uW prog w kt
  uE : E_uE prog w kt
  qC : E_qC prog w kt
  qB : E_qB prog w kt
  qW : E_qW prog w kt
  qE : E_qE prog w kt
  oW0 : E_oW0 prog w kt
  oQr0 : E_oQr0 prog w kt
  oPr0 : E_oPr0 prog w kt
  oBr0 : E_oBr0 prog w kt
  oQe0 : E_oQe0 prog w kt
  oPe0 : E_oPe0 prog w kt
  oBe0 : E_oBe0 prog w kt
  oW1 : E_oW1 prog w kt
  oQr1 : E_oQr1 prog w kt
  oPr1 : E_oPr1 prog w kt
  oBr1 : E_oBr1 prog w kt
  oQe1 : E_oQe1 prog w kt
  oPe1 : E_oPe1 prog w kt
  oBe1 : E_oBe1 prog w kt
  oE0 : E_oE0 prog w kt
  gtr : E_gtr prog w kt
  gte : E_gte prog w kt
  gt0 : E_gt0 prog w kt
end
end
section
open PySem PySem.Spec PySem.Calls PySem.W PySem.W.X
section
variable {prog : Program} {w : World} {kt : KT}
section
variable (prog : Program) (w : World) (kt : KT)
noncomputable def E_p00b : Prop := ∀ (x : PF) (word : Str) (wt : Nat) (way : Int) (yt : Nat) (body : Str) (bt : Nat) (l : Int) (z : PZ) (hl : 0 < l) (hm : Int.fmod way 4 = 0) (hb : body.length + 2 ≤ sizeLine) (hr : (decide (0 < -(2 ^ 63 : Int)) || decide (0 ≥ 2 ^ 63)) = false) (hc : (seqIndex? 0 word.length).bind (word.cps[·]?) = some 92) (H : ∀ j3 j4 bt kk, PcOk prog w kt (pfx w x j3 j4) word wt way yt (body ++ (⟨#[92]⟩ : Str) ++ (⟨#[92]⟩ : Str)) bt 0 kk true (0 + 1) (l - 1) z), CkOk prog w kt (cP kt x.it x.fr) 500 4000 (pcG0 x word wt way yt body bt 0 l) (fun _ ts => pcPo (pfx w x (nthN ts 2) (nthN ts 3)) word wt way yt z ts) 0 (fun _ _ => []) 4 (fun _ _ => .ok .next)
noncomputable def E_p00q : Prop := ∀ (x : PF) (word : Str) (wt : Nat) (way : Int) (yt : Nat) (body : Str) (bt : Nat) (l : Int) (z : PZ) (hl : 0 < l) (hm : Int.fmod way 4 = 0) (hb : body.length + 2 ≤ sizeLine) (hr : (decide (0 < -(2 ^ 63 : Int)) || decide (0 ≥ 2 ^ 63)) = false) (hc : (seqIndex? 0 word.length).bind (word.cps[·]?) = some 34) (H : ∀ j3 j4 bt kk, PcOk prog w kt (pfx w x j3 j4) word wt way yt (body ++ (⟨#[92]⟩ : Str) ++ (⟨#[34]⟩ : Str)) bt 0 kk true (0 + 1) (l - 1) z), CkOk prog w kt (cP kt x.it x.fr) 500 4000 (pcG0 x word wt way yt body bt 0 l) (fun _ ts => pcPo (pfx w x (nthN ts 2) (nthN ts 3)) word wt way yt z ts) 0 (fun _ _ => []) 4 (fun _ _ => .ok .next)
noncomputable def E_p00o : Prop := ∀ (x : PF) (word : Str) (wt : Nat) (way : Int) (yt : Nat) (body : Str) (bt : Nat) (l : Int) (z : PZ) (hl : 0 < l) (hm : Int.fmod way 4 = 0) (hb : body.length + 2 ≤ sizeLine) (c : Nat) (hr : (decide (0 < -(2 ^ 63 : Int)) || decide (0 ≥ 2 ^ 63)) = false) (hc : (seqIndex? 0 word.length).bind (word.cps[·]?) = some c) (h1 : c ≠ 92) (h2 : c ≠ 34) (H : ∀ j3 j4 bt kk, PcOk prog w kt (pfx w x j3 j4) word wt way yt (body ++ (⟨#[c]⟩ : Str)) bt 0 kk false (0 + 1) (l - 1) z), CkOk prog w kt (cP kt x.it x.fr) 500 4000 (pcG0 x word wt way yt body bt 0 l) (fun _ ts => pcPo (pfx w x (nthN ts 2) (nthN ts 3)) word wt way yt z ts) 0 (fun _ _ => []) 4 (fun _ _ => .ok .next)
noncomputable def E_p01b : Prop := ∀ (x : PF) (word : Str) (wt : Nat) (way : Int) (yt : Nat) (body : Str) (bt : Nat) (l : Int) (z : PZ) (hl : 0 < l) (hm : Int.fmod way 4 = 1) (hb : body.length + 2 ≤ sizeLine) (hr : (decide (0 < -(2 ^ 63 : Int)) || decide (0 ≥ 2 ^ 63)) = false) (hc : (seqIndex? 0 word.length).bind (word.cps[·]?) = some 92) (H : ∀ j3 j4 bt kk, PcOk prog w kt (pfx w x j3 j4) word wt way yt (body ++ (⟨#[92]⟩ : Str) ++ (⟨#[92]⟩ : Str)) bt 0 kk true (0 + 1) (l - 1) z), CkOk prog w kt (cP kt x.it x.fr) 500 4000 (pcG0 x word wt way yt body bt 0 l) (fun _ ts => pcPo (pfx w x (nthN ts 2) (nthN ts 3)) word wt way yt z ts) 0 (fun _ _ => []) 4 (fun _ _ => .ok .next)
noncomputable def E_p01q : Prop := ∀ (x : PF) (word : Str) (wt : Nat) (way : Int) (yt : Nat) (body : Str) (bt : Nat) (l : Int) (z : PZ) (hl : 0 < l) (hm : Int.fmod way 4 = 1) (hb : body.length + 2 ≤ sizeLine) (hr : (decide (0 < -(2 ^ 63 : Int)) || decide (0 ≥ 2 ^ 63)) = false) (hc : (seqIndex? 0 word.length).bind (word.cps[·]?) = some 34) (H : ∀ j3 j4 bt kk, PcOk prog w kt (pfx w x j3 j4) word wt way yt (body ++ (⟨#[92]⟩ : Str) ++ (⟨#[34]⟩ : Str)) bt 0 kk true (0 + 1) (l - 1) z), CkOk prog w kt (cP kt x.it x.fr) 500 4000 (pcG0 x word wt way yt body bt 0 l) (fun _ ts => pcPo (pfx w x (nthN ts 2) (nthN ts 3)) word wt way yt z ts) 0 (fun _ _ => []) 4 (fun _ _ => .ok .next)
noncomputable def E_p01w : Prop := ∀ (x : PF) (word : Str) (wt : Nat) (way : Int) (yt : Nat) (body : Str) (bt : Nat) (l : Int) (z : PZ) (hl : 0 < l) (hm : Int.fmod way 4 = 1) (hb : body.length + 2 ≤ sizeLine) (c : Nat) (hr : (decide (0 < -(2 ^ 63 : Int)) || decide (0 ≥ 2 ^ 63)) = false) (hc : (seqIndex? 0 word.length).bind (word.cps[·]?) = some c) (h1 : c ≠ 92) (h2 : c ≠ 34) (h3 : c = 32 ∨ c = 10) (H : ∀ j3 j4 bt kk, PcOk prog w kt (pfx w x j3 j4) word wt way yt (body ++ (⟨#[92]⟩ : Str) ++ (⟨#[c]⟩ : Str)) bt 0 kk true (0 + 1) (l - 1) z), CkOk prog w kt (cP kt x.it x.fr) 500 4000 (pcG0 x word wt way yt body bt 0 l) (fun _ ts => pcPo (pfx w x (nthN ts 2) (nthN ts 3)) word wt way yt z ts) 0 (fun _ _ => []) 4 (fun _ _ => .ok .next)
noncomputable def E_p01o : Prop := ∀ (x : PF) (word : Str) (wt : Nat) (way : Int) (yt : Nat) (body : Str) (bt : Nat) (l : Int) (z : PZ) (hl : 0 < l) (hm : Int.fmod way 4 = 1) (hb : body.length + 2 ≤ sizeLine) (c : Nat) (hr : (decide (0 < -(2 ^ 63 : Int)) || decide (0 ≥ 2 ^ 63)) = false) (hc : (seqIndex? 0 word.length).bind (word.cps[·]?) = some c) (h1 : c ≠ 92) (h2 : c ≠ 34) (h3 : ¬ (c = 32 ∨ c = 10)) (H : ∀ j3 j4 bt kk, PcOk prog w kt (pfx w x j3 j4) word wt way yt (body ++ (⟨#[c]⟩ : Str)) bt 0 kk false (0 + 1) (l - 1) z), CkOk prog w kt (cP kt x.it x.fr) 500 4000 (pcG0 x word wt way yt body bt 0 l) (fun _ ts => pcPo (pfx w x (nthN ts 2) (nthN ts 3)) word wt way yt z ts) 0 (fun _ _ => []) 4 (fun _ _ => .ok .next)
noncomputable def E_p02a : Prop := ∀ (x : PF) (word : Str) (wt : Nat) (way : Int) (yt : Nat) (body : Str) (bt : Nat) (l : Int) (z : PZ) (hl : 0 < l) (hm : Int.fmod way 4 = 2) (hb : body.length + 2 ≤ sizeLine) (c : Nat) (hr : (decide (0 < -(2 ^ 63 : Int)) || decide (0 ≥ 2 ^ 63)) = false) (hc : (seqIndex? 0 word.length).bind (word.cps[·]?) = some c) (H : ∀ j3 j4 bt kk, PcOk prog w kt (pfx w x j3 j4) word wt way yt (body ++ (⟨#[92]⟩ : Str) ++ (⟨#[c]⟩ : Str)) bt 0 kk true (0 + 1) (l - 1) z), CkOk prog w kt (cP kt x.it x.fr) 500 4000 (pcG0 x word wt way yt body bt 0 l) (fun _ ts => pcPo (pfx w x (nthN ts 2) (nthN ts 3)) word wt way yt z ts) 0 (fun _ _ => []) 4 (fun _ _ => .ok .next)
noncomputable def E_p03a : Prop := ∀ (x : PF) (word : Str) (wt : Nat) (way : Int) (yt : Nat) (body : Str) (bt : Nat) (l : Int) (z : PZ) (hl : 0 < l) (hm : Int.fmod way 4 = 3) (hb : body.length + 2 ≤ sizeLine) (c : Nat) (hr : (decide (0 < -(2 ^ 63 : Int)) || decide (0 ≥ 2 ^ 63)) = false) (hc : (seqIndex? 0 word.length).bind (word.cps[·]?) = some c) (H : ∀ j3 j4 bt kk, PcOk prog w kt (pfx w x j3 j4) word wt way yt (body ++ (⟨#[92]⟩ : Str) ++ (⟨#[c]⟩ : Str)) bt 0 kk true (0 + 1) (l - 1) z), CkOk prog w kt (cP kt x.it x.fr) 500 4000 (pcG0 x word wt way yt body bt 0 l) (fun _ ts => pcPo (pfx w x (nthN ts 2) (nthN ts 3)) word wt way yt z ts) 0 (fun _ _ => []) 4 (fun _ _ => .ok .next)
noncomputable def E_p10b : Prop := ∀ (x : PF) (word : Str) (wt : Nat) (way : Int) (yt : Nat) (body : Str) (bt : Nat) (k : Int) (kk : Nat) (m : Bool) (i : Int) (hk : (i == 0) = false) (l : Int) (z : PZ) (hl : 0 < l) (hm : Int.fmod way 4 = 0) (hb : body.length + 2 ≤ sizeLine) (hr : (decide (i < -(2 ^ 63 : Int)) || decide (i ≥ 2 ^ 63)) = false) (hc : (seqIndex? i word.length).bind (word.cps[·]?) = some 92) (H : ∀ bt kk, PcOk prog w kt x word wt way yt (body ++ (⟨#[92]⟩ : Str) ++ (⟨#[92]⟩ : Str)) bt i kk true (i + 1) (l - 1) z), CkOk prog w kt (cP kt x.it x.fr) 500 4000 (pcG x word wt way yt body bt k kk m i l) (fun _ ts => pcPo x word wt way yt z ts) 0 (fun _ _ => []) 2 (fun _ _ => .ok .next)
noncomputable def E_p10q : Prop := ∀ (x : PF) (word : Str) (wt : Nat) (way : Int) (yt : Nat) (body : Str) (bt : Nat) (k : Int) (kk : Nat) (m : Bool) (i : Int) (hk : (i == 0) = false) (l : Int) (z : PZ) (hl : 0 < l) (hm : Int.fmod way 4 = 0) (hb : body.length + 2 ≤ sizeLine) (hr : (decide (i < -(2 ^ 63 : Int)) || decide (i ≥ 2 ^ 63)) = false) (hc : (seqIndex? i word.length).bind (word.cps[·]?) = some 34) (H : ∀ bt kk, PcOk prog w kt x word wt way yt (body ++ (⟨#[92]⟩ : Str) ++ (⟨#[34]⟩ : Str)) bt i kk true (i + 1) (l - 1) z), CkOk prog w kt (cP kt x.it x.fr) 500 4000 (pcG x word wt way yt body bt k kk m i l) (fun _ ts => pcPo x word wt way yt z ts) 0 (fun _ _ => []) 2 (fun _ _ => .ok .next)
noncomputable def E_p10o : Prop := ∀ (x : PF) (word : Str) (wt : Nat) (way : Int) (yt : Nat) (body : Str) (bt : Nat) (k : Int) (kk : Nat) (m : Bool) (i : Int) (hk : (i == 0) = false) (l : Int) (z : PZ) (hl : 0 < l) (hm : Int.fmod way 4 = 0) (hb : body.length + 2 ≤ sizeLine) (c : Nat) (hr : (decide (i < -(2 ^ 63 : Int)) || decide (i ≥ 2 ^ 63)) = false) (hc : (seqIndex? i word.length).bind (word.cps[·]?) = some c) (h1 : c ≠ 92) (h2 : c ≠ 34) (H : ∀ bt kk, PcOk prog w kt x word wt way yt (body ++ (⟨#[c]⟩ : Str)) bt i kk false (i + 1) (l - 1) z), CkOk prog w kt (cP kt x.it x.fr) 500 4000 (pcG x word wt way yt body bt k kk m i l) (fun _ ts => pcPo x word wt way yt z ts) 0 (fun _ _ => []) 2 (fun _ _ => .ok .next)
noncomputable def E_p11b : Prop := ∀ (x : PF) (word : Str) (wt : Nat) (way : Int) (yt : Nat) (body : Str) (bt : Nat) (k : Int) (kk : Nat) (m : Bool) (i : Int) (hk : (i == 0) = false) (l : Int) (z : PZ) (hl : 0 < l) (hm : Int.fmod way 4 = 1) (hb : body.length + 2 ≤ sizeLine) (hr : (decide (i < -(2 ^ 63 : Int)) || decide (i ≥ 2 ^ 63)) = false) (hc : (seqIndex? i word.length).bind (word.cps[·]?) = some 92) (H : ∀ bt kk, PcOk prog w kt x word wt way yt (body ++ (⟨#[92]⟩ : Str) ++ (⟨#[92]⟩ : Str)) bt i kk true (i + 1) (l - 1) z), CkOk prog w kt (cP kt x.it x.fr) 500 4000 (pcG x word wt way yt body bt k kk m i l) (fun _ ts => pcPo x word wt way yt z ts) 0 (fun _ _ => []) 2 (fun _ _ => .ok .next)
noncomputable def E_p11w : Prop := ∀ (x : PF) (word : Str) (wt : Nat) (way : Int) (yt : Nat) (body : Str) (bt : Nat) (k : Int) (kk : Nat) (m : Bool) (i : Int) (hk : (i == 0) = false) (l : Int) (z : PZ) (hl : 0 < l) (hm : Int.fmod way 4 = 1) (hb : body.length + 2 ≤ sizeLine) (c : Nat) (hr : (decide (i < -(2 ^ 63 : Int)) || decide (i ≥ 2 ^ 63)) = false) (hc : (seqIndex? i word.length).bind (word.cps[·]?) = some c) (h1 : c ≠ 92) (h3 : c = 32 ∨ c = 10) (H : ∀ bt kk, PcOk prog w kt x word wt way yt (body ++ (⟨#[92]⟩ : Str) ++ (⟨#[c]⟩ : Str)) bt i kk true (i + 1) (l - 1) z), CkOk prog w kt (cP kt x.it x.fr) 500 4000 (pcG x word wt way yt body bt k kk m i l) (fun _ ts => pcPo x word wt way yt z ts) 0 (fun _ _ => []) 2 (fun _ _ => .ok .next)
noncomputable def E_p11o : Prop := ∀ (x : PF) (word : Str) (wt : Nat) (way : Int) (yt : Nat) (body : Str) (bt : Nat) (k : Int) (kk : Nat) (m : Bool) (i : Int) (hk : (i == 0) = false) (l : Int) (z : PZ) (hl : 0 < l) (hm : Int.fmod way 4 = 1) (hb : body.length + 2 ≤ sizeLine) (c : Nat) (hr : (decide (i < -(2 ^ 63 : Int)) || decide (i ≥ 2 ^ 63)) = false) (hc : (seqIndex? i word.length).bind (word.cps[·]?) = some c) (h1 : c ≠ 92) (h3 : ¬ (c = 32 ∨ c = 10)) (H : ∀ bt kk, PcOk prog w kt x word wt way yt (body ++ (⟨#[c]⟩ : Str)) bt i kk false (i + 1) (l - 1) z), CkOk prog w kt (cP kt x.it x.fr) 500 4000 (pcG x word wt way yt body bt k kk m i l) (fun _ ts => pcPo x word wt way yt z ts) 0 (fun _ _ => []) 2 (fun _ _ => .ok .next)
noncomputable def E_p12a : Prop := ∀ (x : PF) (word : Str) (wt : Nat) (way : Int) (yt : Nat) (body : Str) (bt : Nat) (k : Int) (kk : Nat) (m : Bool) (i : Int) (hk : (i == 0) = false) (l : Int) (z : PZ) (hl : 0 < l) (hm : Int.fmod way 4 = 2) (hb : body.length + 2 ≤ sizeLine) (c : Nat) (hr : (decide (i < -(2 ^ 63 : Int)) || decide (i ≥ 2 ^ 63)) = false) (hc : (seqIndex? i word.length).bind (word.cps[·]?) = some c) (H : ∀ bt kk, PcOk prog w kt x word wt way yt (body ++ (⟨#[92]⟩ : Str) ++ (⟨#[c]⟩ : Str)) bt i kk true (i + 1) (l - 1) z), CkOk prog w kt (cP kt x.it x.fr) 500 4000 (pcG x word wt way yt body bt k kk m i l) (fun _ ts => pcPo x word wt way yt z ts) 0 (fun _ _ => []) 2 (fun _ _ => .ok .next)
noncomputable def E_p13a : Prop := ∀ (x : PF) (word : Str) (wt : Nat) (way : Int) (yt : Nat) (body : Str) (bt : Nat) (k : Int) (kk : Nat) (m : Bool) (i : Int) (hk : (i == 0) = false) (l : Int) (z : PZ) (hl : 0 < l) (hm : Int.fmod way 4 = 3) (hb : body.length + 2 ≤ sizeLine) (c : Nat) (hr : (decide (i < -(2 ^ 63 : Int)) || decide (i ≥ 2 ^ 63)) = false) (hc : (seqIndex? i word.length).bind (word.cps[·]?) = some c) (H : ∀ bt kk, PcOk prog w kt x word wt way yt (body ++ (⟨#[92]⟩ : Str) ++ (⟨#[c]⟩ : Str)) bt i kk true (i + 1) (l - 1) z), CkOk prog w kt (cP kt x.it x.fr) 500 4000 (pcG x word wt way yt body bt k kk m i l) (fun _ ts => pcPo x word wt way yt z ts) 0 (fun _ _ => []) 2 (fun _ _ => .ok .next)
noncomputable def E_pE : Prop := ∀ (x : PF) (word : Str) (wt : Nat) (way : Int) (yt : Nat) (body : Str) (bt : Nat) (k : Int) (kk : Nat) (m : Bool) (i l : Int) (hl : l ≤ 0), CkOk prog w kt (cP kt x.it x.fr) 500 4000 (pcG x word wt way yt body bt k kk m i l) (fun _ ts => pcPo x word wt way yt ⟨body, k, m, i, l⟩ [bt, kk]) 0 (fun _ _ => []) 0 (fun _ _ => .ok .next)
end
structure RunsPiece (prog : Program) (w : World) (kt : KT) : Prop where
  p00b : E_p00b prog w kt
  p00q : E_p00q prog w kt
  p00o : E_p00o prog w kt
  p01b : E_p01b prog w kt
  p01q : E_p01q prog w kt
  p01w : E_p01w prog w kt
  p01o : E_p01o prog w kt
  p02a : E_p02a prog w kt
  p03a : E_p03a prog w kt
  p10b : E_p10b prog w kt
  p10q : E_p10q prog w kt
  p10o : E_p10o prog w kt
  p11b : E_p11b prog w kt
  p11w : E_p11w prog w kt
  p11o : E_p11o prog w kt
  p12a : E_p12a prog w kt
  p13a : E_p13a prog w kt
  pE : E_pE prog w kt
end
end
section
open PySem PySem.Spec PySem.Calls PySem.W PySem.W.X
section
variable {prog : Program} {w : World} {kt : KT}
section
variable (prog : Program) (w : World) (kt : KT)
noncomputable def E_pc0 : Prop := ∀ (word : Str) (wt : Nat) (way : Int) (yt : Nat) (hw : ((word.length : Nat) : Int) < 2 ^ 62) (hm : Int.fmod way 4 = 0) (q : Nat) (hq : q < 4) (hqe : Int.fmod (Int.fdiv way 4) 4 = (q : Nat)) (z : PZ) (hz : z.r.length + 9 ≤ sizeLine) (H : ∀ fr it j0 j1 j2 bt, PcOk0 prog w kt (pf0 w fr it j0 j1 j2) word wt way yt ⟨#[]⟩ bt 0 (word.length : Nat) z), CkOk prog w kt (Code.call (.ref 77) ⟨[.str word wt, .int way yt], []⟩) 420 3000 ([]) (fun _ _ => []) 0 (fun _ _ => []) 1 (fun _ ts => .ok (.ret (.str (leadOf q ++ (⟨#[34]⟩ : Str) ++ z.r ++ (⟨#[34]⟩ : Str)) (nthN ts 0))))
noncomputable def E_pc1 : Prop := ∀ (word : Str) (wt : Nat) (way : Int) (yt : Nat) (hw : ((word.length : Nat) : Int) < 2 ^ 62) (hm : Int.fmod way 4 = 1) (q : Nat) (hq : q < 4) (hqe : Int.fmod (Int.fdiv way 4) 4 = (q : Nat)) (r : Int) (c : Nat) (hre : Int.fmod (Int.fdiv way 16) 4 = r) (hr : (decide (r < -(2 ^ 63 : Int)) || decide (r ≥ 2 ^ 63)) = false) (hc : (seqIndex? r 4).bind ((⟨#[32, 10, 9, 13]⟩ : Str).cps[·]?) = some c) (z : PZ) (hz : z.r.length + 9 ≤ sizeLine) (H : ∀ fr it j0 j1 j2 bt, PcOk0 prog w kt (pf0 w fr it j0 j1 j2) word wt way yt ⟨#[]⟩ bt 0 (word.length : Nat) z), CkOk prog w kt (Code.call (.ref 77) ⟨[.str word wt, .int way yt], []⟩) 420 3000 ([]) (fun _ _ => []) 0 (fun _ _ => []) 1 (fun _ ts => .ok (.ret (.str (leadOf q ++ z.r ++ (⟨#[c]⟩ : Str)) (nthN ts 0))))
noncomputable def E_pc2 : Prop := ∀ (word : Str) (wt : Nat) (way : Int) (yt : Nat) (hw : ((word.length : Nat) : Int) < 2 ^ 62) (hm : Int.fmod way 4 = 2) (q : Nat) (hq : q < 4) (hqe : Int.fmod (Int.fdiv way 4) 4 = (q : Nat)) (r : Int) (c : Nat) (hre : Int.fmod (Int.fdiv way 16) 4 = r) (hr : (decide (r < -(2 ^ 63 : Int)) || decide (r ≥ 2 ^ 63)) = false) (hc : (seqIndex? r 4).bind ((⟨#[32, 10, 9, 13]⟩ : Str).cps[·]?) = some c) (z : PZ) (hz : z.r.length + 9 ≤ sizeLine) (H : ∀ fr it j0 j1 j2 bt, PcOk0 prog w kt (pf0 w fr it j0 j1 j2) word wt way yt ⟨#[]⟩ bt 0 (word.length : Nat) z), CkOk prog w kt (Code.call (.ref 77) ⟨[.str word wt, .int way yt], []⟩) 420 3000 ([]) (fun _ _ => []) 0 (fun _ _ => []) 1 (fun _ ts => .ok (.ret (.str (leadOf q ++ z.r ++ (⟨#[c]⟩ : Str)) (nthN ts 0))))
noncomputable def E_pc3 : Prop := ∀ (word : Str) (wt : Nat) (way : Int) (yt : Nat) (hw : ((word.length : Nat) : Int) < 2 ^ 62) (hm : Int.fmod way 4 = 3) (q : Nat) (hq : q < 4) (hqe : Int.fmod (Int.fdiv way 4) 4 = (q : Nat)) (z : PZ) (hz : z.r.length + 9 ≤ sizeLine) (H : ∀ fr it j0 j1 j2 bt, PcOk0 prog w kt (pf0 w fr it j0 j1 j2) word wt way yt ⟨#[]⟩ bt 0 (word.length : Nat) z), CkOk prog w kt (Code.call (.ref 77) ⟨[.str word wt, .int way yt], []⟩) 420 3000 ([]) (fun _ _ => []) 0 (fun _ _ => []) 1 (fun _ ts => .ok (.ret (.str (leadOf q ++ (⟨#[34]⟩ : Str) ++ z.r ++ (⟨#[34]⟩ : Str)) (nthN ts 0))))
end
structure RunsPc (prog : Program) (w : World) (kt : KT) : Prop where
  pc0 : E_pc0 prog w kt
  pc1 : E_pc1 prog w kt
  pc2 : E_pc2 prog w kt
  pc3 : E_pc3 prog w kt
end
end
section
open PySem PySem.Spec PySem.Calls PySem.W PySem.W.X
section
variable {prog : Program} {w : World} {kt : KT}
section
variable (prog : Program) (w : World) (kt : KT)
noncomputable def E_lh0 : Prop := ∀ (vs : List Value) (n : Nat) (hl : ((vs.length : Nat) : Int) < 2 ^ 62) (hl2 : vs.length ≤ 1000) (n0 n1 : Int) (tf : Nat → Nat → Nat → Nat → Nat → Nat) (rest : Nat → Nat → Nat → Nat → List Value) (hrl : ∀ u1 u2 u3 u4, (rest u1 u2 u3 u4).length ≤ 3) (hn : ∀ u1 u2 u3 u4, (app vs (([.int 2 u1, .int 6 u2, .int 11 u3, .int 4 u4] : List Value).drop vs.length)).take 5 = .int n0 (tf 0 u1 u2 u3 u4) :: .int n1 (tf 1 u1 u2 u3 u4) :: rest u1 u2 u3 u4) (ra rb : Int) (hra : Int.fmod n0 1000 = ra) (hrb : Int.fmod n1 1000 = rb) (hla : (strI (ra + 1)).length ≤ 10) (hlb : (strI (rb + 1)).length ≤ 10) (hga : (ra + 1).natAbs.log2 < 1920) (hgb : (rb + 1).natAbs.log2 < 1920) (k : Nat) (hk : k < 3) (hke : Int.fmod (n0 + n1) 3 = (k : Nat)) (w1 w2 : Int) (hw1 : Int.fmod (Int.fdiv n0 2) 64 = w1) (hw2 : Int.fmod (Int.fdiv n1 2) 64 = w2) (first second : Str) (hp1 : PieceOk prog w kt (wordOf (ra + 1) (rb + 1) k) w1 first) (hp2 : PieceOk prog w kt ⟨#[35, 32, 34, 92, 110, 32]⟩ w2 second) (hsz : first.length + second.length ≤ 1000) (hpar : Int.fmod (n0 + n1) 2 = 0) (N1 L1 N2 L2 : Int) (G1 : ∀ p s ep, p.text = (first ++ second) → s.i = 0 → s.l = 1 → GTOk prog w kt p s ep N1 L1 (wordOf (ra + 1) (rb + 1) k)) (G2 : ∀ p s ep, p.text = (first ++ second) → s.i = N1 → s.l = L1 → GTOk prog w kt p s ep N2 L2 (⟨#[35, 32, 34, 92, 110, 32]⟩ : Str)) (G3 : ∀ p s ep, p.text = (first ++ second) → s.i = N2 → s.l = L2 → GTOk prog w kt p s ep N2 L2 ⟨#[]⟩) (T : TreeOk prog w kt (wordOf (ra + 1) (rb + 1) k) (ra + 1) (rb + 1)) (Du : DueOk prog w kt (ra + 1) (rb + 1)) (m1 m2 : Nat) (hc1 : (Builtin.Str.occurrences first ⟨#[10]⟩ 0 first.length (first.length + 1)).length = m1) (hc2 : (Builtin.Str.occurrences (first ++ second) ⟨#[10]⟩ 0 (first ++ second).length ((first ++ second).length + 1)).length = m2) (hN1 : N1 = (first.length : Nat)) (hL1 : L1 = 1 + (m1 : Nat)) (hN2 : N2 = ((first ++ second).length : Nat)) (hL2 : L2 = 1 + (m2 : Nat)), CkH prog w kt (Code.call (.ref 113) ⟨[.ref 114], []⟩) 310 1000 330 1500 ([(114, listO vs n), (86, tableObj #[]), (79, tableObj #[])]) (fun as ts => [listO vs n, tableObj #[], tabO 82 4 (nthN ts 37)]) 37 (fun as ts => lwNw (lwQ w (n0 + n1) (strI (rb + 1)) (strI (ra + 1)) (wordOf (ra + 1) (rb + 1) k) (⟨#[35, 32, 34, 92, 110, 32]⟩ : Str) first (first ++ second) as ts) (ra + 1) (rb + 1) (rest (nthN ts 33) (nthN ts 34) (nthN ts 35) (nthN ts 36)) as ts) 100 (fun as ts => cLw kt (nthN as 4) (nthN as 0) (nthN as 1)) (.ok (.ret (.bool true)))
noncomputable def E_lh1 : Prop := ∀ (vs : List Value) (n : Nat) (hl : ((vs.length : Nat) : Int) < 2 ^ 62) (hl2 : vs.length ≤ 1000) (n0 n1 : Int) (tf : Nat → Nat → Nat → Nat → Nat → Nat) (rest : Nat → Nat → Nat → Nat → List Value) (hrl : ∀ u1 u2 u3 u4, (rest u1 u2 u3 u4).length ≤ 3) (hn : ∀ u1 u2 u3 u4, (app vs (([.int 2 u1, .int 6 u2, .int 11 u3, .int 4 u4] : List Value).drop vs.length)).take 5 = .int n0 (tf 0 u1 u2 u3 u4) :: .int n1 (tf 1 u1 u2 u3 u4) :: rest u1 u2 u3 u4) (ra rb : Int) (hra : Int.fmod n0 1000 = ra) (hrb : Int.fmod n1 1000 = rb) (hla : (strI (ra + 1)).length ≤ 10) (hlb : (strI (rb + 1)).length ≤ 10) (hga : (ra + 1).natAbs.log2 < 1920) (hgb : (rb + 1).natAbs.log2 < 1920) (k : Nat) (hk : k < 3) (hke : Int.fmod (n0 + n1) 3 = (k : Nat)) (w1 w2 : Int) (hw1 : Int.fmod (Int.fdiv n0 2) 64 = w1) (hw2 : Int.fmod (Int.fdiv n1 2) 64 = w2) (first second : Str) (hp1 : PieceOk prog w kt (wordOf (ra + 1) (rb + 1) k) w1 first) (hp2 : PieceOk prog w kt ⟨#[35, 32, 34, 92, 110, 32]⟩ w2 second) (hsz : first.length + second.length ≤ 1000) (hpar : Int.fmod (n0 + n1) 2 = 1) (text : Str) (htx : ∀ t u, sliceMade (first ++ second) t none (some (-1, u)) none = .str text) (htl : text.length ≤ 1000) (N1 L1 N2 L2 : Int) (G1 : ∀ p s ep, p.text = text → s.i = 0 → s.l = 1 → GTOk prog w kt p s ep N1 L1 (wordOf (ra + 1) (rb + 1) k)) (G2 : ∀ p s ep, p.text = text → s.i = N1 → s.l = L1 → GTOk prog w kt p s ep N2 L2 (⟨#[35, 32, 34, 92, 110, 32]⟩ : Str)) (G3 : ∀ p s ep, p.text = text → s.i = N2 → s.l = L2 → GTOk prog w kt p s ep N2 L2 ⟨#[]⟩) (T : TreeOk prog w kt (wordOf (ra + 1) (rb + 1) k) (ra + 1) (rb + 1)) (Du : DueOk prog w kt (ra + 1) (rb + 1)) (m1 m2 : Nat) (hc1 : (Builtin.Str.occurrences first ⟨#[10]⟩ 0 first.length (first.length + 1)).length = m1) (hc2 : (Builtin.Str.occurrences text ⟨#[10]⟩ 0 text.length (text.length + 1)).length = m2) (hN1 : N1 = (first.length : Nat)) (hL1 : L1 = 1 + (m1 : Nat)) (hN2 : N2 = (text.length : Nat)) (hL2 : L2 = 1 + (m2 : Nat)), CkH prog w kt (Code.call (.ref 113) ⟨[.ref 114], []⟩) 310 1000 330 1500 ([(114, listO vs n), (86, tableObj #[]), (79, tableObj #[])]) (fun as ts => [listO vs n, tableObj #[], tabO 82 4 (nthN ts 37)]) 37 (fun as ts => lwNw (lwQ w (n0 + n1) (strI (rb + 1)) (strI (ra + 1)) (wordOf (ra + 1) (rb + 1) k) (⟨#[35, 32, 34, 92, 110, 32]⟩ : Str) first text as ts) (ra + 1) (rb + 1) (rest (nthN ts 33) (nthN ts 34) (nthN ts 35) (nthN ts 36)) as ts) 100 (fun as ts => cLw kt (nthN as 4) (nthN as 0) (nthN as 1)) (.ok (.ret (.bool true)))
end
structure RunsH (prog : Program) (w : World) (kt : KT) : Prop where
  lh0 : E_lh0 prog w kt
  lh1 : E_lh1 prog w kt
end
end
section
open PySem PySem.Spec PySem.Calls PySem.W PySem.W.X
section
variable {prog : Program} {w : World} {kt : KT}
section
variable (prog : Program) (w : World) (kt : KT)
noncomputable def E_w0 : Prop := ∀ (q : LF) (pv : List Value) (ls : List Value) (nn : Int) (un : Nat) (hx : ls[0]? = some (.int nn un)) (leaf : Int) (c0 c1 c2 c3 : Nat) (b0 b1 b2 b3 : Int) (Bi : Bits nn leaf c0 c1 c2 c3 b0 b1 b2 b3) (q1 q2 q3 q4 : Int) (a1 a2 a3 a4 : Addr) (P1 : Pick pv leaf 8 2 q1 a1) (P2 : Pick pv leaf 4 4 q2 a2) (P3 : Pick pv leaf 2 8 q3 a3) (P4 : Pick pv leaf 1 16 q4 a4) (x1 y1 x2 y2 x3 y3 x4 y4 A B : Int) (t : Nat → Nat) (Hc : LbcOk prog w kt c0 c1 c2 c3 x1 y1 A B) (H11 : ∀ c, LbOk prog w kt c c0 c1 c2 c3 true 1 x1 y1 A B) (H20 : ∀ c, LbOk prog w kt c c0 c1 c2 c3 false 2 x2 y2 A B) (H21 : ∀ c, LbOk prog w kt c c0 c1 c2 c3 true 2 x2 y2 A B) (H30 : ∀ c, LbOk prog w kt c c0 c1 c2 c3 false 3 x3 y3 A B) (H31 : ∀ c, LbOk prog w kt c c0 c1 c2 c3 true 3 x3 y3 A B) (H40 : ∀ c, LbOk prog w kt c c0 c1 c2 c3 false 4 x4 y4 A B) (H41 : ∀ c, LbOk prog w kt c c0 c1 c2 c3 true 4 x4 y4 A B), CkA prog w kt (cLw kt q.it q.fr q.cl) 330 1500 ((q.fr, lfr0 q) :: (q.cl, ⟨.type "cell", none, .cell none, #[]⟩) :: (q.it, lit q.ls ((0 : Nat) : Int)) :: (q.ls, listO ls 0) :: (q.pl, listO pv 31) :: pairG a1 x1 (t 2) y1 (t 3) :: pairG a2 x2 (t 4) y2 (t 5) :: pairG a3 x3 (t 6) y3 (t 7) :: pairG a4 x4 (t 8) y4 (t 9) :: pairG q.ro A (t 0) B (t 1) :: (110, tableObj #[]) :: [(86, tableObj #[])]) (fun as ts => lfr1 (lqx w q ts) (.int nn un) (.str (fig4 c0 c1 c2 c3) (nthN ts 21)) (.int 4 (nthN ts 22)) (.ref a4) :: cellO (.int leaf (nthN ts 23)) :: lit q.ls (((0 : Nat) : Int) + 1) :: listO ls 0 :: listO pv 31 :: tupO [.int x1 (t 2), .int y1 (t 3)] :: tupO [.int x2 (t 4), .int y2 (t 5)] :: tupO [.int x3 (t 6), .int y3 (t 7)] :: tupO [.int x4 (t 8), .int y4 (t 9)] :: tupO [.int A (t 0), .int B (t 1)] :: tableObj #[] :: [tabO 93 4 (nthN as 0)]) 3 (fun as ts => [scO (wcOf as ts), tabO 103 19 (wcOf as ts).lc, lcO (wcOf as ts)]) 24 (cLw kt q.it q.fr q.cl)
noncomputable def E_w1 : Prop := ∀ (c : WC) (e1 e2 e3 e4 e5 : Value) (q : LF) (pv : List Value) (ls : List Value) (ix : Nat) (nn : Int) (un : Nat) (hx : ls[ix]? = some (.int nn un)) (leaf : Int) (c0 c1 c2 c3 : Nat) (b0 b1 b2 b3 : Int) (Bi : Bits nn leaf c0 c1 c2 c3 b0 b1 b2 b3) (q1 q2 q3 q4 : Int) (a1 a2 a3 a4 : Addr) (P1 : Pick pv leaf 8 2 q1 a1) (P2 : Pick pv leaf 4 4 q2 a2) (P3 : Pick pv leaf 2 8 q3 a3) (P4 : Pick pv leaf 1 16 q4 a4) (x1 y1 x2 y2 x3 y3 x4 y4 A B : Int) (t : Nat → Nat) (H10 : LbOk prog w kt c c0 c1 c2 c3 false 1 x1 y1 A B) (H11 : LbOk prog w kt c c0 c1 c2 c3 true 1 x1 y1 A B) (H20 : LbOk prog w kt c c0 c1 c2 c3 false 2 x2 y2 A B) (H21 : LbOk prog w kt c c0 c1 c2 c3 true 2 x2 y2 A B) (H30 : LbOk prog w kt c c0 c1 c2 c3 false 3 x3 y3 A B) (H31 : LbOk prog w kt c c0 c1 c2 c3 true 3 x3 y3 A B) (H40 : LbOk prog w kt c c0 c1 c2 c3 false 4 x4 y4 A B) (H41 : LbOk prog w kt c c0 c1 c2 c3 true 4 x4 y4 A B), CkA prog w kt (cLw kt q.it q.fr q.cl) 330 1500 ((q.fr, lfr1 q e1 e2 e3 e4) :: (q.cl, cellO e5) :: (q.it, lit q.ls (ix : Nat)) :: (q.ls, listO ls 0) :: (q.pl, listO pv 31) :: pairG a1 x1 (t 2) y1 (t 3) :: pairG a2 x2 (t 4) y2 (t 5) :: pairG a3 x3 (t 6) y3 (t 7) :: pairG a4 x4 (t 8) y4 (t 9) :: pairG q.ro A (t 0) B (t 1) :: (110, tableObj #[]) :: wcG c) (fun as ts => lfr1 q (.int nn un) (.str (fig4 c0 c1 c2 c3) (nthN ts 0)) (.int 4 (nthN ts 1)) (.ref a4) :: cellO (.int leaf (nthN ts 2)) :: lit q.ls (((ix : Nat) : Int) + 1) :: listO ls 0 :: listO pv 31 :: tupO [.int x1 (t 2), .int y1 (t 3)] :: tupO [.int x2 (t 4), .int y2 (t 5)] :: tupO [.int x3 (t 6), .int y3 (t 7)] :: tupO [.int x4 (t 8), .int y4 (t 9)] :: tupO [.int A (t 0), .int B (t 1)] :: tableObj #[] :: [tabO 93 4 c.sc, scO c, tabO 103 19 c.lc, lcO c]) 0 (fun _ _ => []) 3 (cLw kt q.it q.fr q.cl)
noncomputable def E_we : Prop := ∀ (q : LF) (ls : List Value) (ix : Nat) (hx : ls[ix]? = none), CkOk prog w kt (cLw kt q.it q.fr q.cl) 330 1500 ([(q.it, lit q.ls (ix : Nat)), (q.ls, listO ls 0)]) (fun _ _ => [litD ix, listO ls 0]) 0 (fun _ _ => []) 0 (fun _ _ => .ok .next)
end
structure RunsW (prog : Program) (w : World) (kt : KT) : Prop where
  w0 : E_w0 prog w kt
  w1 : E_w1 prog w kt
  we : E_we prog w kt
end
end
section
open PySem PySem.Spec PySem.Calls PySem.W PySem.W.X
section
variable {prog : Program} {w : World} {kt : KT}
section
variable (prog : Program) (w : World) (kt : KT)
noncomputable def E_tree : Prop := ∀ (X : RunsGlc prog w kt) (p : LP) (l : Int) (lt ep : Nat) (wd : Str) (wt : Nat) (a b : Int) (ha : 0 ≤ a) (hb : 0 ≤ b) (ha1 : a ≤ 1000) (hb1 : b ≤ 1000) (H0 : Wd wd a b) (W : ∀ x y : Int, 0 ≤ x → x < 10 ^ 10 → 0 ≤ y → y < 10 ^ 10 → Wd (strI x ++ (⟨#[46]⟩ : Str) ++ strI y) x y), CkOk prog w kt (Code.call (.ref 96) ⟨[.ref p.lx], []⟩) 420 3000 (trG p l lt wd wt ep) (fun _ _ => [listO [] (ep + 61), instO p.dlx, dlxO p l lt]) 32 (fun as ts => listO (mapN Value.ref (tailN as)) 31 :: tupsOf (trV a b) ts) 62 (fun as _ => .ok (.ret (.ref (nthN as 0))))
end
structure RunsTree (prog : Program) (w : World) (kt : KT) : Prop where
  tree : E_tree prog w kt
end
end
section
open PySem PySem.Spec PySem.Calls PySem.W PySem.W.X
section
variable {prog : Program} {w : World} {kt : KT}
section
variable (prog : Program) (w : World) (kt : KT)
noncomputable def E_s00000 : Prop := ∀ (c : WC) (p : PP), CkOk prog w kt (Code.call (.ref p.sf) ⟨[.str p.f p.ft], []⟩) 740 6500 ((c.sc, scO c) :: (c.st, tabO 103 19 c.lc) :: sgG kt c p false []) (fun _ _ => scO c :: tabO 103 19 c.lc :: mapN Prod.snd (sgG kt c p false [])) 8 (fun as ts => hitO kt w c (hpOf as ts 0 4 [])) 13 (fun as _ => .ok (.ret (.ref (nthN as 0))))
noncomputable def E_s00004 : Prop := ∀ (c : WC) (p : PP) (t : Nat), CkOk prog w kt (Code.call (.ref p.sf) ⟨[.str p.f p.ft, .int 4 t], []⟩) 740 6500 ((c.sc, scO c) :: (c.st, tabO 103 19 c.lc) :: sgG kt c p false []) (fun _ _ => scO c :: tabO 103 19 c.lc :: mapN Prod.snd (sgG kt c p false [])) 0 (fun _ _ => []) 0 (fun _ _ => .ok (.ret .none))
noncomputable def E_s00010 : Prop := ∀ (c : WC) (p : PP), CkOk prog w kt (Code.call (.ref p.sf) ⟨[.str p.f p.ft], []⟩) 740 6500 ((c.sc, scO c) :: (c.st, tabO 103 19 c.lc) :: sgG kt c p true []) (fun _ _ => scO c :: tabO 103 19 c.lc :: mapN Prod.snd (sgG kt c p true [])) 0 (fun _ _ => []) 0 (fun _ _ => .ok (.ret .none))
noncomputable def E_s00100 : Prop := ∀ (c : WC) (p : PP), CkOk prog w kt (Code.call (.ref p.sf) ⟨[.str p.f p.ft], []⟩) 740 6500 ((c.sc, scO c) :: (c.st, tabO 103 19 c.lc) :: sgG kt c p false [.int 3 (p.kt 0)]) (fun _ _ => scO c :: tabO 103 19 c.lc :: mapN Prod.snd (sgG kt c p false [.int 3 (p.kt 0)])) 8 (fun as ts => hitO kt w c (hpOf as ts 0 3 [4])) 13 (fun as _ => .ok (.ret (.ref (nthN as 0))))
noncomputable def E_s00103 : Prop := ∀ (c : WC) (p : PP) (t : Nat), CkOk prog w kt (Code.call (.ref p.sf) ⟨[.str p.f p.ft, .int 3 t], []⟩) 740 6500 ((c.sc, scO c) :: (c.st, tabO 103 19 c.lc) :: sgG kt c p false [.int 3 (p.kt 0)]) (fun _ _ => scO c :: tabO 103 19 c.lc :: mapN Prod.snd (sgG kt c p false [.int 3 (p.kt 0)])) 8 (fun as ts => hitO kt w c (hpOf as ts 3 4 [])) 13 (fun as _ => .ok (.ret (.ref (nthN as 0))))
noncomputable def E_s00104 : Prop := ∀ (c : WC) (p : PP) (t : Nat), CkOk prog w kt (Code.call (.ref p.sf) ⟨[.str p.f p.ft, .int 4 t], []⟩) 740 6500 ((c.sc, scO c) :: (c.st, tabO 103 19 c.lc) :: sgG kt c p false [.int 3 (p.kt 0)]) (fun _ _ => scO c :: tabO 103 19 c.lc :: mapN Prod.snd (sgG kt c p false [.int 3 (p.kt 0)])) 0 (fun _ _ => []) 0 (fun _ _ => .ok (.ret .none))
noncomputable def E_s00110 : Prop := ∀ (c : WC) (p : PP), CkOk prog w kt (Code.call (.ref p.sf) ⟨[.str p.f p.ft], []⟩) 740 6500 ((c.sc, scO c) :: (c.st, tabO 103 19 c.lc) :: sgG kt c p true [.int 3 (p.kt 0)]) (fun _ _ => scO c :: tabO 103 19 c.lc :: mapN Prod.snd (sgG kt c p true [.int 3 (p.kt 0)])) 8 (fun as ts => hitO kt w c (hpOf as ts 3 3 [])) 13 (fun as _ => .ok (.ret (.ref (nthN as 0))))
noncomputable def E_s00114 : Prop := ∀ (c : WC) (p : PP) (t : Nat), CkOk prog w kt (Code.call (.ref p.sf) ⟨[.str p.f p.ft, .int 4 t], []⟩) 740 6500 ((c.sc, scO c) :: (c.st, tabO 103 19 c.lc) :: sgG kt c p true [.int 3 (p.kt 0)]) (fun _ _ => scO c :: tabO 103 19 c.lc :: mapN Prod.snd (sgG kt c p true [.int 3 (p.kt 0)])) 0 (fun _ _ => []) 0 (fun _ _ => .ok (.ret .none))
noncomputable def E_s01000 : Prop := ∀ (c : WC) (p : PP), CkOk prog w kt (Code.call (.ref p.sf) ⟨[.str p.f p.ft], []⟩) 740 6500 ((c.sc, scO c) :: (c.st, tabO 103 19 c.lc) :: sgG kt c p false [.int 2 (p.kt 0)]) (fun _ _ => scO c :: tabO 103 19 c.lc :: mapN Prod.snd (sgG kt c p false [.int 2 (p.kt 0)])) 8 (fun as ts => hitO kt w c (hpOf as ts 0 2 [4])) 13 (fun as _ => .ok (.ret (.ref (nthN as 0))))
noncomputable def E_s01002 : Prop := ∀ (c : WC) (p : PP) (t : Nat), CkOk prog w kt (Code.call (.ref p.sf) ⟨[.str p.f p.ft, .int 2 t], []⟩) 740 6500 ((c.sc, scO c) :: (c.st, tabO 103 19 c.lc) :: sgG kt c p false [.int 2 (p.kt 0)]) (fun _ _ => scO c :: tabO 103 19 c.lc :: mapN Prod.snd (sgG kt c p false [.int 2 (p.kt 0)])) 8 (fun as ts => hitO kt w c (hpOf as ts 2 4 [])) 13 (fun as _ => .ok (.ret (.ref (nthN as 0))))
noncomputable def E_s01004 : Prop := ∀ (c : WC) (p : PP) (t : Nat), CkOk prog w kt (Code.call (.ref p.sf) ⟨[.str p.f p.ft, .int 4 t], []⟩) 740 6500 ((c.sc, scO c) :: (c.st, tabO 103 19 c.lc) :: sgG kt c p false [.int 2 (p.kt 0)]) (fun _ _ => scO c :: tabO 103 19 c.lc :: mapN Prod.snd (sgG kt c p false [.int 2 (p.kt 0)])) 0 (fun _ _ => []) 0 (fun _ _ => .ok (.ret .none))
noncomputable def E_s01010 : Prop := ∀ (c : WC) (p : PP), CkOk prog w kt (Code.call (.ref p.sf) ⟨[.str p.f p.ft], []⟩) 740 6500 ((c.sc, scO c) :: (c.st, tabO 103 19 c.lc) :: sgG kt c p true [.int 2 (p.kt 0)]) (fun _ _ => scO c :: tabO 103 19 c.lc :: mapN Prod.snd (sgG kt c p true [.int 2 (p.kt 0)])) 8 (fun as ts => hitO kt w c (hpOf as ts 2 2 [])) 13 (fun as _ => .ok (.ret (.ref (nthN as 0))))
noncomputable def E_s01013 : Prop := ∀ (c : WC) (p : PP) (t : Nat), CkOk prog w kt (Code.call (.ref p.sf) ⟨[.str p.f p.ft, .int 3 t], []⟩) 740 6500 ((c.sc, scO c) :: (c.st, tabO 103 19 c.lc) :: sgG kt c p true [.int 2 (p.kt 0)]) (fun _ _ => scO c :: tabO 103 19 c.lc :: mapN Prod.snd (sgG kt c p true [.int 2 (p.kt 0)])) 0 (fun _ _ => []) 0 (fun _ _ => .ok (.ret .none))
noncomputable def E_s01100 : Prop := ∀ (c : WC) (p : PP), CkOk prog w kt (Code.call (.ref p.sf) ⟨[.str p.f p.ft], []⟩) 740 6500 ((c.sc, scO c) :: (c.st, tabO 103 19 c.lc) :: sgG kt c p false [.int 2 (p.kt 0), .int 3 (p.kt 1)]) (fun _ _ => scO c :: tabO 103 19 c.lc :: mapN Prod.snd (sgG kt c p false [.int 2 (p.kt 0), .int 3 (p.kt 1)])) 8 (fun as ts => hitO kt w c (hpOf as ts 0 2 [3, 4])) 13 (fun as _ => .ok (.ret (.ref (nthN as 0))))
noncomputable def E_s01102 : Prop := ∀ (c : WC) (p : PP) (t : Nat), CkOk prog w kt (Code.call (.ref p.sf) ⟨[.str p.f p.ft, .int 2 t], []⟩) 740 6500 ((c.sc, scO c) :: (c.st, tabO 103 19 c.lc) :: sgG kt c p false [.int 2 (p.kt 0), .int 3 (p.kt 1)]) (fun _ _ => scO c :: tabO 103 19 c.lc :: mapN Prod.snd (sgG kt c p false [.int 2 (p.kt 0), .int 3 (p.kt 1)])) 8 (fun as ts => hitO kt w c (hpOf as ts 2 3 [4])) 13 (fun as _ => .ok (.ret (.ref (nthN as 0))))
noncomputable def E_s01103 : Prop := ∀ (c : WC) (p : PP) (t : Nat), CkOk prog w kt (Code.call (.ref p.sf) ⟨[.str p.f p.ft, .int 3 t], []⟩) 740 6500 ((c.sc, scO c) :: (c.st, tabO 103 19 c.lc) :: sgG kt c p false [.int 2 (p.kt 0), .int 3 (p.kt 1)]) (fun _ _ => scO c :: tabO 103 19 c.lc :: mapN Prod.snd (sgG kt c p false [.int 2 (p.kt 0), .int 3 (p.kt 1)])) 8 (fun as ts => hitO kt w c (hpOf as ts 3 4 [])) 13 (fun as _ => .ok (.ret (.ref (nthN as 0))))
noncomputable def E_s01104 : Prop := ∀ (c : WC) (p : PP) (t : Nat), CkOk prog w kt (Code.call (.ref p.sf) ⟨[.str p.f p.ft, .int 4 t], []⟩) 740 6500 ((c.sc, scO c) :: (c.st, tabO 103 19 c.lc) :: sgG kt c p false [.int 2 (p.kt 0), .int 3 (p.kt 1)]) (fun _ _ => scO c :: tabO 103 19 c.lc :: mapN Prod.snd (sgG kt c p false [.int 2 (p.kt 0), .int 3 (p.kt 1)])) 0 (fun _ _ => []) 0 (fun _ _ => .ok (.ret .none))
noncomputable def E_s01110 : Prop := ∀ (c : WC) (p : PP), CkOk prog w kt (Code.call (.ref p.sf) ⟨[.str p.f p.ft], []⟩) 740 6500 ((c.sc, scO c) :: (c.st, tabO 103 19 c.lc) :: sgG kt c p true [.int 2 (p.kt 0), .int 3 (p.kt 1)]) (fun _ _ => scO c :: tabO 103 19 c.lc :: mapN Prod.snd (sgG kt c p true [.int 2 (p.kt 0), .int 3 (p.kt 1)])) 8 (fun as ts => hitO kt w c (hpOf as ts 2 2 [3])) 13 (fun as _ => .ok (.ret (.ref (nthN as 0))))
noncomputable def E_s01113 : Prop := ∀ (c : WC) (p : PP) (t : Nat), CkOk prog w kt (Code.call (.ref p.sf) ⟨[.str p.f p.ft, .int 3 t], []⟩) 740 6500 ((c.sc, scO c) :: (c.st, tabO 103 19 c.lc) :: sgG kt c p true [.int 2 (p.kt 0), .int 3 (p.kt 1)]) (fun _ _ => scO c :: tabO 103 19 c.lc :: mapN Prod.snd (sgG kt c p true [.int 2 (p.kt 0), .int 3 (p.kt 1)])) 8 (fun as ts => hitO kt w c (hpOf as ts 3 3 [])) 13 (fun as _ => .ok (.ret (.ref (nthN as 0))))
noncomputable def E_s01114 : Prop := ∀ (c : WC) (p : PP) (t : Nat), CkOk prog w kt (Code.call (.ref p.sf) ⟨[.str p.f p.ft, .int 4 t], []⟩) 740 6500 ((c.sc, scO c) :: (c.st, tabO 103 19 c.lc) :: sgG kt c p true [.int 2 (p.kt 0), .int 3 (p.kt 1)]) (fun _ _ => scO c :: tabO 103 19 c.lc :: mapN Prod.snd (sgG kt c p true [.int 2 (p.kt 0), .int 3 (p.kt 1)])) 0 (fun _ _ => []) 0 (fun _ _ => .ok (.ret .none))
noncomputable def E_s10000 : Prop := ∀ (c : WC) (p : PP), CkOk prog w kt (Code.call (.ref p.sf) ⟨[.str p.f p.ft], []⟩) 740 6500 ((c.sc, scO c) :: (c.st, tabO 103 19 c.lc) :: sgG kt c p false [.int 1 (p.kt 0)]) (fun _ _ => scO c :: tabO 103 19 c.lc :: mapN Prod.snd (sgG kt c p false [.int 1 (p.kt 0)])) 8 (fun as ts => hitO kt w c (hpOf as ts 0 1 [4])) 13 (fun as _ => .ok (.ret (.ref (nthN as 0))))
noncomputable def E_s10001 : Prop := ∀ (c : WC) (p : PP) (t : Nat), CkOk prog w kt (Code.call (.ref p.sf) ⟨[.str p.f p.ft, .int 1 t], []⟩) 740 6500 ((c.sc, scO c) :: (c.st, tabO 103 19 c.lc) :: sgG kt c p false [.int 1 (p.kt 0)]) (fun _ _ => scO c :: tabO 103 19 c.lc :: mapN Prod.snd (sgG kt c p false [.int 1 (p.kt 0)])) 8 (fun as ts => hitO kt w c (hpOf as ts 1 4 [])) 13 (fun as _ => .ok (.ret (.ref (nthN as 0))))
noncomputable def E_s10004 : Prop := ∀ (c : WC) (p : PP) (t : Nat), CkOk prog w kt (Code.call (.ref p.sf) ⟨[.str p.f p.ft, .int 4 t], []⟩) 740 6500 ((c.sc, scO c) :: (c.st, tabO 103 19 c.lc) :: sgG kt c p false [.int 1 (p.kt 0)]) (fun _ _ => scO c :: tabO 103 19 c.lc :: mapN Prod.snd (sgG kt c p false [.int 1 (p.kt 0)])) 0 (fun _ _ => []) 0 (fun _ _ => .ok (.ret .none))
noncomputable def E_s10010 : Prop := ∀ (c : WC) (p : PP), CkOk prog w kt (Code.call (.ref p.sf) ⟨[.str p.f p.ft], []⟩) 740 6500 ((c.sc, scO c) :: (c.st, tabO 103 19 c.lc) :: sgG kt c p true [.int 1 (p.kt 0)]) (fun _ _ => scO c :: tabO 103 19 c.lc :: mapN Prod.snd (sgG kt c p true [.int 1 (p.kt 0)])) 8 (fun as ts => hitO kt w c (hpOf as ts 1 1 [])) 13 (fun as _ => .ok (.ret (.ref (nthN as 0))))
noncomputable def E_s10012 : Prop := ∀ (c : WC) (p : PP) (t : Nat), CkOk prog w kt (Code.call (.ref p.sf) ⟨[.str p.f p.ft, .int 2 t], []⟩) 740 6500 ((c.sc, scO c) :: (c.st, tabO 103 19 c.lc) :: sgG kt c p true [.int 1 (p.kt 0)]) (fun _ _ => scO c :: tabO 103 19 c.lc :: mapN Prod.snd (sgG kt c p true [.int 1 (p.kt 0)])) 0 (fun _ _ => []) 0 (fun _ _ => .ok (.ret .none))
noncomputable def E_s10100 : Prop := ∀ (c : WC) (p : PP), CkOk prog w kt (Code.call (.ref p.sf) ⟨[.str p.f p.ft], []⟩) 740 6500 ((c.sc, scO c) :: (c.st, tabO 103 19 c.lc) :: sgG kt c p false [.int 1 (p.kt 0), .int 3 (p.kt 1)]) (fun _ _ => scO c :: tabO 103 19 c.lc :: mapN Prod.snd (sgG kt c p false [.int 1 (p.kt 0), .int 3 (p.kt 1)])) 8 (fun as ts => hitO kt w c (hpOf as ts 0 1 [3, 4])) 13 (fun as _ => .ok (.ret (.ref (nthN as 0))))
noncomputable def E_s10101 : Prop := ∀ (c : WC) (p : PP) (t : Nat), CkOk prog w kt (Code.call (.ref p.sf) ⟨[.str p.f p.ft, .int 1 t], []⟩) 740 6500 ((c.sc, scO c) :: (c.st, tabO 103 19 c.lc) :: sgG kt c p false [.int 1 (p.kt 0), .int 3 (p.kt 1)]) (fun _ _ => scO c :: tabO 103 19 c.lc :: mapN Prod.snd (sgG kt c p false [.int 1 (p.kt 0), .int 3 (p.kt 1)])) 8 (fun as ts => hitO kt w c (hpOf as ts 1 3 [4])) 13 (fun as _ => .ok (.ret (.ref (nthN as 0))))
noncomputable def E_s10103 : Prop := ∀ (c : WC) (p : PP) (t : Nat), CkOk prog w kt (Code.call (.ref p.sf) ⟨[.str p.f p.ft, .int 3 t], []⟩) 740 6500 ((c.sc, scO c) :: (c.st, tabO 103 19 c.lc) :: sgG kt c p false [.int 1 (p.kt 0), .int 3 (p.kt 1)]) (fun _ _ => scO c :: tabO 103 19 c.lc :: mapN Prod.snd (sgG kt c p false [.int 1 (p.kt 0), .int 3 (p.kt 1)])) 8 (fun as ts => hitO kt w c (hpOf as ts 3 4 [])) 13 (fun as _ => .ok (.ret (.ref (nthN as 0))))
noncomputable def E_s10104 : Prop := ∀ (c : WC) (p : PP) (t : Nat), CkOk prog w kt (Code.call (.ref p.sf) ⟨[.str p.f p.ft, .int 4 t], []⟩) 740 6500 ((c.sc, scO c) :: (c.st, tabO 103 19 c.lc) :: sgG kt c p false [.int 1 (p.kt 0), .int 3 (p.kt 1)]) (fun _ _ => scO c :: tabO 103 19 c.lc :: mapN Prod.snd (sgG kt c p false [.int 1 (p.kt 0), .int 3 (p.kt 1)])) 0 (fun _ _ => []) 0 (fun _ _ => .ok (.ret .none))
noncomputable def E_s10110 : Prop := ∀ (c : WC) (p : PP), CkOk prog w kt (Code.call (.ref p.sf) ⟨[.str p.f p.ft], []⟩) 740 6500 ((c.sc, scO c) :: (c.st, tabO 103 19 c.lc) :: sgG kt c p true [.int 1 (p.kt 0), .int 3 (p.kt 1)]) (fun _ _ => scO c :: tabO 103 19 c.lc :: mapN Prod.snd (sgG kt c p true [.int 1 (p.kt 0), .int 3 (p.kt 1)])) 8 (fun as ts => hitO kt w c (hpOf as ts 1 1 [3])) 13 (fun as _ => .ok (.ret (.ref (nthN as 0))))
noncomputable def E_s10112 : Prop := ∀ (c : WC) (p : PP) (t : Nat), CkOk prog w kt (Code.call (.ref p.sf) ⟨[.str p.f p.ft, .int 2 t], []⟩) 740 6500 ((c.sc, scO c) :: (c.st, tabO 103 19 c.lc) :: sgG kt c p true [.int 1 (p.kt 0), .int 3 (p.kt 1)]) (fun _ _ => scO c :: tabO 103 19 c.lc :: mapN Prod.snd (sgG kt c p true [.int 1 (p.kt 0), .int 3 (p.kt 1)])) 8 (fun as ts => hitO kt w c (hpOf as ts 3 3 [])) 13 (fun as _ => .ok (.ret (.ref (nthN as 0))))
noncomputable def E_s10114 : Prop := ∀ (c : WC) (p : PP) (t : Nat), CkOk prog w kt (Code.call (.ref p.sf) ⟨[.str p.f p.ft, .int 4 t], []⟩) 740 6500 ((c.sc, scO c) :: (c.st, tabO 103 19 c.lc) :: sgG kt c p true [.int 1 (p.kt 0), .int 3 (p.kt 1)]) (fun _ _ => scO c :: tabO 103 19 c.lc :: mapN Prod.snd (sgG kt c p true [.int 1 (p.kt 0), .int 3 (p.kt 1)])) 0 (fun _ _ => []) 0 (fun _ _ => .ok (.ret .none))
noncomputable def E_s11000 : Prop := ∀ (c : WC) (p : PP), CkOk prog w kt (Code.call (.ref p.sf) ⟨[.str p.f p.ft], []⟩) 740 6500 ((c.sc, scO c) :: (c.st, tabO 103 19 c.lc) :: sgG kt c p false [.int 1 (p.kt 0), .int 2 (p.kt 1)]) (fun _ _ => scO c :: tabO 103 19 c.lc :: mapN Prod.snd (sgG kt c p false [.int 1 (p.kt 0), .int 2 (p.kt 1)])) 8 (fun as ts => hitO kt w c (hpOf as ts 0 1 [2, 4])) 13 (fun as _ => .ok (.ret (.ref (nthN as 0))))
noncomputable def E_s11001 : Prop := ∀ (c : WC) (p : PP) (t : Nat), CkOk prog w kt (Code.call (.ref p.sf) ⟨[.str p.f p.ft, .int 1 t], []⟩) 740 6500 ((c.sc, scO c) :: (c.st, tabO 103 19 c.lc) :: sgG kt c p false [.int 1 (p.kt 0), .int 2 (p.kt 1)]) (fun _ _ => scO c :: tabO 103 19 c.lc :: mapN Prod.snd (sgG kt c p false [.int 1 (p.kt 0), .int 2 (p.kt 1)])) 8 (fun as ts => hitO kt w c (hpOf as ts 1 2 [4])) 13 (fun as _ => .ok (.ret (.ref (nthN as 0))))
noncomputable def E_s11002 : Prop := ∀ (c : WC) (p : PP) (t : Nat), CkOk prog w kt (Code.call (.ref p.sf) ⟨[.str p.f p.ft, .int 2 t], []⟩) 740 6500 ((c.sc, scO c) :: (c.st, tabO 103 19 c.lc) :: sgG kt c p false [.int 1 (p.kt 0), .int 2 (p.kt 1)]) (fun _ _ => scO c :: tabO 103 19 c.lc :: mapN Prod.snd (sgG kt c p false [.int 1 (p.kt 0), .int 2 (p.kt 1)])) 8 (fun as ts => hitO kt w c (hpOf as ts 2 4 [])) 13 (fun as _ => .ok (.ret (.ref (nthN as 0))))
noncomputable def E_s11004 : Prop := ∀ (c : WC) (p : PP) (t : Nat), CkOk prog w kt (Code.call (.ref p.sf) ⟨[.str p.f p.ft, .int 4 t], []⟩) 740 6500 ((c.sc, scO c) :: (c.st, tabO 103 19 c.lc) :: sgG kt c p false [.int 1 (p.kt 0), .int 2 (p.kt 1)]) (fun _ _ => scO c :: tabO 103 19 c.lc :: mapN Prod.snd (sgG kt c p false [.int 1 (p.kt 0), .int 2 (p.kt 1)])) 0 (fun _ _ => []) 0 (fun _ _ => .ok (.ret .none))
noncomputable def E_s11010 : Prop := ∀ (c : WC) (p : PP), CkOk prog w kt (Code.call (.ref p.sf) ⟨[.str p.f p.ft], []⟩) 740 6500 ((c.sc, scO c) :: (c.st, tabO 103 19 c.lc) :: sgG kt c p true [.int 1 (p.kt 0), .int 2 (p.kt 1)]) (fun _ _ => scO c :: tabO 103 19 c.lc :: mapN Prod.snd (sgG kt c p true [.int 1 (p.kt 0), .int 2 (p.kt 1)])) 8 (fun as ts => hitO kt w c (hpOf as ts 1 1 [2])) 13 (fun as _ => .ok (.ret (.ref (nthN as 0))))
noncomputable def E_s11012 : Prop := ∀ (c : WC) (p : PP) (t : Nat), CkOk prog w kt (Code.call (.ref p.sf) ⟨[.str p.f p.ft, .int 2 t], []⟩) 740 6500 ((c.sc, scO c) :: (c.st, tabO 103 19 c.lc) :: sgG kt c p true [.int 1 (p.kt 0), .int 2 (p.kt 1)]) (fun _ _ => scO c :: tabO 103 19 c.lc :: mapN Prod.snd (sgG kt c p true [.int 1 (p.kt 0), .int 2 (p.kt 1)])) 8 (fun as ts => hitO kt w c (hpOf as ts 2 2 [])) 13 (fun as _ => .ok (.ret (.ref (nthN as 0))))
noncomputable def E_s11013 : Prop := ∀ (c : WC) (p : PP) (t : Nat), CkOk prog w kt (Code.call (.ref p.sf) ⟨[.str p.f p.ft, .int 3 t], []⟩) 740 6500 ((c.sc, scO c) :: (c.st, tabO 103 19 c.lc) :: sgG kt c p true [.int 1 (p.kt 0), .int 2 (p.kt 1)]) (fun _ _ => scO c :: tabO 103 19 c.lc :: mapN Prod.snd (sgG kt c p true [.int 1 (p.kt 0), .int 2 (p.kt 1)])) 0 (fun _ _ => []) 0 (fun _ _ => .ok (.ret .none))
noncomputable def E_s11100 : Prop := ∀ (c : WC) (p : PP), CkOk prog w kt (Code.call (.ref p.sf) ⟨[.str p.f p.ft], []⟩) 740 6500 ((c.sc, scO c) :: (c.st, tabO 103 19 c.lc) :: sgG kt c p false [.int 1 (p.kt 0), .int 2 (p.kt 1), .int 3 (p.kt 2)]) (fun _ _ => scO c :: tabO 103 19 c.lc :: mapN Prod.snd (sgG kt c p false [.int 1 (p.kt 0), .int 2 (p.kt 1), .int 3 (p.kt 2)])) 8 (fun as ts => hitO kt w c (hpOf as ts 0 1 [2, 3, 4])) 13 (fun as _ => .ok (.ret (.ref (nthN as 0))))
noncomputable def E_s11101 : Prop := ∀ (c : WC) (p : PP) (t : Nat), CkOk prog w kt (Code.call (.ref p.sf) ⟨[.str p.f p.ft, .int 1 t], []⟩) 740 6500 ((c.sc, scO c) :: (c.st, tabO 103 19 c.lc) :: sgG kt c p false [.int 1 (p.kt 0), .int 2 (p.kt 1), .int 3 (p.kt 2)]) (fun _ _ => scO c :: tabO 103 19 c.lc :: mapN Prod.snd (sgG kt c p false [.int 1 (p.kt 0), .int 2 (p.kt 1), .int 3 (p.kt 2)])) 8 (fun as ts => hitO kt w c (hpOf as ts 1 2 [3, 4])) 13 (fun as _ => .ok (.ret (.ref (nthN as 0))))
noncomputable def E_s11102 : Prop := ∀ (c : WC) (p : PP) (t : Nat), CkOk prog w kt (Code.call (.ref p.sf) ⟨[.str p.f p.ft, .int 2 t], []⟩) 740 6500 ((c.sc, scO c) :: (c.st, tabO 103 19 c.lc) :: sgG kt c p false [.int 1 (p.kt 0), .int 2 (p.kt 1), .int 3 (p.kt 2)]) (fun _ _ => scO c :: tabO 103 19 c.lc :: mapN Prod.snd (sgG kt c p false [.int 1 (p.kt 0), .int 2 (p.kt 1), .int 3 (p.kt 2)])) 8 (fun as ts => hitO kt w c (hpOf as ts 2 3 [4])) 13 (fun as _ => .ok (.ret (.ref (nthN as 0))))
noncomputable def E_s11103 : Prop := ∀ (c : WC) (p : PP) (t : Nat), CkOk prog w kt (Code.call (.ref p.sf) ⟨[.str p.f p.ft, .int 3 t], []⟩) 740 6500 ((c.sc, scO c) :: (c.st, tabO 103 19 c.lc) :: sgG kt c p false [.int 1 (p.kt 0), .int 2 (p.kt 1), .int 3 (p.kt 2)]) (fun _ _ => scO c :: tabO 103 19 c.lc :: mapN Prod.snd (sgG kt c p false [.int 1 (p.kt 0), .int 2 (p.kt 1), .int 3 (p.kt 2)])) 8 (fun as ts => hitO kt w c (hpOf as ts 3 4 [])) 13 (fun as _ => .ok (.ret (.ref (nthN as 0))))
noncomputable def E_s11104 : Prop := ∀ (c : WC) (p : PP) (t : Nat), CkOk prog w kt (Code.call (.ref p.sf) ⟨[.str p.f p.ft, .int 4 t], []⟩) 740 6500 ((c.sc, scO c) :: (c.st, tabO 103 19 c.lc) :: sgG kt c p false [.int 1 (p.kt 0), .int 2 (p.kt 1), .int 3 (p.kt 2)]) (fun _ _ => scO c :: tabO 103 19 c.lc :: mapN Prod.snd (sgG kt c p false [.int 1 (p.kt 0), .int 2 (p.kt 1), .int 3 (p.kt 2)])) 0 (fun _ _ => []) 0 (fun _ _ => .ok (.ret .none))
noncomputable def E_s11110 : Prop := ∀ (c : WC) (p : PP), CkOk prog w kt (Code.call (.ref p.sf) ⟨[.str p.f p.ft], []⟩) 740 6500 ((c.sc, scO c) :: (c.st, tabO 103 19 c.lc) :: sgG kt c p true [.int 1 (p.kt 0), .int 2 (p.kt 1), .int 3 (p.kt 2)]) (fun _ _ => scO c :: tabO 103 19 c.lc :: mapN Prod.snd (sgG kt c p true [.int 1 (p.kt 0), .int 2 (p.kt 1), .int 3 (p.kt 2)])) 8 (fun as ts => hitO kt w c (hpOf as ts 1 1 [2, 3])) 13 (fun as _ => .ok (.ret (.ref (nthN as 0))))
noncomputable def E_s11112 : Prop := ∀ (c : WC) (p : PP) (t : Nat), CkOk prog w kt (Code.call (.ref p.sf) ⟨[.str p.f p.ft, .int 2 t], []⟩) 740 6500 ((c.sc, scO c) :: (c.st, tabO 103 19 c.lc) :: sgG kt c p true [.int 1 (p.kt 0), .int 2 (p.kt 1), .int 3 (p.kt 2)]) (fun _ _ => scO c :: tabO 103 19 c.lc :: mapN Prod.snd (sgG kt c p true [.int 1 (p.kt 0), .int 2 (p.kt 1), .int 3 (p.kt 2)])) 8 (fun as ts => hitO kt w c (hpOf as ts 2 2 [3])) 13 (fun as _ => .ok (.ret (.ref (nthN as 0))))
noncomputable def E_s11113 : Prop := ∀ (c : WC) (p : PP) (t : Nat), CkOk prog w kt (Code.call (.ref p.sf) ⟨[.str p.f p.ft, .int 3 t], []⟩) 740 6500 ((c.sc, scO c) :: (c.st, tabO 103 19 c.lc) :: sgG kt c p true [.int 1 (p.kt 0), .int 2 (p.kt 1), .int 3 (p.kt 2)]) (fun _ _ => scO c :: tabO 103 19 c.lc :: mapN Prod.snd (sgG kt c p true [.int 1 (p.kt 0), .int 2 (p.kt 1), .int 3 (p.kt 2)])) 8 (fun as ts => hitO kt w c (hpOf as ts 3 3 [])) 13 (fun as _ => .ok (.ret (.ref (nthN as 0))))
noncomputable def E_s11114 : Prop := ∀ (c : WC) (p : PP) (t : Nat), CkOk prog w kt (Code.call (.ref p.sf) ⟨[.str p.f p.ft, .int 4 t], []⟩) 740 6500 ((c.sc, scO c) :: (c.st, tabO 103 19 c.lc) :: sgG kt c p true [.int 1 (p.kt 0), .int 2 (p.kt 1), .int 3 (p.kt 2)]) (fun _ _ => scO c :: tabO 103 19 c.lc :: mapN Prod.snd (sgG kt c p true [.int 1 (p.kt 0), .int 2 (p.kt 1), .int 3 (p.kt 2)])) 0 (fun _ _ => []) 0 (fun _ _ => .ok (.ret .none))
end
structure RunsS (prog : Program) (w : World) (kt : KT) : Prop where
  s00000 : E_s00000 prog w kt
  s00004 : E_s00004 prog w kt
  s00010 : E_s00010 prog w kt
  s00100 : E_s00100 prog w kt
  s00103 : E_s00103 prog w kt
  s00104 : E_s00104 prog w kt
  s00110 : E_s00110 prog w kt
  s00114 : E_s00114 prog w kt
  s01000 : E_s01000 prog w kt
  s01002 : E_s01002 prog w kt
  s01004 : E_s01004 prog w kt
  s01010 : E_s01010 prog w kt
  s01013 : E_s01013 prog w kt
  s01100 : E_s01100 prog w kt
  s01102 : E_s01102 prog w kt
  s01103 : E_s01103 prog w kt
  s01104 : E_s01104 prog w kt
  s01110 : E_s01110 prog w kt
  s01113 : E_s01113 prog w kt
  s01114 : E_s01114 prog w kt
  s10000 : E_s10000 prog w kt
  s10001 : E_s10001 prog w kt
  s10004 : E_s10004 prog w kt
  s10010 : E_s10010 prog w kt
  s10012 : E_s10012 prog w kt
  s10100 : E_s10100 prog w kt
  s10101 : E_s10101 prog w kt
  s10103 : E_s10103 prog w kt
  s10104 : E_s10104 prog w kt
  s10110 : E_s10110 prog w kt
  s10112 : E_s10112 prog w kt
  s10114 : E_s10114 prog w kt
  s11000 : E_s11000 prog w kt
  s11001 : E_s11001 prog w kt
  s11002 : E_s11002 prog w kt
  s11004 : E_s11004 prog w kt
  s11010 : E_s11010 prog w kt
  s11012 : E_s11012 prog w kt
  s11013 : E_s11013 prog w kt
  s11100 : E_s11100 prog w kt
  s11101 : E_s11101 prog w kt
  s11102 : E_s11102 prog w kt
  s11103 : E_s11103 prog w kt
  s11104 : E_s11104 prog w kt
  s11110 : E_s11110 prog w kt
  s11112 : E_s11112 prog w kt
  s11113 : E_s11113 prog w kt
  s11114 : E_s11114 prog w kt
end
end
section
open PySem PySem.Spec PySem.Calls PySem.W PySem.W.X
section
variable {prog : Program} {w : World} {kt : KT}
section
variable (prog : Program) (w : World) (kt : KT)
noncomputable def E_r00001 : Prop := ∀ (S : RunsS prog w kt) (c : WC) (p : PP) (t : Nat), CkOk prog w kt (Code.call (.ref 63) ⟨[.ref p.pr, .str p.f p.ft, .int 1 t], []⟩) 600 5000 ((c.sc, scO c) :: (c.st, tabO 103 19 c.lc) :: (c.lc, lcO c) :: pgG kt c p false []) (fun _ _ => scO c :: tabO 103 19 c.lc :: lcO c :: mapN Prod.snd (pgG kt c p false [])) 0 (fun _ _ => []) 0 (fun _ _ => .ok (.ret .none))
noncomputable def E_r00002 : Prop := ∀ (S : RunsS prog w kt) (c : WC) (p : PP) (t : Nat), CkOk prog w kt (Code.call (.ref 63) ⟨[.ref p.pr, .str p.f p.ft, .int 2 t], []⟩) 600 5000 ((c.sc, scO c) :: (c.st, tabO 103 19 c.lc) :: (c.lc, lcO c) :: pgG kt c p false []) (fun _ _ => scO c :: tabO 103 19 c.lc :: lcO c :: mapN Prod.snd (pgG kt c p false [])) 0 (fun _ _ => []) 0 (fun _ _ => .ok (.ret .none))
noncomputable def E_r00003 : Prop := ∀ (S : RunsS prog w kt) (c : WC) (p : PP) (t : Nat), CkOk prog w kt (Code.call (.ref 63) ⟨[.ref p.pr, .str p.f p.ft, .int 3 t], []⟩) 600 5000 ((c.sc, scO c) :: (c.st, tabO 103 19 c.lc) :: (c.lc, lcO c) :: pgG kt c p false []) (fun _ _ => scO c :: tabO 103 19 c.lc :: lcO c :: mapN Prod.snd (pgG kt c p false [])) 0 (fun _ _ => []) 0 (fun _ _ => .ok (.ret .none))
noncomputable def E_r00004 : Prop := ∀ (S : RunsS prog w kt) (c : WC) (p : PP) (t : Nat), CkOk prog w kt (Code.call (.ref 63) ⟨[.ref p.pr, .str p.f p.ft, .int 4 t], []⟩) 600 5000 ((c.sc, scO c) :: (c.st, tabO 103 19 c.lc) :: (c.lc, lcO c) :: pgG kt c p false []) (fun _ _ => scO c :: tabO 103 19 c.lc :: lcO c :: mapN Prod.snd (pgG kt c p false [])) 8 (fun as ts => hitO kt w c (hpOf as ts 0 4 [])) 13 (fun as _ => .ok (.ret (.ref (nthN as 0))))
noncomputable def E_r00011 : Prop := ∀ (S : RunsS prog w kt) (c : WC) (p : PP) (t : Nat), CkOk prog w kt (Code.call (.ref 63) ⟨[.ref p.pr, .str p.f p.ft, .int 1 t], []⟩) 600 5000 ((c.sc, scO c) :: (c.st, tabO 103 19 c.lc) :: (c.lc, lcO c) :: pgG kt c p true []) (fun _ _ => scO c :: tabO 103 19 c.lc :: lcO c :: mapN Prod.snd (pgG kt c p true [])) 0 (fun _ _ => []) 0 (fun _ _ => .ok (.ret .none))
noncomputable def E_r00012 : Prop := ∀ (S : RunsS prog w kt) (c : WC) (p : PP) (t : Nat), CkOk prog w kt (Code.call (.ref 63) ⟨[.ref p.pr, .str p.f p.ft, .int 2 t], []⟩) 600 5000 ((c.sc, scO c) :: (c.st, tabO 103 19 c.lc) :: (c.lc, lcO c) :: pgG kt c p true []) (fun _ _ => scO c :: tabO 103 19 c.lc :: lcO c :: mapN Prod.snd (pgG kt c p true [])) 0 (fun _ _ => []) 0 (fun _ _ => .ok (.ret .none))
noncomputable def E_r00013 : Prop := ∀ (S : RunsS prog w kt) (c : WC) (p : PP) (t : Nat), CkOk prog w kt (Code.call (.ref 63) ⟨[.ref p.pr, .str p.f p.ft, .int 3 t], []⟩) 600 5000 ((c.sc, scO c) :: (c.st, tabO 103 19 c.lc) :: (c.lc, lcO c) :: pgG kt c p true []) (fun _ _ => scO c :: tabO 103 19 c.lc :: lcO c :: mapN Prod.snd (pgG kt c p true [])) 0 (fun _ _ => []) 0 (fun _ _ => .ok (.ret .none))
noncomputable def E_r00014 : Prop := ∀ (S : RunsS prog w kt) (c : WC) (p : PP) (t : Nat), CkOk prog w kt (Code.call (.ref 63) ⟨[.ref p.pr, .str p.f p.ft, .int 4 t], []⟩) 600 5000 ((c.sc, scO c) :: (c.st, tabO 103 19 c.lc) :: (c.lc, lcO c) :: pgG kt c p true []) (fun _ _ => scO c :: tabO 103 19 c.lc :: lcO c :: mapN Prod.snd (pgG kt c p true [])) 0 (fun _ _ => []) 0 (fun _ _ => .ok (.ret .none))
noncomputable def E_r00101 : Prop := ∀ (S : RunsS prog w kt) (c : WC) (p : PP) (t : Nat), CkOk prog w kt (Code.call (.ref 63) ⟨[.ref p.pr, .str p.f p.ft, .int 1 t], []⟩) 600 5000 ((c.sc, scO c) :: (c.st, tabO 103 19 c.lc) :: (c.lc, lcO c) :: pgG kt c p false [.int 3 (p.kt 0)]) (fun _ _ => scO c :: tabO 103 19 c.lc :: lcO c :: mapN Prod.snd (pgG kt c p false [.int 3 (p.kt 0)])) 0 (fun _ _ => []) 0 (fun _ _ => .ok (.ret .none))
noncomputable def E_r00102 : Prop := ∀ (S : RunsS prog w kt) (c : WC) (p : PP) (t : Nat), CkOk prog w kt (Code.call (.ref 63) ⟨[.ref p.pr, .str p.f p.ft, .int 2 t], []⟩) 600 5000 ((c.sc, scO c) :: (c.st, tabO 103 19 c.lc) :: (c.lc, lcO c) :: pgG kt c p false [.int 3 (p.kt 0)]) (fun _ _ => scO c :: tabO 103 19 c.lc :: lcO c :: mapN Prod.snd (pgG kt c p false [.int 3 (p.kt 0)])) 0 (fun _ _ => []) 0 (fun _ _ => .ok (.ret .none))
noncomputable def E_r00103 : Prop := ∀ (S : RunsS prog w kt) (c : WC) (p : PP) (t : Nat), CkOk prog w kt (Code.call (.ref 63) ⟨[.ref p.pr, .str p.f p.ft, .int 3 t], []⟩) 600 5000 ((c.sc, scO c) :: (c.st, tabO 103 19 c.lc) :: (c.lc, lcO c) :: pgG kt c p false [.int 3 (p.kt 0)]) (fun _ _ => scO c :: tabO 103 19 c.lc :: lcO c :: mapN Prod.snd (pgG kt c p false [.int 3 (p.kt 0)])) 8 (fun as ts => hitO kt w c (hpOf as ts 0 3 [4])) 13 (fun as _ => .ok (.ret (.ref (nthN as 0))))
noncomputable def E_r00104 : Prop := ∀ (S : RunsS prog w kt) (c : WC) (p : PP) (t : Nat), CkOk prog w kt (Code.call (.ref 63) ⟨[.ref p.pr, .str p.f p.ft, .int 4 t], []⟩) 600 5000 ((c.sc, scO c) :: (c.st, tabO 103 19 c.lc) :: (c.lc, lcO c) :: pgG kt c p false [.int 3 (p.kt 0)]) (fun _ _ => scO c :: tabO 103 19 c.lc :: lcO c :: mapN Prod.snd (pgG kt c p false [.int 3 (p.kt 0)])) 8 (fun as ts => hitO kt w c (hpOf as ts 3 4 [])) 13 (fun as _ => .ok (.ret (.ref (nthN as 0))))
noncomputable def E_r00111 : Prop := ∀ (S : RunsS prog w kt) (c : WC) (p : PP) (t : Nat), CkOk prog w kt (Code.call (.ref 63) ⟨[.ref p.pr, .str p.f p.ft, .int 1 t], []⟩) 600 5000 ((c.sc, scO c) :: (c.st, tabO 103 19 c.lc) :: (c.lc, lcO c) :: pgG kt c p true [.int 3 (p.kt 0)]) (fun _ _ => scO c :: tabO 103 19 c.lc :: lcO c :: mapN Prod.snd (pgG kt c p true [.int 3 (p.kt 0)])) 0 (fun _ _ => []) 0 (fun _ _ => .ok (.ret .none))
noncomputable def E_r00112 : Prop := ∀ (S : RunsS prog w kt) (c : WC) (p : PP) (t : Nat), CkOk prog w kt (Code.call (.ref 63) ⟨[.ref p.pr, .str p.f p.ft, .int 2 t], []⟩) 600 5000 ((c.sc, scO c) :: (c.st, tabO 103 19 c.lc) :: (c.lc, lcO c) :: pgG kt c p true [.int 3 (p.kt 0)]) (fun _ _ => scO c :: tabO 103 19 c.lc :: lcO c :: mapN Prod.snd (pgG kt c p true [.int 3 (p.kt 0)])) 0 (fun _ _ => []) 0 (fun _ _ => .ok (.ret .none))
noncomputable def E_r00113 : Prop := ∀ (S : RunsS prog w kt) (c : WC) (p : PP) (t : Nat), CkOk prog w kt (Code.call (.ref 63) ⟨[.ref p.pr, .str p.f p.ft, .int 3 t], []⟩) 600 5000 ((c.sc, scO c) :: (c.st, tabO 103 19 c.lc) :: (c.lc, lcO c) :: pgG kt c p true [.int 3 (p.kt 0)]) (fun _ _ => scO c :: tabO 103 19 c.lc :: lcO c :: mapN Prod.snd (pgG kt c p true [.int 3 (p.kt 0)])) 0 (fun _ _ => []) 0 (fun _ _ => .ok (.ret .none))
noncomputable def E_r00114 : Prop := ∀ (S : RunsS prog w kt) (c : WC) (p : PP) (t : Nat), CkOk prog w kt (Code.call (.ref 63) ⟨[.ref p.pr, .str p.f p.ft, .int 4 t], []⟩) 600 5000 ((c.sc, scO c) :: (c.st, tabO 103 19 c.lc) :: (c.lc, lcO c) :: pgG kt c p true [.int 3 (p.kt 0)]) (fun _ _ => scO c :: tabO 103 19 c.lc :: lcO c :: mapN Prod.snd (pgG kt c p true [.int 3 (p.kt 0)])) 8 (fun as ts => hitO kt w c (hpOf as ts 3 3 [])) 13 (fun as _ => .ok (.ret (.ref (nthN as 0))))
noncomputable def E_r01001 : Prop := ∀ (S : RunsS prog w kt) (c : WC) (p : PP) (t : Nat), CkOk prog w kt (Code.call (.ref 63) ⟨[.ref p.pr, .str p.f p.ft, .int 1 t], []⟩) 600 5000 ((c.sc, scO c) :: (c.st, tabO 103 19 c.lc) :: (c.lc, lcO c) :: pgG kt c p false [.int 2 (p.kt 0)]) (fun _ _ => scO c :: tabO 103 19 c.lc :: lcO c :: mapN Prod.snd (pgG kt c p false [.int 2 (p.kt 0)])) 0 (fun _ _ => []) 0 (fun _ _ => .ok (.ret .none))
noncomputable def E_r01002 : Prop := ∀ (S : RunsS prog w kt) (c : WC) (p : PP) (t : Nat), CkOk prog w kt (Code.call (.ref 63) ⟨[.ref p.pr, .str p.f p.ft, .int 2 t], []⟩) 600 5000 ((c.sc, scO c) :: (c.st, tabO 103 19 c.lc) :: (c.lc, lcO c) :: pgG kt c p false [.int 2 (p.kt 0)]) (fun _ _ => scO c :: tabO 103 19 c.lc :: lcO c :: mapN Prod.snd (pgG kt c p false [.int 2 (p.kt 0)])) 8 (fun as ts => hitO kt w c (hpOf as ts 0 2 [4])) 13 (fun as _ => .ok (.ret (.ref (nthN as 0))))
noncomputable def E_r01003 : Prop := ∀ (S : RunsS prog w kt) (c : WC) (p : PP) (t : Nat), CkOk prog w kt (Code.call (.ref 63) ⟨[.ref p.pr, .str p.f p.ft, .int 3 t], []⟩) 600 5000 ((c.sc, scO c) :: (c.st, tabO 103 19 c.lc) :: (c.lc, lcO c) :: pgG kt c p false [.int 2 (p.kt 0)]) (fun _ _ => scO c :: tabO 103 19 c.lc :: lcO c :: mapN Prod.snd (pgG kt c p false [.int 2 (p.kt 0)])) 8 (fun as ts => hitO kt w c (hpOf as ts 0 2 [4])) 13 (fun as _ => .ok (.ret (.ref (nthN as 0))))
noncomputable def E_r01004 : Prop := ∀ (S : RunsS prog w kt) (c : WC) (p : PP) (t : Nat), CkOk prog w kt (Code.call (.ref 63) ⟨[.ref p.pr, .str p.f p.ft, .int 4 t], []⟩) 600 5000 ((c.sc, scO c) :: (c.st, tabO 103 19 c.lc) :: (c.lc, lcO c) :: pgG kt c p false [.int 2 (p.kt 0)]) (fun _ _ => scO c :: tabO 103 19 c.lc :: lcO c :: mapN Prod.snd (pgG kt c p false [.int 2 (p.kt 0)])) 8 (fun as ts => hitO kt w c (hpOf as ts 2 4 [])) 13 (fun as _ => .ok (.ret (.ref (nthN as 0))))
noncomputable def E_r01011 : Prop := ∀ (S : RunsS prog w kt) (c : WC) (p : PP) (t : Nat), CkOk prog w kt (Code.call (.ref 63) ⟨[.ref p.pr, .str p.f p.ft, .int 1 t], []⟩) 600 5000 ((c.sc, scO c) :: (c.st, tabO 103 19 c.lc) :: (c.lc, lcO c) :: pgG kt c p true [.int 2 (p.kt 0)]) (fun _ _ => scO c :: tabO 103 19 c.lc :: lcO c :: mapN Prod.snd (pgG kt c p true [.int 2 (p.kt 0)])) 0 (fun _ _ => []) 0 (fun _ _ => .ok (.ret .none))
noncomputable def E_r01012 : Prop := ∀ (S : RunsS prog w kt) (c : WC) (p : PP) (t : Nat), CkOk prog w kt (Code.call (.ref 63) ⟨[.ref p.pr, .str p.f p.ft, .int 2 t], []⟩) 600 5000 ((c.sc, scO c) :: (c.st, tabO 103 19 c.lc) :: (c.lc, lcO c) :: pgG kt c p true [.int 2 (p.kt 0)]) (fun _ _ => scO c :: tabO 103 19 c.lc :: lcO c :: mapN Prod.snd (pgG kt c p true [.int 2 (p.kt 0)])) 0 (fun _ _ => []) 0 (fun _ _ => .ok (.ret .none))
noncomputable def E_r01013 : Prop := ∀ (S : RunsS prog w kt) (c : WC) (p : PP) (t : Nat), CkOk prog w kt (Code.call (.ref 63) ⟨[.ref p.pr, .str p.f p.ft, .int 3 t], []⟩) 600 5000 ((c.sc, scO c) :: (c.st, tabO 103 19 c.lc) :: (c.lc, lcO c) :: pgG kt c p true [.int 2 (p.kt 0)]) (fun _ _ => scO c :: tabO 103 19 c.lc :: lcO c :: mapN Prod.snd (pgG kt c p true [.int 2 (p.kt 0)])) 8 (fun as ts => hitO kt w c (hpOf as ts 2 2 [])) 13 (fun as _ => .ok (.ret (.ref (nthN as 0))))
noncomputable def E_r01014 : Prop := ∀ (S : RunsS prog w kt) (c : WC) (p : PP) (t : Nat), CkOk prog w kt (Code.call (.ref 63) ⟨[.ref p.pr, .str p.f p.ft, .int 4 t], []⟩) 600 5000 ((c.sc, scO c) :: (c.st, tabO 103 19 c.lc) :: (c.lc, lcO c) :: pgG kt c p true [.int 2 (p.kt 0)]) (fun _ _ => scO c :: tabO 103 19 c.lc :: lcO c :: mapN Prod.snd (pgG kt c p true [.int 2 (p.kt 0)])) 8 (fun as ts => hitO kt w c (hpOf as ts 2 2 [])) 13 (fun as _ => .ok (.ret (.ref (nthN as 0))))
noncomputable def E_r01101 : Prop := ∀ (S : RunsS prog w kt) (c : WC) (p : PP) (t : Nat), CkOk prog w kt (Code.call (.ref 63) ⟨[.ref p.pr, .str p.f p.ft, .int 1 t], []⟩) 600 5000 ((c.sc, scO c) :: (c.st, tabO 103 19 c.lc) :: (c.lc, lcO c) :: pgG kt c p false [.int 2 (p.kt 0), .int 3 (p.kt 1)]) (fun _ _ => scO c :: tabO 103 19 c.lc :: lcO c :: mapN Prod.snd (pgG kt c p false [.int 2 (p.kt 0), .int 3 (p.kt 1)])) 0 (fun _ _ => []) 0 (fun _ _ => .ok (.ret .none))
noncomputable def E_r01102 : Prop := ∀ (S : RunsS prog w kt) (c : WC) (p : PP) (t : Nat), CkOk prog w kt (Code.call (.ref 63) ⟨[.ref p.pr, .str p.f p.ft, .int 2 t], []⟩) 600 5000 ((c.sc, scO c) :: (c.st, tabO 103 19 c.lc) :: (c.lc, lcO c) :: pgG kt c p false [.int 2 (p.kt 0), .int 3 (p.kt 1)]) (fun _ _ => scO c :: tabO 103 19 c.lc :: lcO c :: mapN Prod.snd (pgG kt c p false [.int 2 (p.kt 0), .int 3 (p.kt 1)])) 8 (fun as ts => hitO kt w c (hpOf as ts 0 2 [3, 4])) 13 (fun as _ => .ok (.ret (.ref (nthN as 0))))
noncomputable def E_r01103 : Prop := ∀ (S : RunsS prog w kt) (c : WC) (p : PP) (t : Nat), CkOk prog w kt (Code.call (.ref 63) ⟨[.ref p.pr, .str p.f p.ft, .int 3 t], []⟩) 600 5000 ((c.sc, scO c) :: (c.st, tabO 103 19 c.lc) :: (c.lc, lcO c) :: pgG kt c p false [.int 2 (p.kt 0), .int 3 (p.kt 1)]) (fun _ _ => scO c :: tabO 103 19 c.lc :: lcO c :: mapN Prod.snd (pgG kt c p false [.int 2 (p.kt 0), .int 3 (p.kt 1)])) 8 (fun as ts => hitO kt w c (hpOf as ts 2 3 [4])) 13 (fun as _ => .ok (.ret (.ref (nthN as 0))))
noncomputable def E_r01104 : Prop := ∀ (S : RunsS prog w kt) (c : WC) (p : PP) (t : Nat), CkOk prog w kt (Code.call (.ref 63) ⟨[.ref p.pr, .str p.f p.ft, .int 4 t], []⟩) 600 5000 ((c.sc, scO c) :: (c.st, tabO 103 19 c.lc) :: (c.lc, lcO c) :: pgG kt c p false [.int 2 (p.kt 0), .int 3 (p.kt 1)]) (fun _ _ => scO c :: tabO 103 19 c.lc :: lcO c :: mapN Prod.snd (pgG kt c p false [.int 2 (p.kt 0), .int 3 (p.kt 1)])) 8 (fun as ts => hitO kt w c (hpOf as ts 3 4 [])) 13 (fun as _ => .ok (.ret (.ref (nthN as 0))))
noncomputable def E_r01111 : Prop := ∀ (S : RunsS prog w kt) (c : WC) (p : PP) (t : Nat), CkOk prog w kt (Code.call (.ref 63) ⟨[.ref p.pr, .str p.f p.ft, .int 1 t], []⟩) 600 5000 ((c.sc, scO c) :: (c.st, tabO 103 19 c.lc) :: (c.lc, lcO c) :: pgG kt c p true [.int 2 (p.kt 0), .int 3 (p.kt 1)]) (fun _ _ => scO c :: tabO 103 19 c.lc :: lcO c :: mapN Prod.snd (pgG kt c p true [.int 2 (p.kt 0), .int 3 (p.kt 1)])) 0 (fun _ _ => []) 0 (fun _ _ => .ok (.ret .none))
noncomputable def E_r01112 : Prop := ∀ (S : RunsS prog w kt) (c : WC) (p : PP) (t : Nat), CkOk prog w kt (Code.call (.ref 63) ⟨[.ref p.pr, .str p.f p.ft, .int 2 t], []⟩) 600 5000 ((c.sc, scO c) :: (c.st, tabO 103 19 c.lc) :: (c.lc, lcO c) :: pgG kt c p true [.int 2 (p.kt 0), .int 3 (p.kt 1)]) (fun _ _ => scO c :: tabO 103 19 c.lc :: lcO c :: mapN Prod.snd (pgG kt c p true [.int 2 (p.kt 0), .int 3 (p.kt 1)])) 0 (fun _ _ => []) 0 (fun _ _ => .ok (.ret .none))
noncomputable def E_r01113 : Prop := ∀ (S : RunsS prog w kt) (c : WC) (p : PP) (t : Nat), CkOk prog w kt (Code.call (.ref 63) ⟨[.ref p.pr, .str p.f p.ft, .int 3 t], []⟩) 600 5000 ((c.sc, scO c) :: (c.st, tabO 103 19 c.lc) :: (c.lc, lcO c) :: pgG kt c p true [.int 2 (p.kt 0), .int 3 (p.kt 1)]) (fun _ _ => scO c :: tabO 103 19 c.lc :: lcO c :: mapN Prod.snd (pgG kt c p true [.int 2 (p.kt 0), .int 3 (p.kt 1)])) 8 (fun as ts => hitO kt w c (hpOf as ts 2 2 [3])) 13 (fun as _ => .ok (.ret (.ref (nthN as 0))))
noncomputable def E_r01114 : Prop := ∀ (S : RunsS prog w kt) (c : WC) (p : PP) (t : Nat), CkOk prog w kt (Code.call (.ref 63) ⟨[.ref p.pr, .str p.f p.ft, .int 4 t], []⟩) 600 5000 ((c.sc, scO c) :: (c.st, tabO 103 19 c.lc) :: (c.lc, lcO c) :: pgG kt c p true [.int 2 (p.kt 0), .int 3 (p.kt 1)]) (fun _ _ => scO c :: tabO 103 19 c.lc :: lcO c :: mapN Prod.snd (pgG kt c p true [.int 2 (p.kt 0), .int 3 (p.kt 1)])) 8 (fun as ts => hitO kt w c (hpOf as ts 3 3 [])) 13 (fun as _ => .ok (.ret (.ref (nthN as 0))))
noncomputable def E_r10001 : Prop := ∀ (S : RunsS prog w kt) (c : WC) (p : PP) (t : Nat), CkOk prog w kt (Code.call (.ref 63) ⟨[.ref p.pr, .str p.f p.ft, .int 1 t], []⟩) 600 5000 ((c.sc, scO c) :: (c.st, tabO 103 19 c.lc) :: (c.lc, lcO c) :: pgG kt c p false [.int 1 (p.kt 0)]) (fun _ _ => scO c :: tabO 103 19 c.lc :: lcO c :: mapN Prod.snd (pgG kt c p false [.int 1 (p.kt 0)])) 8 (fun as ts => hitO kt w c (hpOf as ts 0 1 [4])) 13 (fun as _ => .ok (.ret (.ref (nthN as 0))))
noncomputable def E_r10002 : Prop := ∀ (S : RunsS prog w kt) (c : WC) (p : PP) (t : Nat), CkOk prog w kt (Code.call (.ref 63) ⟨[.ref p.pr, .str p.f p.ft, .int 2 t], []⟩) 600 5000 ((c.sc, scO c) :: (c.st, tabO 103 19 c.lc) :: (c.lc, lcO c) :: pgG kt c p false [.int 1 (p.kt 0)]) (fun _ _ => scO c :: tabO 103 19 c.lc :: lcO c :: mapN Prod.snd (pgG kt c p false [.int 1 (p.kt 0)])) 8 (fun as ts => hitO kt w c (hpOf as ts 0 1 [4])) 13 (fun as _ => .ok (.ret (.ref (nthN as 0))))
noncomputable def E_r10003 : Prop := ∀ (S : RunsS prog w kt) (c : WC) (p : PP) (t : Nat), CkOk prog w kt (Code.call (.ref 63) ⟨[.ref p.pr, .str p.f p.ft, .int 3 t], []⟩) 600 5000 ((c.sc, scO c) :: (c.st, tabO 103 19 c.lc) :: (c.lc, lcO c) :: pgG kt c p false [.int 1 (p.kt 0)]) (fun _ _ => scO c :: tabO 103 19 c.lc :: lcO c :: mapN Prod.snd (pgG kt c p false [.int 1 (p.kt 0)])) 8 (fun as ts => hitO kt w c (hpOf as ts 0 1 [4])) 13 (fun as _ => .ok (.ret (.ref (nthN as 0))))
noncomputable def E_r10004 : Prop := ∀ (S : RunsS prog w kt) (c : WC) (p : PP) (t : Nat), CkOk prog w kt (Code.call (.ref 63) ⟨[.ref p.pr, .str p.f p.ft, .int 4 t], []⟩) 600 5000 ((c.sc, scO c) :: (c.st, tabO 103 19 c.lc) :: (c.lc, lcO c) :: pgG kt c p false [.int 1 (p.kt 0)]) (fun _ _ => scO c :: tabO 103 19 c.lc :: lcO c :: mapN Prod.snd (pgG kt c p false [.int 1 (p.kt 0)])) 8 (fun as ts => hitO kt w c (hpOf as ts 1 4 [])) 13 (fun as _ => .ok (.ret (.ref (nthN as 0))))
noncomputable def E_r10011 : Prop := ∀ (S : RunsS prog w kt) (c : WC) (p : PP) (t : Nat), CkOk prog w kt (Code.call (.ref 63) ⟨[.ref p.pr, .str p.f p.ft, .int 1 t], []⟩) 600 5000 ((c.sc, scO c) :: (c.st, tabO 103 19 c.lc) :: (c.lc, lcO c) :: pgG kt c p true [.int 1 (p.kt 0)]) (fun _ _ => scO c :: tabO 103 19 c.lc :: lcO c :: mapN Prod.snd (pgG kt c p true [.int 1 (p.kt 0)])) 0 (fun _ _ => []) 0 (fun _ _ => .ok (.ret .none))
noncomputable def E_r10012 : Prop := ∀ (S : RunsS prog w kt) (c : WC) (p : PP) (t : Nat), CkOk prog w kt (Code.call (.ref 63) ⟨[.ref p.pr, .str p.f p.ft, .int 2 t], []⟩) 600 5000 ((c.sc, scO c) :: (c.st, tabO 103 19 c.lc) :: (c.lc, lcO c) :: pgG kt c p true [.int 1 (p.kt 0)]) (fun _ _ => scO c :: tabO 103 19 c.lc :: lcO c :: mapN Prod.snd (pgG kt c p true [.int 1 (p.kt 0)])) 8 (fun as ts => hitO kt w c (hpOf as ts 1 1 [])) 13 (fun as _ => .ok (.ret (.ref (nthN as 0))))
noncomputable def E_r10013 : Prop := ∀ (S : RunsS prog w kt) (c : WC) (p : PP) (t : Nat), CkOk prog w kt (Code.call (.ref 63) ⟨[.ref p.pr, .str p.f p.ft, .int 3 t], []⟩) 600 5000 ((c.sc, scO c) :: (c.st, tabO 103 19 c.lc) :: (c.lc, lcO c) :: pgG kt c p true [.int 1 (p.kt 0)]) (fun _ _ => scO c :: tabO 103 19 c.lc :: lcO c :: mapN Prod.snd (pgG kt c p true [.int 1 (p.kt 0)])) 8 (fun as ts => hitO kt w c (hpOf as ts 1 1 [])) 13 (fun as _ => .ok (.ret (.ref (nthN as 0))))
noncomputable def E_r10014 : Prop := ∀ (S : RunsS prog w kt) (c : WC) (p : PP) (t : Nat), CkOk prog w kt (Code.call (.ref 63) ⟨[.ref p.pr, .str p.f p.ft, .int 4 t], []⟩) 600 5000 ((c.sc, scO c) :: (c.st, tabO 103 19 c.lc) :: (c.lc, lcO c) :: pgG kt c p true [.int 1 (p.kt 0)]) (fun _ _ => scO c :: tabO 103 19 c.lc :: lcO c :: mapN Prod.snd (pgG kt c p true [.int 1 (p.kt 0)])) 8 (fun as ts => hitO kt w c (hpOf as ts 1 1 [])) 13 (fun as _ => .ok (.ret (.ref (nthN as 0))))
noncomputable def E_r10101 : Prop := ∀ (S : RunsS prog w kt) (c : WC) (p : PP) (t : Nat), CkOk prog w kt (Code.call (.ref 63) ⟨[.ref p.pr, .str p.f p.ft, .int 1 t], []⟩) 600 5000 ((c.sc, scO c) :: (c.st, tabO 103 19 c.lc) :: (c.lc, lcO c) :: pgG kt c p false [.int 1 (p.kt 0), .int 3 (p.kt 1)]) (fun _ _ => scO c :: tabO 103 19 c.lc :: lcO c :: mapN Prod.snd (pgG kt c p false [.int 1 (p.kt 0), .int 3 (p.kt 1)])) 8 (fun as ts => hitO kt w c (hpOf as ts 0 1 [3, 4])) 13 (fun as _ => .ok (.ret (.ref (nthN as 0))))
noncomputable def E_r10102 : Prop := ∀ (S : RunsS prog w kt) (c : WC) (p : PP) (t : Nat), CkOk prog w kt (Code.call (.ref 63) ⟨[.ref p.pr, .str p.f p.ft, .int 2 t], []⟩) 600 5000 ((c.sc, scO c) :: (c.st, tabO 103 19 c.lc) :: (c.lc, lcO c) :: pgG kt c p false [.int 1 (p.kt 0), .int 3 (p.kt 1)]) (fun _ _ => scO c :: tabO 103 19 c.lc :: lcO c :: mapN Prod.snd (pgG kt c p false [.int 1 (p.kt 0), .int 3 (p.kt 1)])) 8 (fun as ts => hitO kt w c (hpOf as ts 0 1 [3, 4])) 13 (fun as _ => .ok (.ret (.ref (nthN as 0))))
noncomputable def E_r10103 : Prop := ∀ (S : RunsS prog w kt) (c : WC) (p : PP) (t : Nat), CkOk prog w kt (Code.call (.ref 63) ⟨[.ref p.pr, .str p.f p.ft, .int 3 t], []⟩) 600 5000 ((c.sc, scO c) :: (c.st, tabO 103 19 c.lc) :: (c.lc, lcO c) :: pgG kt c p false [.int 1 (p.kt 0), .int 3 (p.kt 1)]) (fun _ _ => scO c :: tabO 103 19 c.lc :: lcO c :: mapN Prod.snd (pgG kt c p false [.int 1 (p.kt 0), .int 3 (p.kt 1)])) 8 (fun as ts => hitO kt w c (hpOf as ts 1 3 [4])) 13 (fun as _ => .ok (.ret (.ref (nthN as 0))))
noncomputable def E_r10104 : Prop := ∀ (S : RunsS prog w kt) (c : WC) (p : PP) (t : Nat), CkOk prog w kt (Code.call (.ref 63) ⟨[.ref p.pr, .str p.f p.ft, .int 4 t], []⟩) 600 5000 ((c.sc, scO c) :: (c.st, tabO 103 19 c.lc) :: (c.lc, lcO c) :: pgG kt c p false [.int 1 (p.kt 0), .int 3 (p.kt 1)]) (fun _ _ => scO c :: tabO 103 19 c.lc :: lcO c :: mapN Prod.snd (pgG kt c p false [.int 1 (p.kt 0), .int 3 (p.kt 1)])) 8 (fun as ts => hitO kt w c (hpOf as ts 3 4 [])) 13 (fun as _ => .ok (.ret (.ref (nthN as 0))))
noncomputable def E_r10111 : Prop := ∀ (S : RunsS prog w kt) (c : WC) (p : PP) (t : Nat), CkOk prog w kt (Code.call (.ref 63) ⟨[.ref p.pr, .str p.f p.ft, .int 1 t], []⟩) 600 5000 ((c.sc, scO c) :: (c.st, tabO 103 19 c.lc) :: (c.lc, lcO c) :: pgG kt c p true [.int 1 (p.kt 0), .int 3 (p.kt 1)]) (fun _ _ => scO c :: tabO 103 19 c.lc :: lcO c :: mapN Prod.snd (pgG kt c p true [.int 1 (p.kt 0), .int 3 (p.kt 1)])) 0 (fun _ _ => []) 0 (fun _ _ => .ok (.ret .none))
noncomputable def E_r10112 : Prop := ∀ (S : RunsS prog w kt) (c : WC) (p : PP) (t : Nat), CkOk prog w kt (Code.call (.ref 63) ⟨[.ref p.pr, .str p.f p.ft, .int 2 t], []⟩) 600 5000 ((c.sc, scO c) :: (c.st, tabO 103 19 c.lc) :: (c.lc, lcO c) :: pgG kt c p true [.int 1 (p.kt 0), .int 3 (p.kt 1)]) (fun _ _ => scO c :: tabO 103 19 c.lc :: lcO c :: mapN Prod.snd (pgG kt c p true [.int 1 (p.kt 0), .int 3 (p.kt 1)])) 8 (fun as ts => hitO kt w c (hpOf as ts 1 1 [3])) 13 (fun as _ => .ok (.ret (.ref (nthN as 0))))
noncomputable def E_r10113 : Prop := ∀ (S : RunsS prog w kt) (c : WC) (p : PP) (t : Nat), CkOk prog w kt (Code.call (.ref 63) ⟨[.ref p.pr, .str p.f p.ft, .int 3 t], []⟩) 600 5000 ((c.sc, scO c) :: (c.st, tabO 103 19 c.lc) :: (c.lc, lcO c) :: pgG kt c p true [.int 1 (p.kt 0), .int 3 (p.kt 1)]) (fun _ _ => scO c :: tabO 103 19 c.lc :: lcO c :: mapN Prod.snd (pgG kt c p true [.int 1 (p.kt 0), .int 3 (p.kt 1)])) 8 (fun as ts => hitO kt w c (hpOf as ts 1 1 [3])) 13 (fun as _ => .ok (.ret (.ref (nthN as 0))))
noncomputable def E_r10114 : Prop := ∀ (S : RunsS prog w kt) (c : WC) (p : PP) (t : Nat), CkOk prog w kt (Code.call (.ref 63) ⟨[.ref p.pr, .str p.f p.ft, .int 4 t], []⟩) 600 5000 ((c.sc, scO c) :: (c.st, tabO 103 19 c.lc) :: (c.lc, lcO c) :: pgG kt c p true [.int 1 (p.kt 0), .int 3 (p.kt 1)]) (fun _ _ => scO c :: tabO 103 19 c.lc :: lcO c :: mapN Prod.snd (pgG kt c p true [.int 1 (p.kt 0), .int 3 (p.kt 1)])) 8 (fun as ts => hitO kt w c (hpOf as ts 3 3 [])) 13 (fun as _ => .ok (.ret (.ref (nthN as 0))))
noncomputable def E_r11001 : Prop := ∀ (S : RunsS prog w kt) (c : WC) (p : PP) (t : Nat), CkOk prog w kt (Code.call (.ref 63) ⟨[.ref p.pr, .str p.f p.ft, .int 1 t], []⟩) 600 5000 ((c.sc, scO c) :: (c.st, tabO 103 19 c.lc) :: (c.lc, lcO c) :: pgG kt c p false [.int 1 (p.kt 0), .int 2 (p.kt 1)]) (fun _ _ => scO c :: tabO 103 19 c.lc :: lcO c :: mapN Prod.snd (pgG kt c p false [.int 1 (p.kt 0), .int 2 (p.kt 1)])) 8 (fun as ts => hitO kt w c (hpOf as ts 0 1 [2, 4])) 13 (fun as _ => .ok (.ret (.ref (nthN as 0))))
noncomputable def E_r11002 : Prop := ∀ (S : RunsS prog w kt) (c : WC) (p : PP) (t : Nat), CkOk prog w kt (Code.call (.ref 63) ⟨[.ref p.pr, .str p.f p.ft, .int 2 t], []⟩) 600 5000 ((c.sc, scO c) :: (c.st, tabO 103 19 c.lc) :: (c.lc, lcO c) :: pgG kt c p false [.int 1 (p.kt 0), .int 2 (p.kt 1)]) (fun _ _ => scO c :: tabO 103 19 c.lc :: lcO c :: mapN Prod.snd (pgG kt c p false [.int 1 (p.kt 0), .int 2 (p.kt 1)])) 8 (fun as ts => hitO kt w c (hpOf as ts 1 2 [4])) 13 (fun as _ => .ok (.ret (.ref (nthN as 0))))
noncomputable def E_r11003 : Prop := ∀ (S : RunsS prog w kt) (c : WC) (p : PP) (t : Nat), CkOk prog w kt (Code.call (.ref 63) ⟨[.ref p.pr, .str p.f p.ft, .int 3 t], []⟩) 600 5000 ((c.sc, scO c) :: (c.st, tabO 103 19 c.lc) :: (c.lc, lcO c) :: pgG kt c p false [.int 1 (p.kt 0), .int 2 (p.kt 1)]) (fun _ _ => scO c :: tabO 103 19 c.lc :: lcO c :: mapN Prod.snd (pgG kt c p false [.int 1 (p.kt 0), .int 2 (p.kt 1)])) 8 (fun as ts => hitO kt w c (hpOf as ts 1 2 [4])) 13 (fun as _ => .ok (.ret (.ref (nthN as 0))))
noncomputable def E_r11004 : Prop := ∀ (S : RunsS prog w kt) (c : WC) (p : PP) (t : Nat), CkOk prog w kt (Code.call (.ref 63) ⟨[.ref p.pr, .str p.f p.ft, .int 4 t], []⟩) 600 5000 ((c.sc, scO c) :: (c.st, tabO 103 19 c.lc) :: (c.lc, lcO c) :: pgG kt c p false [.int 1 (p.kt 0), .int 2 (p.kt 1)]) (fun _ _ => scO c :: tabO 103 19 c.lc :: lcO c :: mapN Prod.snd (pgG kt c p false [.int 1 (p.kt 0), .int 2 (p.kt 1)])) 8 (fun as ts => hitO kt w c (hpOf as ts 2 4 [])) 13 (fun as _ => .ok (.ret (.ref (nthN as 0))))
noncomputable def E_r11011 : Prop := ∀ (S : RunsS prog w kt) (c : WC) (p : PP) (t : Nat), CkOk prog w kt (Code.call (.ref 63) ⟨[.ref p.pr, .str p.f p.ft, .int 1 t], []⟩) 600 5000 ((c.sc, scO c) :: (c.st, tabO 103 19 c.lc) :: (c.lc, lcO c) :: pgG kt c p true [.int 1 (p.kt 0), .int 2 (p.kt 1)]) (fun _ _ => scO c :: tabO 103 19 c.lc :: lcO c :: mapN Prod.snd (pgG kt c p true [.int 1 (p.kt 0), .int 2 (p.kt 1)])) 0 (fun _ _ => []) 0 (fun _ _ => .ok (.ret .none))
noncomputable def E_r11012 : Prop := ∀ (S : RunsS prog w kt) (c : WC) (p : PP) (t : Nat), CkOk prog w kt (Code.call (.ref 63) ⟨[.ref p.pr, .str p.f p.ft, .int 2 t], []⟩) 600 5000 ((c.sc, scO c) :: (c.st, tabO 103 19 c.lc) :: (c.lc, lcO c) :: pgG kt c p true [.int 1 (p.kt 0), .int 2 (p.kt 1)]) (fun _ _ => scO c :: tabO 103 19 c.lc :: lcO c :: mapN Prod.snd (pgG kt c p true [.int 1 (p.kt 0), .int 2 (p.kt 1)])) 8 (fun as ts => hitO kt w c (hpOf as ts 1 1 [2])) 13 (fun as _ => .ok (.ret (.ref (nthN as 0))))
noncomputable def E_r11013 : Prop := ∀ (S : RunsS prog w kt) (c : WC) (p : PP) (t : Nat), CkOk prog w kt (Code.call (.ref 63) ⟨[.ref p.pr, .str p.f p.ft, .int 3 t], []⟩) 600 5000 ((c.sc, scO c) :: (c.st, tabO 103 19 c.lc) :: (c.lc, lcO c) :: pgG kt c p true [.int 1 (p.kt 0), .int 2 (p.kt 1)]) (fun _ _ => scO c :: tabO 103 19 c.lc :: lcO c :: mapN Prod.snd (pgG kt c p true [.int 1 (p.kt 0), .int 2 (p.kt 1)])) 8 (fun as ts => hitO kt w c (hpOf as ts 2 2 [])) 13 (fun as _ => .ok (.ret (.ref (nthN as 0))))
noncomputable def E_r11014 : Prop := ∀ (S : RunsS prog w kt) (c : WC) (p : PP) (t : Nat), CkOk prog w kt (Code.call (.ref 63) ⟨[.ref p.pr, .str p.f p.ft, .int 4 t], []⟩) 600 5000 ((c.sc, scO c) :: (c.st, tabO 103 19 c.lc) :: (c.lc, lcO c) :: pgG kt c p true [.int 1 (p.kt 0), .int 2 (p.kt 1)]) (fun _ _ => scO c :: tabO 103 19 c.lc :: lcO c :: mapN Prod.snd (pgG kt c p true [.int 1 (p.kt 0), .int 2 (p.kt 1)])) 8 (fun as ts => hitO kt w c (hpOf as ts 2 2 [])) 13 (fun as _ => .ok (.ret (.ref (nthN as 0))))
noncomputable def E_r11101 : Prop := ∀ (S : RunsS prog w kt) (c : WC) (p : PP) (t : Nat), CkOk prog w kt (Code.call (.ref 63) ⟨[.ref p.pr, .str p.f p.ft, .int 1 t], []⟩) 600 5000 ((c.sc, scO c) :: (c.st, tabO 103 19 c.lc) :: (c.lc, lcO c) :: pgG kt c p false [.int 1 (p.kt 0), .int 2 (p.kt 1), .int 3 (p.kt 2)]) (fun _ _ => scO c :: tabO 103 19 c.lc :: lcO c :: mapN Prod.snd (pgG kt c p false [.int 1 (p.kt 0), .int 2 (p.kt 1), .int 3 (p.kt 2)])) 8 (fun as ts => hitO kt w c (hpOf as ts 0 1 [2, 3, 4])) 13 (fun as _ => .ok (.ret (.ref (nthN as 0))))
noncomputable def E_r11102 : Prop := ∀ (S : RunsS prog w kt) (c : WC) (p : PP) (t : Nat), CkOk prog w kt (Code.call (.ref 63) ⟨[.ref p.pr, .str p.f p.ft, .int 2 t], []⟩) 600 5000 ((c.sc, scO c) :: (c.st, tabO 103 19 c.lc) :: (c.lc, lcO c) :: pgG kt c p false [.int 1 (p.kt 0), .int 2 (p.kt 1), .int 3 (p.kt 2)]) (fun _ _ => scO c :: tabO 103 19 c.lc :: lcO c :: mapN Prod.snd (pgG kt c p false [.int 1 (p.kt 0), .int 2 (p.kt 1), .int 3 (p.kt 2)])) 8 (fun as ts => hitO kt w c (hpOf as ts 1 2 [3, 4])) 13 (fun as _ => .ok (.ret (.ref (nthN as 0))))
noncomputable def E_r11103 : Prop := ∀ (S : RunsS prog w kt) (c : WC) (p : PP) (t : Nat), CkOk prog w kt (Code.call (.ref 63) ⟨[.ref p.pr, .str p.f p.ft, .int 3 t], []⟩) 600 5000 ((c.sc, scO c) :: (c.st, tabO 103 19 c.lc) :: (c.lc, lcO c) :: pgG kt c p false [.int 1 (p.kt 0), .int 2 (p.kt 1), .int 3 (p.kt 2)]) (fun _ _ => scO c :: tabO 103 19 c.lc :: lcO c :: mapN Prod.snd (pgG kt c p false [.int 1 (p.kt 0), .int 2 (p.kt 1), .int 3 (p.kt 2)])) 8 (fun as ts => hitO kt w c (hpOf as ts 2 3 [4])) 13 (fun as _ => .ok (.ret (.ref (nthN as 0))))
noncomputable def E_r11104 : Prop := ∀ (S : RunsS prog w kt) (c : WC) (p : PP) (t : Nat), CkOk prog w kt (Code.call (.ref 63) ⟨[.ref p.pr, .str p.f p.ft, .int 4 t], []⟩) 600 5000 ((c.sc, scO c) :: (c.st, tabO 103 19 c.lc) :: (c.lc, lcO c) :: pgG kt c p false [.int 1 (p.kt 0), .int 2 (p.kt 1), .int 3 (p.kt 2)]) (fun _ _ => scO c :: tabO 103 19 c.lc :: lcO c :: mapN Prod.snd (pgG kt c p false [.int 1 (p.kt 0), .int 2 (p.kt 1), .int 3 (p.kt 2)])) 8 (fun as ts => hitO kt w c (hpOf as ts 3 4 [])) 13 (fun as _ => .ok (.ret (.ref (nthN as 0))))
noncomputable def E_r11111 : Prop := ∀ (S : RunsS prog w kt) (c : WC) (p : PP) (t : Nat), CkOk prog w kt (Code.call (.ref 63) ⟨[.ref p.pr, .str p.f p.ft, .int 1 t], []⟩) 600 5000 ((c.sc, scO c) :: (c.st, tabO 103 19 c.lc) :: (c.lc, lcO c) :: pgG kt c p true [.int 1 (p.kt 0), .int 2 (p.kt 1), .int 3 (p.kt 2)]) (fun _ _ => scO c :: tabO 103 19 c.lc :: lcO c :: mapN Prod.snd (pgG kt c p true [.int 1 (p.kt 0), .int 2 (p.kt 1), .int 3 (p.kt 2)])) 0 (fun _ _ => []) 0 (fun _ _ => .ok (.ret .none))
noncomputable def E_r11112 : Prop := ∀ (S : RunsS prog w kt) (c : WC) (p : PP) (t : Nat), CkOk prog w kt (Code.call (.ref 63) ⟨[.ref p.pr, .str p.f p.ft, .int 2 t], []⟩) 600 5000 ((c.sc, scO c) :: (c.st, tabO 103 19 c.lc) :: (c.lc, lcO c) :: pgG kt c p true [.int 1 (p.kt 0), .int 2 (p.kt 1), .int 3 (p.kt 2)]) (fun _ _ => scO c :: tabO 103 19 c.lc :: lcO c :: mapN Prod.snd (pgG kt c p true [.int 1 (p.kt 0), .int 2 (p.kt 1), .int 3 (p.kt 2)])) 8 (fun as ts => hitO kt w c (hpOf as ts 1 1 [2, 3])) 13 (fun as _ => .ok (.ret (.ref (nthN as 0))))
noncomputable def E_r11113 : Prop := ∀ (S : RunsS prog w kt) (c : WC) (p : PP) (t : Nat), CkOk prog w kt (Code.call (.ref 63) ⟨[.ref p.pr, .str p.f p.ft, .int 3 t], []⟩) 600 5000 ((c.sc, scO c) :: (c.st, tabO 103 19 c.lc) :: (c.lc, lcO c) :: pgG kt c p true [.int 1 (p.kt 0), .int 2 (p.kt 1), .int 3 (p.kt 2)]) (fun _ _ => scO c :: tabO 103 19 c.lc :: lcO c :: mapN Prod.snd (pgG kt c p true [.int 1 (p.kt 0), .int 2 (p.kt 1), .int 3 (p.kt 2)])) 8 (fun as ts => hitO kt w c (hpOf as ts 2 2 [3])) 13 (fun as _ => .ok (.ret (.ref (nthN as 0))))
noncomputable def E_r11114 : Prop := ∀ (S : RunsS prog w kt) (c : WC) (p : PP) (t : Nat), CkOk prog w kt (Code.call (.ref 63) ⟨[.ref p.pr, .str p.f p.ft, .int 4 t], []⟩) 600 5000 ((c.sc, scO c) :: (c.st, tabO 103 19 c.lc) :: (c.lc, lcO c) :: pgG kt c p true [.int 1 (p.kt 0), .int 2 (p.kt 1), .int 3 (p.kt 2)]) (fun _ _ => scO c :: tabO 103 19 c.lc :: lcO c :: mapN Prod.snd (pgG kt c p true [.int 1 (p.kt 0), .int 2 (p.kt 1), .int 3 (p.kt 2)])) 8 (fun as ts => hitO kt w c (hpOf as ts 3 3 [])) 13 (fun as _ => .ok (.ret (.ref (nthN as 0))))
end
structure RunsR (prog : Program) (w : World) (kt : KT) : Prop where
  r00001 : E_r00001 prog w kt
  r00002 : E_r00002 prog w kt
  r00003 : E_r00003 prog w kt
  r00004 : E_r00004 prog w kt
  r00011 : E_r00011 prog w kt
  r00012 : E_r00012 prog w kt
  r00013 : E_r00013 prog w kt
  r00014 : E_r00014 prog w kt
  r00101 : E_r00101 prog w kt
  r00102 : E_r00102 prog w kt
  r00103 : E_r00103 prog w kt
  r00104 : E_r00104 prog w kt
  r00111 : E_r00111 prog w kt
  r00112 : E_r00112 prog w kt
  r00113 : E_r00113 prog w kt
  r00114 : E_r00114 prog w kt
  r01001 : E_r01001 prog w kt
  r01002 : E_r01002 prog w kt
  r01003 : E_r01003 prog w kt
  r01004 : E_r01004 prog w kt
  r01011 : E_r01011 prog w kt
  r01012 : E_r01012 prog w kt
  r01013 : E_r01013 prog w kt
  r01014 : E_r01014 prog w kt
  r01101 : E_r01101 prog w kt
  r01102 : E_r01102 prog w kt
  r01103 : E_r01103 prog w kt
  r01104 : E_r01104 prog w kt
  r01111 : E_r01111 prog w kt
  r01112 : E_r01112 prog w kt
  r01113 : E_r01113 prog w kt
  r01114 : E_r01114 prog w kt
  r10001 : E_r10001 prog w kt
  r10002 : E_r10002 prog w kt
  r10003 : E_r10003 prog w kt
  r10004 : E_r10004 prog w kt
  r10011 : E_r10011 prog w kt
  r10012 : E_r10012 prog w kt
  r10013 : E_r10013 prog w kt
  r10014 : E_r10014 prog w kt
  r10101 : E_r10101 prog w kt
  r10102 : E_r10102 prog w kt
  r10103 : E_r10103 prog w kt
  r10104 : E_r10104 prog w kt
  r10111 : E_r10111 prog w kt
  r10112 : E_r10112 prog w kt
  r10113 : E_r10113 prog w kt
  r10114 : E_r10114 prog w kt
  r11001 : E_r11001 prog w kt
  r11002 : E_r11002 prog w kt
  r11003 : E_r11003 prog w kt
  r11004 : E_r11004 prog w kt
  r11011 : E_r11011 prog w kt
  r11012 : E_r11012 prog w kt
  r11013 : E_r11013 prog w kt
  r11014 : E_r11014 prog w kt
  r11101 : E_r11101 prog w kt
  r11102 : E_r11102 prog w kt
  r11103 : E_r11103 prog w kt
  r11104 : E_r11104 prog w kt
  r11111 : E_r11111 prog w kt
  r11112 : E_r11112 prog w kt
  r11113 : E_r11113 prog w kt
  r11114 : E_r11114 prog w kt
end
end
section
open PySem PySem.Spec PySem.Calls PySem.W PySem.W.X
section
variable {prog : Program} {w : World} {kt : KT}
section
variable (prog : Program) (w : World) (kt : KT)
noncomputable def E_kzN00 : Prop := ∀ (c : WC) (p : PP) (b : Bool) (cuts : List Value) (q : BF) (r : BR) (col x y : Int) (t : Nat → Nat) (hcol : (col == 0) = false) (hr : (decide (col - 1 < -(2 ^ 63 : Int)) || decide (col - 1 ≥ 2 ^ 63)) = false) (hc : (seqIndex? (col - 1) 4).bind ((p.f).cps[·]?) = some 48) (hx : (x == 0) = false) (hy : (y == 0) = false) (hd1 : Builtin.divisionGoesByPylong y x = false) (hd2 : Builtin.divisionGoesByPylong x y = false) (S : SrNone prog w kt c p b cuts col) (hm : IntMulOk (col - 0) x) (H : ∀ jj t, BLOk prog w kt c p b cuts (qx w q jj) false 0 x (y - (col - 0) * x) 0 0 .none 0 (col - 0) (Int.fdiv y x) t (0 + 1) (4 - 1) r), CkOk prog w kt (cB kt q.it q.fr) 500 4000 (bG kt c p b cuts q (bfr q p b col x y t [] q.ep) 0 4) (fun _ ts => bfin (qx w q (jOf ts)) p b r ts :: rIterO r.i r.l 1 :: mapN Prod.snd (srG kt c p b cuts)) 0 (fun _ _ => []) 15 (fun _ _ => .ok .next)
noncomputable def E_kzE00 : Prop := ∀ (c : WC) (p : PP) (b : Bool) (cuts : List Value) (q : BF) (r : BR) (col x y : Int) (t : Nat → Nat) (hcol : (col == 0) = false) (hr : (decide (col - 1 < -(2 ^ 63 : Int)) || decide (col - 1 ≥ 2 ^ 63)) = false) (hc : (seqIndex? (col - 1) 4).bind ((p.f).cps[·]?) = some 48) (hx : (x == 0) = false) (hy : (y == 0) = false) (hd1 : Builtin.divisionGoesByPylong y x = false) (hd2 : Builtin.divisionGoesByPylong x y = false) (I : Int) (rs : List Int) (S : SrHit prog w kt c p b cuts col I col rs) (hgt : decide (col > col) = false) (hlt : decide (col < col) = false) (hbg : decide (I > 0) = false) (hm : IntMulOk (col - I) x) (H : ∀ jj t a, BLOk prog w kt c p b cuts (qx w q jj) true I x (y - (col - I) * x) 0 I (.ref a) col (col - I) (Int.fdiv y x) t (0 + 1) (4 - 1) r), CkOk prog w kt (cB kt q.it q.fr) 500 4000 (bG kt c p b cuts q (bfr q p b col x y t [] q.ep) 0 4) (fun _ ts => bfin (qx w q (jOf ts)) p b r ts :: rIterO r.i r.l 1 :: mapN Prod.snd (srG kt c p b cuts)) 0 (fun _ _ => []) 15 (fun _ _ => .ok .next)
noncomputable def E_kzE01 : Prop := ∀ (c : WC) (p : PP) (b : Bool) (cuts : List Value) (q : BF) (r : BR) (col x y : Int) (t : Nat → Nat) (hcol : (col == 0) = false) (hr : (decide (col - 1 < -(2 ^ 63 : Int)) || decide (col - 1 ≥ 2 ^ 63)) = false) (hc : (seqIndex? (col - 1) 4).bind ((p.f).cps[·]?) = some 48) (hx : (x == 0) = false) (hy : (y == 0) = false) (hd1 : Builtin.divisionGoesByPylong y x = false) (hd2 : Builtin.divisionGoesByPylong x y = false) (I : Int) (rs : List Int) (S : SrHit prog w kt c p b cuts col I col rs) (hgt : decide (col > col) = false) (hlt : decide (col < col) = false) (hbg : decide (I > 0) = true) (hm : IntMulOk (col - I) x) (hq : ((Int.fdiv y x) != (col - I)) = false) (H : ∀ jj t a, BLOk prog w kt c p b cuts (qx w q jj) true I x (y - (col - I) * x) 0 I (.ref a) col (col - I) (Int.fdiv y x) t (0 + 1) (4 - 1) r), CkOk prog w kt (cB kt q.it q.fr) 500 4000 (bG kt c p b cuts q (bfr q p b col x y t [] q.ep) 0 4) (fun _ ts => bfin (qx w q (jOf ts)) p b r ts :: rIterO r.i r.l 1 :: mapN Prod.snd (srG kt c p b cuts)) 0 (fun _ _ => []) 15 (fun _ _ => .ok .next)
noncomputable def E_kzL01 : Prop := ∀ (c : WC) (p : PP) (b : Bool) (cuts : List Value) (q : BF) (r : BR) (col x y : Int) (t : Nat → Nat) (hcol : (col == 0) = false) (hr : (decide (col - 1 < -(2 ^ 63 : Int)) || decide (col - 1 ≥ 2 ^ 63)) = false) (hc : (seqIndex? (col - 1) 4).bind ((p.f).cps[·]?) = some 48) (hx : (x == 0) = false) (hy : (y == 0) = false) (hd1 : Builtin.divisionGoesByPylong y x = false) (hd2 : Builtin.divisionGoesByPylong x y = false) (I : Int) (j : Int) (rs : List Int) (S : SrHit prog w kt c p b cuts col I j rs) (hgt : decide (j > col) = false) (hlt : decide (j < col) = true) (hbg : decide (j > 0) = true) (hm : IntMulOk (col - j) x) (hq : ((Int.fdiv y x) != (col - j)) = false) (H : ∀ jj t a, BLOk prog w kt c p b cuts (qx w q jj) true j x (y - (col - j) * x) 0 j (.ref a) j (col - j) (Int.fdiv y x) t (0 + 1) (4 - 1) r), CkOk prog w kt (cB kt q.it q.fr) 500 4000 (bG kt c p b cuts q (bfr q p b col x y t [] q.ep) 0 4) (fun _ ts => bfin (qx w q (jOf ts)) p b r ts :: rIterO r.i r.l 1 :: mapN Prod.snd (srG kt c p b cuts)) 0 (fun _ _ => []) 15 (fun _ _ => .ok .next)
noncomputable def E_ktN00 : Prop := ∀ (c : WC) (p : PP) (b : Bool) (cuts : List Value) (q : BF) (r : BR) (col x y : Int) (t : Nat → Nat) (s bg : Int) (h : Value) (e rn qn : Int) (i l : Int) (hl : 0 < l) (hs : (i == 0) = false) (hcol : (col == 0) = false) (hr : (decide (col - 1 < -(2 ^ 63 : Int)) || decide (col - 1 ≥ 2 ^ 63)) = false) (hc : (seqIndex? (col - 1) 4).bind ((p.f).cps[·]?) = some 48) (hx : (x == 0) = false) (hy : (y == 0) = false) (hd1 : Builtin.divisionGoesByPylong y x = false) (hd2 : Builtin.divisionGoesByPylong x y = false) (S : SrNone prog w kt c p b cuts col) (hm : IntMulOk (col - 0) x) (H : ∀ t, BLOk prog w kt c p b cuts q true 0 x (y - (col - 0) * x) i 0 .none e (col - 0) (Int.fdiv y x) t (i + 1) (l - 1) r), CkOk prog w kt (cB kt q.it q.fr) 500 4000 (bG kt c p b cuts q (bfr q p b col x y t (bL q true (vOld s bg h e rn qn t)) (epA q true)) i l) (fun _ ts => bfin q p b r ts :: rIterO r.i r.l 1 :: mapN Prod.snd (srG kt c p b cuts)) 0 (fun _ _ => []) 9 (fun _ _ => .ok .next)
noncomputable def E_ktE00 : Prop := ∀ (c : WC) (p : PP) (b : Bool) (cuts : List Value) (q : BF) (r : BR) (col x y : Int) (t : Nat → Nat) (s bg : Int) (h : Value) (e rn qn : Int) (i l : Int) (hl : 0 < l) (hs : (i == 0) = false) (hcol : (col == 0) = false) (hr : (decide (col - 1 < -(2 ^ 63 : Int)) || decide (col - 1 ≥ 2 ^ 63)) = false) (hc : (seqIndex? (col - 1) 4).bind ((p.f).cps[·]?) = some 48) (hx : (x == 0) = false) (hy : (y == 0) = false) (hd1 : Builtin.divisionGoesByPylong y x = false) (hd2 : Builtin.divisionGoesByPylong x y = false) (I : Int) (j : Int) (rs : List Int) (S : SrHit prog w kt c p b cuts col I j rs) (hgt : decide (j > col) = false) (hbg : decide (I > 0) = false) (hm : IntMulOk (col - I) x) (H : ∀ t a, BLOk prog w kt c p b cuts q true I x (y - (col - I) * x) i I (.ref a) j (col - I) (Int.fdiv y x) t (i + 1) (l - 1) r), CkOk prog w kt (cB kt q.it q.fr) 500 4000 (bG kt c p b cuts q (bfr q p b col x y t (bL q true (vOld s bg h e rn qn t)) (epA q true)) i l) (fun _ ts => bfin q p b r ts :: rIterO r.i r.l 1 :: mapN Prod.snd (srG kt c p b cuts)) 0 (fun _ _ => []) 9 (fun _ _ => .ok .next)
noncomputable def E_ktE01 : Prop := ∀ (c : WC) (p : PP) (b : Bool) (cuts : List Value) (q : BF) (r : BR) (col x y : Int) (t : Nat → Nat) (s bg : Int) (h : Value) (e rn qn : Int) (i l : Int) (hl : 0 < l) (hs : (i == 0) = false) (hcol : (col == 0) = false) (hr : (decide (col - 1 < -(2 ^ 63 : Int)) || decide (col - 1 ≥ 2 ^ 63)) = false) (hc : (seqIndex? (col - 1) 4).bind ((p.f).cps[·]?) = some 48) (hx : (x == 0) = false) (hy : (y == 0) = false) (hd1 : Builtin.divisionGoesByPylong y x = false) (hd2 : Builtin.divisionGoesByPylong x y = false) (I : Int) (j : Int) (rs : List Int) (S : SrHit prog w kt c p b cuts col I j rs) (hgt : decide (j > col) = false) (hbg : decide (I > 0) = true) (hm : IntMulOk (col - I) x) (hq : ((Int.fdiv y x) != (col - I)) = false) (H : ∀ t a, BLOk prog w kt c p b cuts q true I x (y - (col - I) * x) i I (.ref a) j (col - I) (Int.fdiv y x) t (i + 1) (l - 1) r), CkOk prog w kt (cB kt q.it q.fr) 500 4000 (bG kt c p b cuts q (bfr q p b col x y t (bL q true (vOld s bg h e rn qn t)) (epA q true)) i l) (fun _ ts => bfin q p b r ts :: rIterO r.i r.l 1 :: mapN Prod.snd (srG kt c p b cuts)) 0 (fun _ _ => []) 9 (fun _ _ => .ok .next)
noncomputable def E_kzN10 : Prop := ∀ (c : WC) (p : PP) (b : Bool) (cuts : List Value) (q : BF) (r : BR) (col x y : Int) (t : Nat → Nat) (hcol : (col == 0) = false) (hr : (decide (col - 1 < -(2 ^ 63 : Int)) || decide (col - 1 ≥ 2 ^ 63)) = false) (hc : (seqIndex? (col - 1) 4).bind ((p.f).cps[·]?) = some 49) (hx : (x == 0) = false) (hy : (y == 0) = false) (hd1 : Builtin.divisionGoesByPylong y x = false) (hd2 : Builtin.divisionGoesByPylong x y = false) (S : SrNone prog w kt c p b cuts col) (hm : IntMulOk (col - 0) y) (H : ∀ jj t, BLOk prog w kt c p b cuts (qx w q jj) false 0 (x - (col - 0) * y) y 0 0 .none 0 (col - 0) (Int.fdiv x y) t (0 + 1) (4 - 1) r), CkOk prog w kt (cB kt q.it q.fr) 500 4000 (bG kt c p b cuts q (bfr q p b col x y t [] q.ep) 0 4) (fun _ ts => bfin (qx w q (jOf ts)) p b r ts :: rIterO r.i r.l 1 :: mapN Prod.snd (srG kt c p b cuts)) 0 (fun _ _ => []) 15 (fun _ _ => .ok .next)
noncomputable def E_kzE10 : Prop := ∀ (c : WC) (p : PP) (b : Bool) (cuts : List Value) (q : BF) (r : BR) (col x y : Int) (t : Nat → Nat) (hcol : (col == 0) = false) (hr : (decide (col - 1 < -(2 ^ 63 : Int)) || decide (col - 1 ≥ 2 ^ 63)) = false) (hc : (seqIndex? (col - 1) 4).bind ((p.f).cps[·]?) = some 49) (hx : (x == 0) = false) (hy : (y == 0) = false) (hd1 : Builtin.divisionGoesByPylong y x = false) (hd2 : Builtin.divisionGoesByPylong x y = false) (I : Int) (rs : List Int) (S : SrHit prog w kt c p b cuts col I col rs) (hgt : decide (col > col) = false) (hlt : decide (col < col) = false) (hbg : decide (I > 0) = false) (hm : IntMulOk (col - I) y) (H : ∀ jj t a, BLOk prog w kt c p b cuts (qx w q jj) true I (x - (col - I) * y) y 0 I (.ref a) col (col - I) (Int.fdiv x y) t (0 + 1) (4 - 1) r), CkOk prog w kt (cB kt q.it q.fr) 500 4000 (bG kt c p b cuts q (bfr q p b col x y t [] q.ep) 0 4) (fun _ ts => bfin (qx w q (jOf ts)) p b r ts :: rIterO r.i r.l 1 :: mapN Prod.snd (srG kt c p b cuts)) 0 (fun _ _ => []) 15 (fun _ _ => .ok .next)
noncomputable def E_kzE11 : Prop := ∀ (c : WC) (p : PP) (b : Bool) (cuts : List Value) (q : BF) (r : BR) (col x y : Int) (t : Nat → Nat) (hcol : (col == 0) = false) (hr : (decide (col - 1 < -(2 ^ 63 : Int)) || decide (col - 1 ≥ 2 ^ 63)) = false) (hc : (seqIndex? (col - 1) 4).bind ((p.f).cps[·]?) = some 49) (hx : (x == 0) = false) (hy : (y == 0) = false) (hd1 : Builtin.divisionGoesByPylong y x = false) (hd2 : Builtin.divisionGoesByPylong x y = false) (I : Int) (rs : List Int) (S : SrHit prog w kt c p b cuts col I col rs) (hgt : decide (col > col) = false) (hlt : decide (col < col) = false) (hbg : decide (I > 0) = true) (hm : IntMulOk (col - I) y) (hq : ((Int.fdiv x y) != (col - I)) = false) (H : ∀ jj t a, BLOk prog w kt c p b cuts (qx w q jj) true I (x - (col - I) * y) y 0 I (.ref a) col (col - I) (Int.fdiv x y) t (0 + 1) (4 - 1) r), CkOk prog w kt (cB kt q.it q.fr) 500 4000 (bG kt c p b cuts q (bfr q p b col x y t [] q.ep) 0 4) (fun _ ts => bfin (qx w q (jOf ts)) p b r ts :: rIterO r.i r.l 1 :: mapN Prod.snd (srG kt c p b cuts)) 0 (fun _ _ => []) 15 (fun _ _ => .ok .next)
noncomputable def E_kzL11 : Prop := ∀ (c : WC) (p : PP) (b : Bool) (cuts : List Value) (q : BF) (r : BR) (col x y : Int) (t : Nat → Nat) (hcol : (col == 0) = false) (hr : (decide (col - 1 < -(2 ^ 63 : Int)) || decide (col - 1 ≥ 2 ^ 63)) = false) (hc : (seqIndex? (col - 1) 4).bind ((p.f).cps[·]?) = some 49) (hx : (x == 0) = false) (hy : (y == 0) = false) (hd1 : Builtin.divisionGoesByPylong y x = false) (hd2 : Builtin.divisionGoesByPylong x y = false) (I : Int) (j : Int) (rs : List Int) (S : SrHit prog w kt c p b cuts col I j rs) (hgt : decide (j > col) = false) (hlt : decide (j < col) = true) (hbg : decide (j > 0) = true) (hm : IntMulOk (col - j) y) (hq : ((Int.fdiv x y) != (col - j)) = false) (H : ∀ jj t a, BLOk prog w kt c p b cuts (qx w q jj) true j (x - (col - j) * y) y 0 j (.ref a) j (col - j) (Int.fdiv x y) t (0 + 1) (4 - 1) r), CkOk prog w kt (cB kt q.it q.fr) 500 4000 (bG kt c p b cuts q (bfr q p b col x y t [] q.ep) 0 4) (fun _ ts => bfin (qx w q (jOf ts)) p b r ts :: rIterO r.i r.l 1 :: mapN Prod.snd (srG kt c p b cuts)) 0 (fun _ _ => []) 15 (fun _ _ => .ok .next)
noncomputable def E_ktN10 : Prop := ∀ (c : WC) (p : PP) (b : Bool) (cuts : List Value) (q : BF) (r : BR) (col x y : Int) (t : Nat → Nat) (s bg : Int) (h : Value) (e rn qn : Int) (i l : Int) (hl : 0 < l) (hs : (i == 0) = false) (hcol : (col == 0) = false) (hr : (decide (col - 1 < -(2 ^ 63 : Int)) || decide (col - 1 ≥ 2 ^ 63)) = false) (hc : (seqIndex? (col - 1) 4).bind ((p.f).cps[·]?) = some 49) (hx : (x == 0) = false) (hy : (y == 0) = false) (hd1 : Builtin.divisionGoesByPylong y x = false) (hd2 : Builtin.divisionGoesByPylong x y = false) (S : SrNone prog w kt c p b cuts col) (hm : IntMulOk (col - 0) y) (H : ∀ t, BLOk prog w kt c p b cuts q true 0 (x - (col - 0) * y) y i 0 .none e (col - 0) (Int.fdiv x y) t (i + 1) (l - 1) r), CkOk prog w kt (cB kt q.it q.fr) 500 4000 (bG kt c p b cuts q (bfr q p b col x y t (bL q true (vOld s bg h e rn qn t)) (epA q true)) i l) (fun _ ts => bfin q p b r ts :: rIterO r.i r.l 1 :: mapN Prod.snd (srG kt c p b cuts)) 0 (fun _ _ => []) 9 (fun _ _ => .ok .next)
noncomputable def E_ktE10 : Prop := ∀ (c : WC) (p : PP) (b : Bool) (cuts : List Value) (q : BF) (r : BR) (col x y : Int) (t : Nat → Nat) (s bg : Int) (h : Value) (e rn qn : Int) (i l : Int) (hl : 0 < l) (hs : (i == 0) = false) (hcol : (col == 0) = false) (hr : (decide (col - 1 < -(2 ^ 63 : Int)) || decide (col - 1 ≥ 2 ^ 63)) = false) (hc : (seqIndex? (col - 1) 4).bind ((p.f).cps[·]?) = some 49) (hx : (x == 0) = false) (hy : (y == 0) = false) (hd1 : Builtin.divisionGoesByPylong y x = false) (hd2 : Builtin.divisionGoesByPylong x y = false) (I : Int) (j : Int) (rs : List Int) (S : SrHit prog w kt c p b cuts col I j rs) (hgt : decide (j > col) = false) (hbg : decide (I > 0) = false) (hm : IntMulOk (col - I) y) (H : ∀ t a, BLOk prog w kt c p b cuts q true I (x - (col - I) * y) y i I (.ref a) j (col - I) (Int.fdiv x y) t (i + 1) (l - 1) r), CkOk prog w kt (cB kt q.it q.fr) 500 4000 (bG kt c p b cuts q (bfr q p b col x y t (bL q true (vOld s bg h e rn qn t)) (epA q true)) i l) (fun _ ts => bfin q p b r ts :: rIterO r.i r.l 1 :: mapN Prod.snd (srG kt c p b cuts)) 0 (fun _ _ => []) 9 (fun _ _ => .ok .next)
noncomputable def E_ktE11 : Prop := ∀ (c : WC) (p : PP) (b : Bool) (cuts : List Value) (q : BF) (r : BR) (col x y : Int) (t : Nat → Nat) (s bg : Int) (h : Value) (e rn qn : Int) (i l : Int) (hl : 0 < l) (hs : (i == 0) = false) (hcol : (col == 0) = false) (hr : (decide (col - 1 < -(2 ^ 63 : Int)) || decide (col - 1 ≥ 2 ^ 63)) = false) (hc : (seqIndex? (col - 1) 4).bind ((p.f).cps[·]?) = some 49) (hx : (x == 0) = false) (hy : (y == 0) = false) (hd1 : Builtin.divisionGoesByPylong y x = false) (hd2 : Builtin.divisionGoesByPylong x y = false) (I : Int) (j : Int) (rs : List Int) (S : SrHit prog w kt c p b cuts col I j rs) (hgt : decide (j > col) = false) (hbg : decide (I > 0) = true) (hm : IntMulOk (col - I) y) (hq : ((Int.fdiv x y) != (col - I)) = false) (H : ∀ t a, BLOk prog w kt c p b cuts q true I (x - (col - I) * y) y i I (.ref a) j (col - I) (Int.fdiv x y) t (i + 1) (l - 1) r), CkOk prog w kt (cB kt q.it q.fr) 500 4000 (bG kt c p b cuts q (bfr q p b col x y t (bL q true (vOld s bg h e rn qn t)) (epA q true)) i l) (fun _ ts => bfin q p b r ts :: rIterO r.i r.l 1 :: mapN Prod.snd (srG kt c p b cuts)) 0 (fun _ _ => []) 9 (fun _ _ => .ok .next)
noncomputable def E_kk0 : Prop := ∀ (c : WC) (p : PP) (b : Bool) (cuts : List Value) (q : BF) (x y : Int) (t : Nat → Nat) (s bg : Int) (hb : Bool) (ha : Nat) (e rn qn : Int) (i l : Int) (hl : 0 < l), CkOk prog w kt (cB kt q.it q.fr) 500 4000 (bG kt c p b cuts q (bfr q p b 0 x y t (bL q false (vOld s bg (hOf hb ha) e rn qn t)) (epA q false)) i l) (fun _ ts => bfin q p b (⟨0, x, y, i, bg, e, rn, qn, i + 1, l - 1, false, hb⟩ : BR) ts :: rIterO (⟨0, x, y, i, bg, e, rn, qn, i + 1, l - 1, false, hb⟩ : BR).i (⟨0, x, y, i, bg, e, rn, qn, i + 1, l - 1, false, hb⟩ : BR).l 1 :: mapN Prod.snd (srG kt c p b cuts)) 0 (fun _ _ => []) 9 (fun _ _ => .ok .next)
noncomputable def E_kk1 : Prop := ∀ (c : WC) (p : PP) (b : Bool) (cuts : List Value) (q : BF) (x y : Int) (t : Nat → Nat) (s bg : Int) (hb : Bool) (ha : Nat) (e rn qn : Int) (i l : Int) (hl : 0 < l), CkOk prog w kt (cB kt q.it q.fr) 500 4000 (bG kt c p b cuts q (bfr q p b 0 x y t (bL q true (vOld s bg (hOf hb ha) e rn qn t)) (epA q true)) i l) (fun _ ts => bfin q p b (⟨0, x, y, i, bg, e, rn, qn, i + 1, l - 1, true, hb⟩ : BR) ts :: rIterO (⟨0, x, y, i, bg, e, rn, qn, i + 1, l - 1, true, hb⟩ : BR).i (⟨0, x, y, i, bg, e, rn, qn, i + 1, l - 1, true, hb⟩ : BR).l 1 :: mapN Prod.snd (srG kt c p b cuts)) 0 (fun _ _ => []) 9 (fun _ _ => .ok .next)
noncomputable def E_kf : Prop := ∀ (c : WC) (p : PP) (b : Bool) (cuts : List Value) (q : BF) (col x y : Int) (t : Nat → Nat) (s bg : Int) (hb : Bool) (ha : Nat) (e rn qn : Int) (i l : Int) (hl : l ≤ 0), CkOk prog w kt (cB kt q.it q.fr) 500 4000 (bG kt c p b cuts q (bfr q p b col x y t (bL q true (vOld s bg (hOf hb ha) e rn qn t)) (epA q true)) i l) (fun _ ts => bfin q p b (⟨col, x, y, s, bg, e, rn, qn, i, l, true, hb⟩ : BR) ts :: rIterO (⟨col, x, y, s, bg, e, rn, qn, i, l, true, hb⟩ : BR).i (⟨col, x, y, s, bg, e, rn, qn, i, l, true, hb⟩ : BR).l 1 :: mapN Prod.snd (srG kt c p b cuts)) 0 (fun _ _ => []) 9 (fun _ _ => .ok .next)
end
structure RunsK (prog : Program) (w : World) (kt : KT) : Prop where
  kzN00 : E_kzN00 prog w kt
  kzE00 : E_kzE00 prog w kt
  kzE01 : E_kzE01 prog w kt
  kzL01 : E_kzL01 prog w kt
  ktN00 : E_ktN00 prog w kt
  ktE00 : E_ktE00 prog w kt
  ktE01 : E_ktE01 prog w kt
  kzN10 : E_kzN10 prog w kt
  kzE10 : E_kzE10 prog w kt
  kzE11 : E_kzE11 prog w kt
  kzL11 : E_kzL11 prog w kt
  ktN10 : E_ktN10 prog w kt
  ktE10 : E_ktE10 prog w kt
  ktE11 : E_ktE11 prog w kt
  kk0 : E_kk0 prog w kt
  kk1 : E_kk1 prog w kt
  kf : E_kf prog w kt
end
end
section
open PySem PySem.Spec PySem.Calls PySem.W PySem.W.X
section
variable {prog : Program} {w : World} {kt : KT}
section
variable (prog : Program) (w : World) (kt : KT)
noncomputable def E_g000 : Prop := ∀ (c : WC) (a d : Nat) (had : a ≠ d) (ft : Nat) (b : Bool), CkOk prog w kt (Code.call (.ref 89) ⟨[.str (⟨#[a, a, a, a]⟩ : Str) ft, .bool b], []⟩) 420 3000 ([(86, tabO 93 4 c.sc), (c.sc, scO c)]) (fun _ _ => [tabO 93 4 c.sc, scO c]) 10 (fun as ts => ppO kt c (ppOf w as ts a a a a ft) b [] (nthN as 9)) 12 (fun as _ => .ok (.ret (.ref (nthN as 0))))
noncomputable def E_g001 : Prop := ∀ (c : WC) (a d : Nat) (had : a ≠ d) (ft : Nat) (b : Bool), CkOk prog w kt (Code.call (.ref 89) ⟨[.str (⟨#[a, a, a, d]⟩ : Str) ft, .bool b], []⟩) 420 3000 ([(86, tabO 93 4 c.sc), (c.sc, scO c)]) (fun _ _ => [tabO 93 4 c.sc, scO c]) 10 (fun as ts => ppO kt c (ppOf w as ts a a a d ft) b [3] (nthN as 9)) 12 (fun as _ => .ok (.ret (.ref (nthN as 0))))
noncomputable def E_g010 : Prop := ∀ (c : WC) (a d : Nat) (had : a ≠ d) (ft : Nat) (b : Bool), CkOk prog w kt (Code.call (.ref 89) ⟨[.str (⟨#[a, a, d, d]⟩ : Str) ft, .bool b], []⟩) 420 3000 ([(86, tabO 93 4 c.sc), (c.sc, scO c)]) (fun _ _ => [tabO 93 4 c.sc, scO c]) 10 (fun as ts => ppO kt c (ppOf w as ts a a d d ft) b [2] (nthN as 9)) 12 (fun as _ => .ok (.ret (.ref (nthN as 0))))
noncomputable def E_g011 : Prop := ∀ (c : WC) (a d : Nat) (had : a ≠ d) (ft : Nat) (b : Bool), CkOk prog w kt (Code.call (.ref 89) ⟨[.str (⟨#[a, a, d, a]⟩ : Str) ft, .bool b], []⟩) 420 3000 ([(86, tabO 93 4 c.sc), (c.sc, scO c)]) (fun _ _ => [tabO 93 4 c.sc, scO c]) 10 (fun as ts => ppO kt c (ppOf w as ts a a d a ft) b [2, 3] (nthN as 9)) 12 (fun as _ => .ok (.ret (.ref (nthN as 0))))
noncomputable def E_g100 : Prop := ∀ (c : WC) (a d : Nat) (had : a ≠ d) (ft : Nat) (b : Bool), CkOk prog w kt (Code.call (.ref 89) ⟨[.str (⟨#[a, d, d, d]⟩ : Str) ft, .bool b], []⟩) 420 3000 ([(86, tabO 93 4 c.sc), (c.sc, scO c)]) (fun _ _ => [tabO 93 4 c.sc, scO c]) 10 (fun as ts => ppO kt c (ppOf w as ts a d d d ft) b [1] (nthN as 9)) 12 (fun as _ => .ok (.ret (.ref (nthN as 0))))
noncomputable def E_g101 : Prop := ∀ (c : WC) (a d : Nat) (had : a ≠ d) (ft : Nat) (b : Bool), CkOk prog w kt (Code.call (.ref 89) ⟨[.str (⟨#[a, d, d, a]⟩ : Str) ft, .bool b], []⟩) 420 3000 ([(86, tabO 93 4 c.sc), (c.sc, scO c)]) (fun _ _ => [tabO 93 4 c.sc, scO c]) 10 (fun as ts => ppO kt c (ppOf w as ts a d d a ft) b [1, 3] (nthN as 9)) 12 (fun as _ => .ok (.ret (.ref (nthN as 0))))
noncomputable def E_g110 : Prop := ∀ (c : WC) (a d : Nat) (had : a ≠ d) (ft : Nat) (b : Bool), CkOk prog w kt (Code.call (.ref 89) ⟨[.str (⟨#[a, d, a, a]⟩ : Str) ft, .bool b], []⟩) 420 3000 ([(86, tabO 93 4 c.sc), (c.sc, scO c)]) (fun _ _ => [tabO 93 4 c.sc, scO c]) 10 (fun as ts => ppO kt c (ppOf w as ts a d a a ft) b [1, 2] (nthN as 9)) 12 (fun as _ => .ok (.ret (.ref (nthN as 0))))
noncomputable def E_g111 : Prop := ∀ (c : WC) (a d : Nat) (had : a ≠ d) (ft : Nat) (b : Bool), CkOk prog w kt (Code.call (.ref 89) ⟨[.str (⟨#[a, d, a, d]⟩ : Str) ft, .bool b], []⟩) 420 3000 ([(86, tabO 93 4 c.sc), (c.sc, scO c)]) (fun _ _ => [tabO 93 4 c.sc, scO c]) 10 (fun as ts => ppO kt c (ppOf w as ts a d a d ft) b [1, 2, 3] (nthN as 9)) 12 (fun as _ => .ok (.ret (.ref (nthN as 0))))
end
structure RunsG (prog : Program) (w : World) (kt : KT) : Prop where
  g000 : E_g000 prog w kt
  g001 : E_g001 prog w kt
  g010 : E_g010 prog w kt
  g011 : E_g011 prog w kt
  g100 : E_g100 prog w kt
  g101 : E_g101 prog w kt
  g110 : E_g110 prog w kt
  g111 : E_g111 prog w kt
end
end
section
open PySem PySem.Spec PySem.Calls PySem.W PySem.W.X
section
variable {prog : Program} {w : World} {kt : KT}
section
variable (prog : Program) (w : World) (kt : KT)
noncomputable def E_f0w : Prop := ∀ (c : WC) (c0 c1 c2 c3 ft : Nat) (b : Bool) (ks : List Int) (col x y A B : Int) (ct pa xt yt ro at_ bt : Nat) (Hp : PgOk prog w kt c c0 c1 c2 c3 ft b ks) (rc rx ry rs rbg re rrn rqn ri rl : Int) (rh : Bool) (hx : rx = A) (hy : ry = B) (HL : ∀ as ts fr it j, BLOk0 prog w kt c (ppOf w as ts c0 c1 c2 c3 ft) b (cutV ks (ppOf w as ts c0 c1 c2 c3 ft).kt 0) ⟨fr, it, pa, ro, bfF w j, 8⟩ col x y (nthN [ct, xt, yt]) (⟨rc, rx, ry, rs, rbg, re, rrn, rqn, ri, rl, false, rh⟩ : BR)), CkOk prog w kt (Code.call (.ref 108) ⟨[.str (⟨#[c0, c1, c2, c3]⟩ : Str) ft, .bool b, .int col ct, .ref pa, .ref ro], []⟩) 380 2500 ([(86, tabO 93 4 c.sc), (c.sc, scO c), (c.st, tabO 103 19 c.lc), (c.lc, lcO c), pairG pa x xt y yt, pairG ro A at_ B bt]) (fun _ _ => [tabO 93 4 c.sc, scO c, tabO 103 19 c.lc, lcO c, tupO [.int x xt, .int y yt], tupO [.int A at_, .int B bt]]) 0 (fun _ _ => []) 0 (fun _ _ => .ok (.ret (.bool true)))
noncomputable def E_f1w : Prop := ∀ (c : WC) (c0 c1 c2 c3 ft : Nat) (b : Bool) (ks : List Int) (col x y A B : Int) (ct pa xt yt ro at_ bt : Nat) (Hp : PgOk prog w kt c c0 c1 c2 c3 ft b ks) (rc rx ry rs rbg re rrn rqn ri rl : Int) (rh : Bool) (hx : rx = A) (hy : ry = B) (HL : ∀ as ts fr it j, BLOk0 prog w kt c (ppOf w as ts c0 c1 c2 c3 ft) b (cutV ks (ppOf w as ts c0 c1 c2 c3 ft).kt 0) ⟨fr, it, pa, ro, bfF w j, 8⟩ col x y (nthN [ct, xt, yt]) (⟨rc, rx, ry, rs, rbg, re, rrn, rqn, ri, rl, true, rh⟩ : BR)), CkOk prog w kt (Code.call (.ref 108) ⟨[.str (⟨#[c0, c1, c2, c3]⟩ : Str) ft, .bool b, .int col ct, .ref pa, .ref ro], []⟩) 380 2500 ([(86, tabO 93 4 c.sc), (c.sc, scO c), (c.st, tabO 103 19 c.lc), (c.lc, lcO c), pairG pa x xt y yt, pairG ro A at_ B bt]) (fun _ _ => [tabO 93 4 c.sc, scO c, tabO 103 19 c.lc, lcO c, tupO [.int x xt, .int y yt], tupO [.int A at_, .int B bt]]) 0 (fun _ _ => []) 0 (fun _ _ => .ok (.ret (.bool true)))
end
structure RunsF (prog : Program) (w : World) (kt : KT) : Prop where
  f0w : E_f0w prog w kt
  f1w : E_f1w prog w kt
end
end
section
open PySem PySem.Spec PySem.Calls PySem.W PySem.W.X
section
variable {prog : Program} {w : World} {kt : KT}
section
variable (prog : Program) (w : World) (kt : KT)
noncomputable def E_h000 : Prop := ∀ (a d : Nat) (had : a ≠ d) (ft : Nat), CkOk prog w kt (Code.call (.ref 89) ⟨[.str (⟨#[a, a, a, a]⟩ : Str) ft, .bool false], []⟩) 420 3000 ([(86, tableObj #[])]) (fun as _ => [tabO 93 4 (nthN as 10)]) 12 (fun as ts => R.appendR (ppO kt (wc0 (nthN as 10) (nthN as 11) (dropN 12 ts)) (ppOf w as ts a a a a ft) false [] (nthN as 9)) [scO (wc0 (nthN as 10) (nthN as 11) (dropN 12 ts)), tableObj #[]]) 19 (fun as _ => .ok (.ret (.ref (nthN as 0))))
noncomputable def E_h001 : Prop := ∀ (a d : Nat) (had : a ≠ d) (ft : Nat), CkOk prog w kt (Code.call (.ref 89) ⟨[.str (⟨#[a, a, a, d]⟩ : Str) ft, .bool false], []⟩) 420 3000 ([(86, tableObj #[])]) (fun as _ => [tabO 93 4 (nthN as 10)]) 12 (fun as ts => R.appendR (ppO kt (wc0 (nthN as 10) (nthN as 11) (dropN 12 ts)) (ppOf w as ts a a a d ft) false [3] (nthN as 9)) [scO (wc0 (nthN as 10) (nthN as 11) (dropN 12 ts)), tableObj #[]]) 19 (fun as _ => .ok (.ret (.ref (nthN as 0))))
noncomputable def E_h010 : Prop := ∀ (a d : Nat) (had : a ≠ d) (ft : Nat), CkOk prog w kt (Code.call (.ref 89) ⟨[.str (⟨#[a, a, d, d]⟩ : Str) ft, .bool false], []⟩) 420 3000 ([(86, tableObj #[])]) (fun as _ => [tabO 93 4 (nthN as 10)]) 12 (fun as ts => R.appendR (ppO kt (wc0 (nthN as 10) (nthN as 11) (dropN 12 ts)) (ppOf w as ts a a d d ft) false [2] (nthN as 9)) [scO (wc0 (nthN as 10) (nthN as 11) (dropN 12 ts)), tableObj #[]]) 19 (fun as _ => .ok (.ret (.ref (nthN as 0))))
noncomputable def E_h011 : Prop := ∀ (a d : Nat) (had : a ≠ d) (ft : Nat), CkOk prog w kt (Code.call (.ref 89) ⟨[.str (⟨#[a, a, d, a]⟩ : Str) ft, .bool false], []⟩) 420 3000 ([(86, tableObj #[])]) (fun as _ => [tabO 93 4 (nthN as 10)]) 12 (fun as ts => R.appendR (ppO kt (wc0 (nthN as 10) (nthN as 11) (dropN 12 ts)) (ppOf w as ts a a d a ft) false [2, 3] (nthN as 9)) [scO (wc0 (nthN as 10) (nthN as 11) (dropN 12 ts)), tableObj #[]]) 19 (fun as _ => .ok (.ret (.ref (nthN as 0))))
noncomputable def E_h100 : Prop := ∀ (a d : Nat) (had : a ≠ d) (ft : Nat), CkOk prog w kt (Code.call (.ref 89) ⟨[.str (⟨#[a, d, d, d]⟩ : Str) ft, .bool false], []⟩) 420 3000 ([(86, tableObj #[])]) (fun as _ => [tabO 93 4 (nthN as 10)]) 12 (fun as ts => R.appendR (ppO kt (wc0 (nthN as 10) (nthN as 11) (dropN 12 ts)) (ppOf w as ts a d d d ft) false [1] (nthN as 9)) [scO (wc0 (nthN as 10) (nthN as 11) (dropN 12 ts)), tableObj #[]]) 19 (fun as _ => .ok (.ret (.ref (nthN as 0))))
noncomputable def E_h101 : Prop := ∀ (a d : Nat) (had : a ≠ d) (ft : Nat), CkOk prog w kt (Code.call (.ref 89) ⟨[.str (⟨#[a, d, d, a]⟩ : Str) ft, .bool false], []⟩) 420 3000 ([(86, tableObj #[])]) (fun as _ => [tabO 93 4 (nthN as 10)]) 12 (fun as ts => R.appendR (ppO kt (wc0 (nthN as 10) (nthN as 11) (dropN 12 ts)) (ppOf w as ts a d d a ft) false [1, 3] (nthN as 9)) [scO (wc0 (nthN as 10) (nthN as 11) (dropN 12 ts)), tableObj #[]]) 19 (fun as _ => .ok (.ret (.ref (nthN as 0))))
noncomputable def E_h110 : Prop := ∀ (a d : Nat) (had : a ≠ d) (ft : Nat), CkOk prog w kt (Code.call (.ref 89) ⟨[.str (⟨#[a, d, a, a]⟩ : Str) ft, .bool false], []⟩) 420 3000 ([(86, tableObj #[])]) (fun as _ => [tabO 93 4 (nthN as 10)]) 12 (fun as ts => R.appendR (ppO kt (wc0 (nthN as 10) (nthN as 11) (dropN 12 ts)) (ppOf w as ts a d a a ft) false [1, 2] (nthN as 9)) [scO (wc0 (nthN as 10) (nthN as 11) (dropN 12 ts)), tableObj #[]]) 19 (fun as _ => .ok (.ret (.ref (nthN as 0))))
noncomputable def E_h111 : Prop := ∀ (a d : Nat) (had : a ≠ d) (ft : Nat), CkOk prog w kt (Code.call (.ref 89) ⟨[.str (⟨#[a, d, a, d]⟩ : Str) ft, .bool false], []⟩) 420 3000 ([(86, tableObj #[])]) (fun as _ => [tabO 93 4 (nthN as 10)]) 12 (fun as ts => R.appendR (ppO kt (wc0 (nthN as 10) (nthN as 11) (dropN 12 ts)) (ppOf w as ts a d a d ft) false [1, 2, 3] (nthN as 9)) [scO (wc0 (nthN as 10) (nthN as 11) (dropN 12 ts)), tableObj #[]]) 19 (fun as _ => .ok (.ret (.ref (nthN as 0))))
noncomputable def E_o000 : Prop := ∀ (c : WC) (p : PP) (t : Nat), CkOk prog w kt (srCode p 1 t) 600 5000 (srcG kt c p []) (fun as _ => srcPo kt c p [] (nthN as 0)) 1 (fun as ts => [lcO (wc1 c (nthN as 0) ts)]) 10 (fun _ _ => .ok (.ret .none))
noncomputable def E_o001 : Prop := ∀ (c : WC) (p : PP) (t : Nat), CkOk prog w kt (srCode p 1 t) 600 5000 (srcG kt c p [.int 3 (p.kt 0)]) (fun as _ => srcPo kt c p [.int 3 (p.kt 0)] (nthN as 0)) 1 (fun as ts => [lcO (wc1 c (nthN as 0) ts)]) 10 (fun _ _ => .ok (.ret .none))
noncomputable def E_o010 : Prop := ∀ (c : WC) (p : PP) (t : Nat), CkOk prog w kt (srCode p 1 t) 600 5000 (srcG kt c p [.int 2 (p.kt 0)]) (fun as _ => srcPo kt c p [.int 2 (p.kt 0)] (nthN as 0)) 1 (fun as ts => [lcO (wc1 c (nthN as 0) ts)]) 10 (fun _ _ => .ok (.ret .none))
noncomputable def E_o011 : Prop := ∀ (c : WC) (p : PP) (t : Nat), CkOk prog w kt (srCode p 1 t) 600 5000 (srcG kt c p [.int 2 (p.kt 0), .int 3 (p.kt 1)]) (fun as _ => srcPo kt c p [.int 2 (p.kt 0), .int 3 (p.kt 1)] (nthN as 0)) 1 (fun as ts => [lcO (wc1 c (nthN as 0) ts)]) 10 (fun _ _ => .ok (.ret .none))
noncomputable def E_o100 : Prop := ∀ (c : WC) (p : PP) (t : Nat), CkOk prog w kt (srCode p 1 t) 600 5000 (srcG kt c p [.int 1 (p.kt 0)]) (fun as _ => srcPo kt c p [.int 1 (p.kt 0)] (nthN as 0)) 9 (fun as ts => lcO (wc1 c (nthN as 0) ts) :: hitO kt w (wc1 c (nthN as 0) ts) (hpOf (tlN as) (dropN 10 ts) 0 1 [4])) 23 (fun as _ => .ok (.ret (.ref (nthN as 1))))
noncomputable def E_o101 : Prop := ∀ (c : WC) (p : PP) (t : Nat), CkOk prog w kt (srCode p 1 t) 600 5000 (srcG kt c p [.int 1 (p.kt 0), .int 3 (p.kt 1)]) (fun as _ => srcPo kt c p [.int 1 (p.kt 0), .int 3 (p.kt 1)] (nthN as 0)) 9 (fun as ts => lcO (wc1 c (nthN as 0) ts) :: hitO kt w (wc1 c (nthN as 0) ts) (hpOf (tlN as) (dropN 10 ts) 0 1 [3, 4])) 23 (fun as _ => .ok (.ret (.ref (nthN as 1))))
noncomputable def E_o110 : Prop := ∀ (c : WC) (p : PP) (t : Nat), CkOk prog w kt (srCode p 1 t) 600 5000 (srcG kt c p [.int 1 (p.kt 0), .int 2 (p.kt 1)]) (fun as _ => srcPo kt c p [.int 1 (p.kt 0), .int 2 (p.kt 1)] (nthN as 0)) 9 (fun as ts => lcO (wc1 c (nthN as 0) ts) :: hitO kt w (wc1 c (nthN as 0) ts) (hpOf (tlN as) (dropN 10 ts) 0 1 [2, 4])) 23 (fun as _ => .ok (.ret (.ref (nthN as 1))))
noncomputable def E_o111 : Prop := ∀ (c : WC) (p : PP) (t : Nat), CkOk prog w kt (srCode p 1 t) 600 5000 (srcG kt c p [.int 1 (p.kt 0), .int 2 (p.kt 1), .int 3 (p.kt 2)]) (fun as _ => srcPo kt c p [.int 1 (p.kt 0), .int 2 (p.kt 1), .int 3 (p.kt 2)] (nthN as 0)) 9 (fun as ts => lcO (wc1 c (nthN as 0) ts) :: hitO kt w (wc1 c (nthN as 0) ts) (hpOf (tlN as) (dropN 10 ts) 0 1 [2, 3, 4])) 23 (fun as _ => .ok (.ret (.ref (nthN as 1))))
end
structure RunsC (prog : Program) (w : World) (kt : KT) : Prop where
  h000 : E_h000 prog w kt
  h001 : E_h001 prog w kt
  h010 : E_h010 prog w kt
  h011 : E_h011 prog w kt
  h100 : E_h100 prog w kt
  h101 : E_h101 prog w kt
  h110 : E_h110 prog w kt
  h111 : E_h111 prog w kt
  o000 : E_o000 prog w kt
  o001 : E_o001 prog w kt
  o010 : E_o010 prog w kt
  o011 : E_o011 prog w kt
  o100 : E_o100 prog w kt
  o101 : E_o101 prog w kt
  o110 : E_o110 prog w kt
  o111 : E_o111 prog w kt
end
end
section
open PySem PySem.Spec PySem.Calls PySem.W PySem.W.X
section
variable {prog : Program} {w : World} {kt : KT}
section
variable (prog : Program) (w : World) (kt : KT)
noncomputable def E_zN0 : Prop := ∀ (c : WC) (p : PP) (cuts : List Value) (q : BF) (r : BR) (x y : Int) (t : Nat → Nat) (hc : (seqIndex? 0 4).bind ((p.f).cps[·]?) = some 48) (hx : (x == 0) = false) (hy : (y == 0) = false) (hd1 : Builtin.divisionGoesByPylong y x = false) (hd2 : Builtin.divisionGoesByPylong x y = false) (hm : IntMulOk 1 x) (S : SrcNone prog w kt c p cuts) (H : ∀ lc tl jj t, BLOk prog w kt (wc1 c lc tl) p false cuts (qx w q jj) false 0 x (y - 1 * x) 0 0 .none 0 1 (Int.fdiv y x) t (0 + 1) (4 - 1) r), CkOk prog w kt (cB kt q.it q.fr) 500 4000 ((q.fr, bfr q p false 1 x y t [] q.ep) :: (q.it, rIterO 0 4 1) :: srcG kt c p cuts) (fun as ts => bfin (qx w q (jOf ts)) p false r ts :: rIterO r.i r.l 1 :: srcPo kt c p cuts (nthN as 0)) 1 (fun as ts => [lcO (wc1 c (nthN as 0) (dropN 15 ts))]) 25 (fun _ _ => .ok .next)
noncomputable def E_zE0 : Prop := ∀ (c : WC) (p : PP) (cuts : List Value) (q : BF) (r : BR) (x y : Int) (t : Nat → Nat) (hc : (seqIndex? 0 4).bind ((p.f).cps[·]?) = some 48) (hx : (x == 0) = false) (hy : (y == 0) = false) (hd1 : Builtin.divisionGoesByPylong y x = false) (hd2 : Builtin.divisionGoesByPylong x y = false) (hm : IntMulOk 1 x) (rs : List Int) (S : SrcHit prog w kt c p cuts 0 1 rs) (H : ∀ lc tl jj t a, BLOk prog w kt (wc1 c lc tl) p false cuts (qx w q jj) true 0 x (y - 1 * x) 0 0 (.ref a) 1 1 (Int.fdiv y x) t (0 + 1) (4 - 1) r), CkOk prog w kt (cB kt q.it q.fr) 500 4000 ((q.fr, bfr q p false 1 x y t [] q.ep) :: (q.it, rIterO 0 4 1) :: srcG kt c p cuts) (fun as ts => bfin (qx w q (jOf ts)) p false r ts :: rIterO r.i r.l 1 :: srcPo kt c p cuts (nthN as 0)) 1 (fun as ts => [lcO (wc1 c (nthN as 0) (dropN 15 ts))]) 25 (fun _ _ => .ok .next)
noncomputable def E_zN1 : Prop := ∀ (c : WC) (p : PP) (cuts : List Value) (q : BF) (r : BR) (x y : Int) (t : Nat → Nat) (hc : (seqIndex? 0 4).bind ((p.f).cps[·]?) = some 49) (hx : (x == 0) = false) (hy : (y == 0) = false) (hd1 : Builtin.divisionGoesByPylong y x = false) (hd2 : Builtin.divisionGoesByPylong x y = false) (hm : IntMulOk 1 y) (S : SrcNone prog w kt c p cuts) (H : ∀ lc tl jj t, BLOk prog w kt (wc1 c lc tl) p false cuts (qx w q jj) false 0 (x - 1 * y) y 0 0 .none 0 1 (Int.fdiv x y) t (0 + 1) (4 - 1) r), CkOk prog w kt (cB kt q.it q.fr) 500 4000 ((q.fr, bfr q p false 1 x y t [] q.ep) :: (q.it, rIterO 0 4 1) :: srcG kt c p cuts) (fun as ts => bfin (qx w q (jOf ts)) p false r ts :: rIterO r.i r.l 1 :: srcPo kt c p cuts (nthN as 0)) 1 (fun as ts => [lcO (wc1 c (nthN as 0) (dropN 15 ts))]) 25 (fun _ _ => .ok .next)
noncomputable def E_zE1 : Prop := ∀ (c : WC) (p : PP) (cuts : List Value) (q : BF) (r : BR) (x y : Int) (t : Nat → Nat) (hc : (seqIndex? 0 4).bind ((p.f).cps[·]?) = some 49) (hx : (x == 0) = false) (hy : (y == 0) = false) (hd1 : Builtin.divisionGoesByPylong y x = false) (hd2 : Builtin.divisionGoesByPylong x y = false) (hm : IntMulOk 1 y) (rs : List Int) (S : SrcHit prog w kt c p cuts 0 1 rs) (H : ∀ lc tl jj t a, BLOk prog w kt (wc1 c lc tl) p false cuts (qx w q jj) true 0 (x - 1 * y) y 0 0 (.ref a) 1 1 (Int.fdiv x y) t (0 + 1) (4 - 1) r), CkOk prog w kt (cB kt q.it q.fr) 500 4000 ((q.fr, bfr q p false 1 x y t [] q.ep) :: (q.it, rIterO 0 4 1) :: srcG kt c p cuts) (fun as ts => bfin (qx w q (jOf ts)) p false r ts :: rIterO r.i r.l 1 :: srcPo kt c p cuts (nthN as 0)) 1 (fun as ts => [lcO (wc1 c (nthN as 0) (dropN 15 ts))]) 25 (fun _ _ => .ok .next)
end
structure RunsCK (prog : Program) (w : World) (kt : KT) : Prop where
  zN0 : E_zN0 prog w kt
  zE0 : E_zE0 prog w kt
  zN1 : E_zN1 prog w kt
  zE1 : E_zE1 prog w kt
end
end
section
open PySem PySem.Spec PySem.Calls PySem.W PySem.W.X
section
variable {prog : Program} {w : World} {kt : KT}
section
variable (prog : Program) (w : World) (kt : KT)
noncomputable def E_f0c : Prop := ∀ (c0 c1 c2 c3 ft : Nat) (ks : List Int) (x y A B : Int) (ct pa xt yt ro at_ bt : Nat) (Hp : PgcOk prog w kt c0 c1 c2 c3 ft ks) (rc rx ry rs rbg re rrn rqn ri rl : Int) (rh : Bool) (hx : rx = A) (hy : ry = B) (HL : ∀ as ts fr it j, BLOkc prog w kt (wc0 (nthN as 10) (nthN as 11) (dropN 12 ts)) (ppOf w as ts c0 c1 c2 c3 ft) (cutV ks (ppOf w as ts c0 c1 c2 c3 ft).kt 0) ⟨fr, it, pa, ro, bfF w j, 8⟩ x y (nthN [ct, xt, yt]) (⟨rc, rx, ry, rs, rbg, re, rrn, rqn, ri, rl, false, rh⟩ : BR)), CkOk prog w kt (Code.call (.ref 108) ⟨[.str (⟨#[c0, c1, c2, c3]⟩ : Str) ft, .bool false, .int 1 ct, .ref pa, .ref ro], []⟩) 380 2500 ([(86, tableObj #[]), pairG pa x xt y yt, pairG ro A at_ B bt]) (fun as _ => [tabO 93 4 (nthN as 0), tupO [.int x xt, .int y yt], tupO [.int A at_, .int B bt]]) 3 (fun as ts => [scO (wc1 (wc0 (nthN as 0) (nthN as 1) ts) (nthN as 2) (dropN 7 ts)), tabO 103 19 (wc1 (wc0 (nthN as 0) (nthN as 1) ts) (nthN as 2) (dropN 7 ts)).lc, lcO (wc1 (wc0 (nthN as 0) (nthN as 1) ts) (nthN as 2) (dropN 7 ts))]) 17 (fun _ _ => .ok (.ret (.bool true)))
noncomputable def E_f1c : Prop := ∀ (c0 c1 c2 c3 ft : Nat) (ks : List Int) (x y A B : Int) (ct pa xt yt ro at_ bt : Nat) (Hp : PgcOk prog w kt c0 c1 c2 c3 ft ks) (rc rx ry rs rbg re rrn rqn ri rl : Int) (rh : Bool) (hx : rx = A) (hy : ry = B) (HL : ∀ as ts fr it j, BLOkc prog w kt (wc0 (nthN as 10) (nthN as 11) (dropN 12 ts)) (ppOf w as ts c0 c1 c2 c3 ft) (cutV ks (ppOf w as ts c0 c1 c2 c3 ft).kt 0) ⟨fr, it, pa, ro, bfF w j, 8⟩ x y (nthN [ct, xt, yt]) (⟨rc, rx, ry, rs, rbg, re, rrn, rqn, ri, rl, true, rh⟩ : BR)), CkOk prog w kt (Code.call (.ref 108) ⟨[.str (⟨#[c0, c1, c2, c3]⟩ : Str) ft, .bool false, .int 1 ct, .ref pa, .ref ro], []⟩) 380 2500 ([(86, tableObj #[]), pairG pa x xt y yt, pairG ro A at_ B bt]) (fun as _ => [tabO 93 4 (nthN as 0), tupO [.int x xt, .int y yt], tupO [.int A at_, .int B bt]]) 3 (fun as ts => [scO (wc1 (wc0 (nthN as 0) (nthN as 1) ts) (nthN as 2) (dropN 7 ts)), tabO 103 19 (wc1 (wc0 (nthN as 0) (nthN as 1) ts) (nthN as 2) (dropN 7 ts)).lc, lcO (wc1 (wc0 (nthN as 0) (nthN as 1) ts) (nthN as 2) (dropN 7 ts))]) 17 (fun _ _ => .ok (.ret (.bool true)))
end
structure RunsCF (prog : Program) (w : World) (kt : KT) : Prop where
  f0c : E_f0c prog w kt
  f1c : E_f1c prog w kt
end
end
section
open PySem PySem.Spec PySem.Calls PyProof.Rows PySem.W PySem.W.X
section
variable {prog : Program} {w : World} {kt : KT}
theorem pylong_small {x y : Int} (h : y.natAbs < 2 ^ 9000) : Builtin.divisionGoesByPylong x y = false := by
  unfold Builtin.divisionGoesByPylong
  simp only
  have h1 : ¬ ((if (y == 0) = true then 0 else y.natAbs.log2 / 30 + 1) > 300) := by
    split
    · omega
    · rename_i hy
      have h0 : y.natAbs ≠ 0 := by
        intro z
        have : y = 0 := by omega
        simp [this] at hy
      have := (Nat.log2_lt h0).mpr h
      omega
  simp only [Bool.and_eq_false_iff, decide_eq_false_iff_not]
  exact .inl h1
noncomputable def BLx (prog : Program) (w : World) (kt : KT) (c0 c1 c2 c3 : Nat) (b : Bool) (ks : List Int) (col x y i l A B : Int) : Prop :=
  ∀ (s bg e rn qn : Int) (hb : Bool), ∃ r : BR, r.x = A ∧ r.y = B ∧ r.a = true ∧ ∀ c as ts ft q t ha, BLOk prog w kt c (ppOf w as ts c0 c1 c2 c3 ft) b (cutV ks (ppOf w as ts c0 c1 c2 c3 ft).kt 0) q true col x y s bg (hOf hb ha) e rn qn t i l r
noncomputable def SrA (prog : Program) (w : World) (kt : KT) (c0 c1 c2 c3 : Nat) (b : Bool) (ks : List Int) (col : Int) (o : Option (Int × Int × List Int)) : Prop :=
  ∀ c as ts ft, match o with
    | none => SrNone prog w kt c (ppOf w as ts c0 c1 c2 c3 ft) b (cutV ks (ppOf w as ts c0 c1 c2 c3 ft).kt 0) col
    | some (i, j, rs) => SrHit prog w kt c (ppOf w as ts c0 c1 c2 c3 ft) b (cutV ks (ppOf w as ts c0 c1 c2 c3 ft).kt 0) col i j rs
structure Ps (x y : Int) : Prop where
  x0 : 0 < x
  x1 : x < 10 ^ 9
  y0 : 0 < y
  y1 : y < 10 ^ 9
theorem Ps.hx {x y : Int} (h : Ps x y) : (x == 0) = false := by have := h.x0; simp; omega
theorem Ps.hy {x y : Int} (h : Ps x y) : (y == 0) = false := by have := h.y0; simp; omega
theorem nat_small {x : Int} (h0 : 0 < x) (h1 : x < 10 ^ 9) : x.natAbs < 2 ^ 9000 := by
  have : x.natAbs < 2 ^ 30 := by omega
  exact Nat.lt_of_lt_of_le this (Nat.pow_le_pow_right (show 2 > 0 by omega) (show 30 ≤ 9000 by omega))
theorem Ps.d1 {x y : Int} (h : Ps x y) : Builtin.divisionGoesByPylong y x = false := pylong_small (nat_small h.x0 h.x1)
theorem Ps.d2 {x y : Int} (h : Ps x y) : Builtin.divisionGoesByPylong x y = false := pylong_small (nat_small h.y0 h.y1)
theorem ne_of {I Q R : Int} (h : I = 0 ∨ Q = R) (hp : 0 < I) : (Q != R) = false := by
  rcases h with h | h
  · omega
  · simp [h]
theorem mul_run {r y : Int} (h0 : 0 ≤ r) (h4 : r ≤ 4) : IntMulOk r y := by
  refine .of_left ?_
  have : r = 0 ∨ r = 1 ∨ r = 2 ∨ r = 3 ∨ r = 4 := by omega
  rcases this with rfl | rfl | rfl | rfl | rfl <;> decide
variable (K : RunsK prog w kt) {c0 c1 c2 c3 : Nat} {b : Bool} {ks : List Int} {A B : Int}
include K
theorem blx_break {i l : Int} (hl : 0 < l) : BLx prog w kt c0 c1 c2 c3 b ks 0 A B i l A B := fun s bg e rn qn hb =>
  ⟨⟨0, A, B, i, bg, e, rn, qn, i + 1, l - 1, true, hb⟩, rfl, rfl, rfl, fun c as ts ft q t ha => K.kk1 c _ b _ q A B t s bg hb ha e rn qn i l hl⟩
theorem blx_end {col i l : Int} (hl : l ≤ 0) : BLx prog w kt c0 c1 c2 c3 b ks col A B i l A B := fun s bg e rn qn hb =>
  ⟨⟨col, A, B, s, bg, e, rn, qn, i, l, true, hb⟩, rfl, rfl, rfl, fun c as ts ft q t ha => K.kf c _ b _ q col A B t s bg hb ha e rn qn i l hl⟩
theorem blx_E0 {col I j x y i l : Int} {rs : List Int} (S : SrA prog w kt c0 c1 c2 c3 b ks col (some (I, j, rs))) (hl : 0 < l) (hs : (i == 0) = false) (hcol : (col == 0) = false) (hr : (decide (col - 1 < -(2 ^ 63 : Int)) || decide (col - 1 ≥ 2 ^ 63)) = false) (hc : (seqIndex? (col - 1) 4).bind ((⟨#[c0, c1, c2, c3]⟩ : Str).cps[·]?) = some 48)
    (hj : j ≤ col) (hI : 0 ≤ I) (hIc : I ≤ col) (hc4 : col ≤ 4) (hP : Ps x y) (hq : I = 0 ∨ Int.fdiv y x = col - I) (next : BLx prog w kt c0 c1 c2 c3 b ks I x (y - (col - I) * x) (i + 1) (l - 1) A B) : BLx prog w kt c0 c1 c2 c3 b ks col x y i l A B := by
  intro s bg e rn qn hb
  obtain ⟨r, h1, h2, h3, h4⟩ := next i I j (col - I) (Int.fdiv y x) true
  refine ⟨r, h1, h2, h3, fun c as ts ft q t ha => ?_⟩
  by_cases hp : 0 < I
  · exact K.ktE01 c (ppOf w as ts c0 c1 c2 c3 ft) b (cutV ks (ppOf w as ts c0 c1 c2 c3 ft).kt 0) q r col x y t s bg (hOf hb ha) e rn qn i l hl hs hcol hr hc hP.hx hP.hy hP.d1 hP.d2 I j rs (S c as ts ft) (by simp; omega) (by simpa using hp) (mul_run (by omega) (by omega)) (ne_of hq hp) (fun t a => h4 c as ts ft q t a)
  · exact K.ktE00 c (ppOf w as ts c0 c1 c2 c3 ft) b (cutV ks (ppOf w as ts c0 c1 c2 c3 ft).kt 0) q r col x y t s bg (hOf hb ha) e rn qn i l hl hs hcol hr hc hP.hx hP.hy hP.d1 hP.d2 I j rs (S c as ts ft) (by simp; omega) (by simpa using hp) (mul_run (by omega) (by omega)) (fun t a => h4 c as ts ft q t a)
theorem blx_N0 {col x y i l : Int} (S : SrA prog w kt c0 c1 c2 c3 b ks col none) (hl : 0 < l) (hs : (i == 0) = false) (hcol : (col == 0) = false) (hr : (decide (col - 1 < -(2 ^ 63 : Int)) || decide (col - 1 ≥ 2 ^ 63)) = false) (hc : (seqIndex? (col - 1) 4).bind ((⟨#[c0, c1, c2, c3]⟩ : Str).cps[·]?) = some 48)
    (hc0 : 0 ≤ col) (hc4 : col ≤ 4) (hP : Ps x y) (next : BLx prog w kt c0 c1 c2 c3 b ks 0 x (y - (col - 0) * x) (i + 1) (l - 1) A B) : BLx prog w kt c0 c1 c2 c3 b ks col x y i l A B := by
  intro s bg e rn qn hb
  obtain ⟨r, h1, h2, h3, h4⟩ := next i 0 e (col - 0) (Int.fdiv y x) false
  refine ⟨r, h1, h2, h3, fun c as ts ft q t ha => ?_⟩
  exact K.ktN00 c (ppOf w as ts c0 c1 c2 c3 ft) b (cutV ks (ppOf w as ts c0 c1 c2 c3 ft).kt 0) q r col x y t s bg (hOf hb ha) e rn qn i l hl hs hcol hr hc hP.hx hP.hy hP.d1 hP.d2 (S c as ts ft) (mul_run (by omega) (by omega)) (fun t => h4 c as ts ft q t 0)
theorem blx_E1 {col I j x y i l : Int} {rs : List Int} (S : SrA prog w kt c0 c1 c2 c3 b ks col (some (I, j, rs))) (hl : 0 < l) (hs : (i == 0) = false) (hcol : (col == 0) = false) (hr : (decide (col - 1 < -(2 ^ 63 : Int)) || decide (col - 1 ≥ 2 ^ 63)) = false) (hc : (seqIndex? (col - 1) 4).bind ((⟨#[c0, c1, c2, c3]⟩ : Str).cps[·]?) = some 49)
    (hj : j ≤ col) (hI : 0 ≤ I) (hIc : I ≤ col) (hc4 : col ≤ 4) (hP : Ps x y) (hq : I = 0 ∨ Int.fdiv x y = col - I) (next : BLx prog w kt c0 c1 c2 c3 b ks I (x - (col - I) * y) y (i + 1) (l - 1) A B) : BLx prog w kt c0 c1 c2 c3 b ks col x y i l A B := by
  intro s bg e rn qn hb
  obtain ⟨r, h1, h2, h3, h4⟩ := next i I j (col - I) (Int.fdiv x y) true
  refine ⟨r, h1, h2, h3, fun c as ts ft q t ha => ?_⟩
  by_cases hp : 0 < I
  · exact K.ktE11 c (ppOf w as ts c0 c1 c2 c3 ft) b (cutV ks (ppOf w as ts c0 c1 c2 c3 ft).kt 0) q r col x y t s bg (hOf hb ha) e rn qn i l hl hs hcol hr hc hP.hx hP.hy hP.d1 hP.d2 I j rs (S c as ts ft) (by simp; omega) (by simpa using hp) (mul_run (by omega) (by omega)) (ne_of hq hp) (fun t a => h4 c as ts ft q t a)
  · exact K.ktE10 c (ppOf w as ts c0 c1 c2 c3 ft) b (cutV ks (ppOf w as ts c0 c1 c2 c3 ft).kt 0) q r col x y t s bg (hOf hb ha) e rn qn i l hl hs hcol hr hc hP.hx hP.hy hP.d1 hP.d2 I j rs (S c as ts ft) (by simp; omega) (by simpa using hp) (mul_run (by omega) (by omega)) (fun t a => h4 c as ts ft q t a)
theorem blx_N1 {col x y i l : Int} (S : SrA prog w kt c0 c1 c2 c3 b ks col none) (hl : 0 < l) (hs : (i == 0) = false) (hcol : (col == 0) = false) (hr : (decide (col - 1 < -(2 ^ 63 : Int)) || decide (col - 1 ≥ 2 ^ 63)) = false) (hc : (seqIndex? (col - 1) 4).bind ((⟨#[c0, c1, c2, c3]⟩ : Str).cps[·]?) = some 49)
    (hc0 : 0 ≤ col) (hc4 : col ≤ 4) (hP : Ps x y) (next : BLx prog w kt c0 c1 c2 c3 b ks 0 (x - (col - 0) * y) y (i + 1) (l - 1) A B) : BLx prog w kt c0 c1 c2 c3 b ks col x y i l A B := by
  intro s bg e rn qn hb
  obtain ⟨r, h1, h2, h3, h4⟩ := next i 0 e (col - 0) (Int.fdiv x y) false
  refine ⟨r, h1, h2, h3, fun c as ts ft q t ha => ?_⟩
  exact K.ktN10 c (ppOf w as ts c0 c1 c2 c3 ft) b (cutV ks (ppOf w as ts c0 c1 c2 c3 ft).kt 0) q r col x y t s bg (hOf hb ha) e rn qn i l hl hs hcol hr hc hP.hx hP.hy hP.d1 hP.d2 (S c as ts ft) (mul_run (by omega) (by omega)) (fun t => h4 c as ts ft q t 0)
end
section
noncomputable def BL0 (prog : Program) (w : World) (kt : KT) (c0 c1 c2 c3 : Nat) (b : Bool) (ks : List Int) (col x y A B : Int) (a : Bool) : Prop :=
  ∃ r : BR, r.x = A ∧ r.y = B ∧ r.a = a ∧ ∀ c as ts ft q t, BLOk0 prog w kt c (ppOf w as ts c0 c1 c2 c3 ft) b (cutV ks (ppOf w as ts c0 c1 c2 c3 ft).kt 0) q col x y t r
section
variable {prog : Program} {w : World} {kt : KT} (K : RunsK prog w kt) {c0 c1 c2 c3 : Nat} {b : Bool} {ks : List Int} {A B : Int}
include K
theorem bl0_E0 {col I x y : Int} {rs : List Int} (S : SrA prog w kt c0 c1 c2 c3 b ks col (some (I, col, rs))) (hcol : (col == 0) = false) (hr : (decide (col - 1 < -(2 ^ 63 : Int)) || decide (col - 1 ≥ 2 ^ 63)) = false) (hc : (seqIndex? (col - 1) 4).bind ((⟨#[c0, c1, c2, c3]⟩ : Str).cps[·]?) = some 48)
    (hI : 0 ≤ I) (hIc : I ≤ col) (hc4 : col ≤ 4) (hP : Ps x y) (hq : I = 0 ∨ Int.fdiv y x = col - I) (next : BLx prog w kt c0 c1 c2 c3 b ks I x (y - (col - I) * x) (0 + 1) (4 - 1) A B) : BL0 prog w kt c0 c1 c2 c3 b ks col x y A B true := by
  obtain ⟨r, h1, h2, h3, h4⟩ := next 0 I col (col - I) (Int.fdiv y x) true
  refine ⟨r, h1, h2, h3, fun c as ts ft q t => ?_⟩
  by_cases hp : 0 < I
  · exact K.kzE01 c (ppOf w as ts c0 c1 c2 c3 ft) b (cutV ks (ppOf w as ts c0 c1 c2 c3 ft).kt 0) q r col x y t hcol hr hc hP.hx hP.hy hP.d1 hP.d2 I rs (S c as ts ft) (by simp) (by simp) (by simpa using hp) (mul_run (by omega) (by omega)) (ne_of hq hp) (fun jj t a => h4 c as ts ft (qx w q jj) t a)
  · exact K.kzE00 c (ppOf w as ts c0 c1 c2 c3 ft) b (cutV ks (ppOf w as ts c0 c1 c2 c3 ft).kt 0) q r col x y t hcol hr hc hP.hx hP.hy hP.d1 hP.d2 I rs (S c as ts ft) (by simp) (by simp) (by simpa using hp) (mul_run (by omega) (by omega)) (fun jj t a => h4 c as ts ft (qx w q jj) t a)
theorem bl0_L0 {col I j x y : Int} {rs : List Int} (S : SrA prog w kt c0 c1 c2 c3 b ks col (some (I, j, rs))) (hcol : (col == 0) = false) (hr : (decide (col - 1 < -(2 ^ 63 : Int)) || decide (col - 1 ≥ 2 ^ 63)) = false) (hc : (seqIndex? (col - 1) 4).bind ((⟨#[c0, c1, c2, c3]⟩ : Str).cps[·]?) = some 48)
    (hj : 0 < j) (hjc : j < col) (hc4 : col ≤ 4) (hP : Ps x y) (hq : Int.fdiv y x = col - j) (next : BLx prog w kt c0 c1 c2 c3 b ks j x (y - (col - j) * x) (0 + 1) (4 - 1) A B) : BL0 prog w kt c0 c1 c2 c3 b ks col x y A B true := by
  obtain ⟨r, h1, h2, h3, h4⟩ := next 0 j j (col - j) (Int.fdiv y x) true
  refine ⟨r, h1, h2, h3, fun c as ts ft q t => ?_⟩
  exact K.kzL01 c (ppOf w as ts c0 c1 c2 c3 ft) b (cutV ks (ppOf w as ts c0 c1 c2 c3 ft).kt 0) q r col x y t hcol hr hc hP.hx hP.hy hP.d1 hP.d2 I j rs (S c as ts ft) (by simp; omega) (by simpa using hjc) (by simpa using hj) (mul_run (by omega) (by omega)) (by simp [hq]) (fun jj t a => h4 c as ts ft (qx w q jj) t a)
theorem bl0_N0 {col x y : Int} (S : SrA prog w kt c0 c1 c2 c3 b ks col none) (hcol : (col == 0) = false) (hr : (decide (col - 1 < -(2 ^ 63 : Int)) || decide (col - 1 ≥ 2 ^ 63)) = false) (hc : (seqIndex? (col - 1) 4).bind ((⟨#[c0, c1, c2, c3]⟩ : Str).cps[·]?) = some 48)
    (hc0 : 0 ≤ col) (hc4 : col ≤ 4) (hP : Ps x y) (hA : x = A) (hB : (y - (col - 0) * x) = B) : BL0 prog w kt c0 c1 c2 c3 b ks col x y A B false := by
  refine ⟨⟨0, x, (y - (col - 0) * x), 0 + 1, 0, 0, col - 0, Int.fdiv y x, 0 + 1 + 1, 4 - 1 - 1, false, false⟩, hA, hB, rfl, fun c as ts ft q t => ?_⟩
  exact K.kzN00 c (ppOf w as ts c0 c1 c2 c3 ft) b (cutV ks (ppOf w as ts c0 c1 c2 c3 ft).kt 0) q _ col x y t hcol hr hc hP.hx hP.hy hP.d1 hP.d2 (S c as ts ft) (mul_run (by omega) (by omega)) (fun jj t => K.kk0 c (ppOf w as ts c0 c1 c2 c3 ft) b (cutV ks (ppOf w as ts c0 c1 c2 c3 ft).kt 0) (qx w q jj) x (y - (col - 0) * x) t 0 0 false 0 0 (col - 0) (Int.fdiv y x) (0 + 1) (4 - 1) (by decide))
theorem bl0_E1 {col I x y : Int} {rs : List Int} (S : SrA prog w kt c0 c1 c2 c3 b ks col (some (I, col, rs))) (hcol : (col == 0) = false) (hr : (decide (col - 1 < -(2 ^ 63 : Int)) || decide (col - 1 ≥ 2 ^ 63)) = false) (hc : (seqIndex? (col - 1) 4).bind ((⟨#[c0, c1, c2, c3]⟩ : Str).cps[·]?) = some 49)
    (hI : 0 ≤ I) (hIc : I ≤ col) (hc4 : col ≤ 4) (hP : Ps x y) (hq : I = 0 ∨ Int.fdiv x y = col - I) (next : BLx prog w kt c0 c1 c2 c3 b ks I (x - (col - I) * y) y (0 + 1) (4 - 1) A B) : BL0 prog w kt c0 c1 c2 c3 b ks col x y A B true := by
  obtain ⟨r, h1, h2, h3, h4⟩ := next 0 I col (col - I) (Int.fdiv x y) true
  refine ⟨r, h1, h2, h3, fun c as ts ft q t => ?_⟩
  by_cases hp : 0 < I
  · exact K.kzE11 c (ppOf w as ts c0 c1 c2 c3 ft) b (cutV ks (ppOf w as ts c0 c1 c2 c3 ft).kt 0) q r col x y t hcol hr hc hP.hx hP.hy hP.d1 hP.d2 I rs (S c as ts ft) (by simp) (by simp) (by simpa using hp) (mul_run (by omega) (by omega)) (ne_of hq hp) (fun jj t a => h4 c as ts ft (qx w q jj) t a)
  · exact K.kzE10 c (ppOf w as ts c0 c1 c2 c3 ft) b (cutV ks (ppOf w as ts c0 c1 c2 c3 ft).kt 0) q r col x y t hcol hr hc hP.hx hP.hy hP.d1 hP.d2 I rs (S c as ts ft) (by simp) (by simp) (by simpa using hp) (mul_run (by omega) (by omega)) (fun jj t a => h4 c as ts ft (qx w q jj) t a)
theorem bl0_L1 {col I j x y : Int} {rs : List Int} (S : SrA prog w kt c0 c1 c2 c3 b ks col (some (I, j, rs))) (hcol : (col == 0) = false) (hr : (decide (col - 1 < -(2 ^ 63 : Int)) || decide (col - 1 ≥ 2 ^ 63)) = false) (hc : (seqIndex? (col - 1) 4).bind ((⟨#[c0, c1, c2, c3]⟩ : Str).cps[·]?) = some 49)
    (hj : 0 < j) (hjc : j < col) (hc4 : col ≤ 4) (hP : Ps x y) (hq : Int.fdiv x y = col - j) (next : BLx prog w kt c0 c1 c2 c3 b ks j (x - (col - j) * y) y (0 + 1) (4 - 1) A B) : BL0 prog w kt c0 c1 c2 c3 b ks col x y A B true := by
  obtain ⟨r, h1, h2, h3, h4⟩ := next 0 j j (col - j) (Int.fdiv x y) true
  refine ⟨r, h1, h2, h3, fun c as ts ft q t => ?_⟩
  exact K.kzL11 c (ppOf w as ts c0 c1 c2 c3 ft) b (cutV ks (ppOf w as ts c0 c1 c2 c3 ft).kt 0) q r col x y t hcol hr hc hP.hx hP.hy hP.d1 hP.d2 I j rs (S c as ts ft) (by simp; omega) (by simpa using hjc) (by simpa using hj) (mul_run (by omega) (by omega)) (by simp [hq]) (fun jj t a => h4 c as ts ft (qx w q jj) t a)
theorem bl0_N1 {col x y : Int} (S : SrA prog w kt c0 c1 c2 c3 b ks col none) (hcol : (col == 0) = false) (hr : (decide (col - 1 < -(2 ^ 63 : Int)) || decide (col - 1 ≥ 2 ^ 63)) = false) (hc : (seqIndex? (col - 1) 4).bind ((⟨#[c0, c1, c2, c3]⟩ : Str).cps[·]?) = some 49)
    (hc0 : 0 ≤ col) (hc4 : col ≤ 4) (hP : Ps x y) (hA : (x - (col - 0) * y) = A) (hB : y = B) : BL0 prog w kt c0 c1 c2 c3 b ks col x y A B false := by
  refine ⟨⟨0, (x - (col - 0) * y), y, 0 + 1, 0, 0, col - 0, Int.fdiv x y, 0 + 1 + 1, 4 - 1 - 1, false, false⟩, hA, hB, rfl, fun c as ts ft q t => ?_⟩
  exact K.kzN10 c (ppOf w as ts c0 c1 c2 c3 ft) b (cutV ks (ppOf w as ts c0 c1 c2 c3 ft).kt 0) q _ col x y t hcol hr hc hP.hx hP.hy hP.d1 hP.d2 (S c as ts ft) (mul_run (by omega) (by omega)) (fun jj t => K.kk0 c (ppOf w as ts c0 c1 c2 c3 ft) b (cutV ks (ppOf w as ts c0 c1 c2 c3 ft).kt 0) (qx w q jj) (x - (col - 0) * y) y t 0 0 false 0 0 (col - 0) (Int.fdiv x y) (0 + 1) (4 - 1) (by decide))
end
end
end
section
open PySem PySem.Spec PySem.Calls PyProof.Rows PySem.W PySem.W.X
structure Qn (n x y : Int) : Prop where
  x0 : 0 < x
  x1 : x ≤ n
  y0 : 0 < y
  y1 : y ≤ n
theorem Qn.l {n x y : Int} (h : Qn n x y) : Qn (2 * n) x (x + y) := by obtain ⟨h1, h2, h3, h4⟩ := h; exact ⟨by omega, by omega, by omega, by omega⟩
theorem Qn.r {n x y : Int} (h : Qn n x y) : Qn (2 * n) (x + y) y := by obtain ⟨h1, h2, h3, h4⟩ := h; exact ⟨by omega, by omega, by omega, by omega⟩
theorem Qn.ps {n x y : Int} (h : Qn n x y) (hn : n < 10 ^ 9 := by decide) : Ps x y := ⟨h.x0, Int.lt_of_le_of_lt h.x1 hn, h.y0, Int.lt_of_le_of_lt h.y1 hn⟩
theorem fdiv_of {x y r : Int} (h0 : 0 < x) (h1 : r * x ≤ y) (h2 : y < (r + 1) * x) : Int.fdiv y x = r := by
  rw [Int.fdiv_eq_ediv_of_nonneg _ (by omega)]
  have e1 : r ≤ y / x := (Int.le_ediv_iff_mul_le h0).mpr h1
  have e2 : y / x < r + 1 := (Int.ediv_lt_iff_lt_mul h0).mpr h2
  omega
theorem sA1 {x y : Int} : (x + y) - 1 * x = y := by omega
theorem sB1 {x y : Int} : (x + y) - 1 * y = x := by omega
theorem sA2 {x y : Int} : (x + (x + y)) - 2 * x = y := by omega
theorem sB2 {x y : Int} : ((x + y) + y) - 2 * y = x := by omega
theorem sA3 {x y : Int} : (x + (x + (x + y))) - 3 * x = y := by omega
theorem sB3 {x y : Int} : (((x + y) + y) + y) - 3 * y = x := by omega
theorem sA4 {x y : Int} : (x + (x + (x + (x + y)))) - 4 * x = y := by omega
theorem sB4 {x y : Int} : ((((x + y) + y) + y) + y) - 4 * y = x := by omega
theorem fA1 {n u v : Int} (h : Qn n u v) : Int.fdiv ((u + v) + v) (u + v) = 1 := by obtain ⟨h1, h2, h3, h4⟩ := h; exact fdiv_of (by omega) (by omega) (by omega)
theorem fB1 {n u v : Int} (h : Qn n u v) : Int.fdiv (u + (u + v)) (u + v) = 1 := by obtain ⟨h1, h2, h3, h4⟩ := h; exact fdiv_of (by omega) (by omega) (by omega)
theorem fA2 {n u v : Int} (h : Qn n u v) : Int.fdiv ((u + v) + ((u + v) + v)) (u + v) = 2 := by obtain ⟨h1, h2, h3, h4⟩ := h; exact fdiv_of (by omega) (by omega) (by omega)
theorem fB2 {n u v : Int} (h : Qn n u v) : Int.fdiv ((u + (u + v)) + (u + v)) (u + v) = 2 := by obtain ⟨h1, h2, h3, h4⟩ := h; exact fdiv_of (by omega) (by omega) (by omega)
theorem fA3 {n u v : Int} (h : Qn n u v) : Int.fdiv ((u + v) + ((u + v) + ((u + v) + v))) (u + v) = 3 := by obtain ⟨h1, h2, h3, h4⟩ := h; exact fdiv_of (by omega) (by omega) (by omega)
theorem fB3 {n u v : Int} (h : Qn n u v) : Int.fdiv (((u + (u + v)) + (u + v)) + (u + v)) (u + v) = 3 := by obtain ⟨h1, h2, h3, h4⟩ := h; exact fdiv_of (by omega) (by omega) (by omega)
structure Cl (col : Int) (c0 c1 c2 c3 k : Nat) : Prop where
  h : (col == 0) = false
  r : (decide (col - 1 < -(2 ^ 63 : Int)) || decide (col - 1 ≥ 2 ^ 63)) = false
  s : (seqIndex? (col - 1) 4).bind ((⟨#[c0, c1, c2, c3]⟩ : Str).cps[·]?) = some k
  lo : 0 ≤ col
  hi : col ≤ 4
theorem cl1 {c0 c1 c2 c3 : Nat} : Cl 1 c0 c1 c2 c3 c0 := ⟨by decide, by decide, rfl, by decide, by decide⟩
theorem cl2 {c0 c1 c2 c3 : Nat} : Cl 2 c0 c1 c2 c3 c1 := ⟨by decide, by decide, rfl, by decide, by decide⟩
theorem cl3 {c0 c1 c2 c3 : Nat} : Cl 3 c0 c1 c2 c3 c2 := ⟨by decide, by decide, rfl, by decide, by decide⟩
theorem cl4 {c0 c1 c2 c3 : Nat} : Cl 4 c0 c1 c2 c3 c3 := ⟨by decide, by decide, rfl, by decide, by decide⟩
section
variable {prog : Program} {w : World} {kt : KT} (K : RunsK prog w kt) {c0 c1 c2 c3 : Nat} {b : Bool} {ks : List Int} {A B : Int}
include K
theorem xBr {i l : Int} (hl : 0 < l := by decide) : BLx prog w kt c0 c1 c2 c3 b ks 0 A B i l A B := blx_break K hl
theorem xEn {i l col : Int} (hl : l ≤ 0 := by decide) : BLx prog w kt c0 c1 c2 c3 b ks col A B i l A B := blx_end K hl
theorem wE0 {col I r x y z : Int} {rs : List Int} (S : SrA prog w kt c0 c1 c2 c3 b ks col (some (I, col, rs))) (C : Cl col c0 c1 c2 c3 48) (hP : Ps x y) (hz : y - r * x = z) (hq : I = 0 ∨ Int.fdiv y x = r) (next : BLx prog w kt c0 c1 c2 c3 b ks I x z 1 3 A B) (hr : col - I = r := by rfl) (hI : 0 ≤ I := by decide) (hIc : I ≤ col := by decide) : BL0 prog w kt c0 c1 c2 c3 b ks col x y A B true := by
  subst hr hz
  exact bl0_E0 K S C.h C.r C.s hI hIc C.hi hP hq next
theorem wL0 {col I j r x y z : Int} {rs : List Int} (S : SrA prog w kt c0 c1 c2 c3 b ks col (some (I, j, rs))) (C : Cl col c0 c1 c2 c3 48) (hP : Ps x y) (hz : y - r * x = z) (hq : Int.fdiv y x = r) (next : BLx prog w kt c0 c1 c2 c3 b ks j x z 1 3 A B) (hr : col - j = r := by rfl) (hj : 0 < j := by decide) (hjc : j < col := by decide) : BL0 prog w kt c0 c1 c2 c3 b ks col x y A B true := by
  subst hr hz
  exact bl0_L0 K S C.h C.r C.s hj hjc C.hi hP hq next
theorem wN0 {col r y : Int} (S : SrA prog w kt c0 c1 c2 c3 b ks col none) (C : Cl col c0 c1 c2 c3 48) (hP : Ps A y) (hz : y - r * A = B) (hr : col - 0 = r := by rfl) : BL0 prog w kt c0 c1 c2 c3 b ks col A y A B false := by
  subst hr
  exact bl0_N0 K S C.h C.r C.s C.lo C.hi hP rfl hz
theorem xE0 {col I j r x y z i l : Int} {rs : List Int} (S : SrA prog w kt c0 c1 c2 c3 b ks col (some (I, j, rs))) (C : Cl col c0 c1 c2 c3 48) (hP : Ps x y) (hz : y - r * x = z) (hq : I = 0 ∨ Int.fdiv y x = r) (next : BLx prog w kt c0 c1 c2 c3 b ks I x z (i + 1) (l - 1) A B) (hr : col - I = r := by rfl) (hI : 0 ≤ I := by decide) (hIc : I ≤ col := by decide) (hj : j ≤ col := by decide) (hl : 0 < l := by decide) (hs : (i == 0) = false := by decide) : BLx prog w kt c0 c1 c2 c3 b ks col x y i l A B := by
  subst hr hz
  exact blx_E0 K S hl hs C.h C.r C.s hj hI hIc C.hi hP hq next
theorem xN0 {col r x y z i l : Int} (S : SrA prog w kt c0 c1 c2 c3 b ks col none) (C : Cl col c0 c1 c2 c3 48) (hP : Ps x y) (hz : y - r * x = z) (next : BLx prog w kt c0 c1 c2 c3 b ks 0 x z (i + 1) (l - 1) A B) (hr : col - 0 = r := by rfl) (hl : 0 < l := by decide) (hs : (i == 0) = false := by decide) : BLx prog w kt c0 c1 c2 c3 b ks col x y i l A B := by
  subst hr hz
  exact blx_N0 K S hl hs C.h C.r C.s C.lo C.hi hP next
theorem wE1 {col I r x y z : Int} {rs : List Int} (S : SrA prog w kt c0 c1 c2 c3 b ks col (some (I, col, rs))) (C : Cl col c0 c1 c2 c3 49) (hP : Ps x y) (hz : x - r * y = z) (hq : I = 0 ∨ Int.fdiv x y = r) (next : BLx prog w kt c0 c1 c2 c3 b ks I z y 1 3 A B) (hr : col - I = r := by rfl) (hI : 0 ≤ I := by decide) (hIc : I ≤ col := by decide) : BL0 prog w kt c0 c1 c2 c3 b ks col x y A B true := by
  subst hr hz
  exact bl0_E1 K S C.h C.r C.s hI hIc C.hi hP hq next
theorem wL1 {col I j r x y z : Int} {rs : List Int} (S : SrA prog w kt c0 c1 c2 c3 b ks col (some (I, j, rs))) (C : Cl col c0 c1 c2 c3 49) (hP : Ps x y) (hz : x - r * y = z) (hq : Int.fdiv x y = r) (next : BLx prog w kt c0 c1 c2 c3 b ks j z y 1 3 A B) (hr : col - j = r := by rfl) (hj : 0 < j := by decide) (hjc : j < col := by decide) : BL0 prog w kt c0 c1 c2 c3 b ks col x y A B true := by
  subst hr hz
  exact bl0_L1 K S C.h C.r C.s hj hjc C.hi hP hq next
theorem wN1 {col r x : Int} (S : SrA prog w kt c0 c1 c2 c3 b ks col none) (C : Cl col c0 c1 c2 c3 49) (hP : Ps x B) (hz : x - r * B = A) (hr : col - 0 = r := by rfl) : BL0 prog w kt c0 c1 c2 c3 b ks col x B A B false := by
  subst hr
  exact bl0_N1 K S C.h C.r C.s C.lo C.hi hP hz rfl
theorem xE1 {col I j r x y z i l : Int} {rs : List Int} (S : SrA prog w kt c0 c1 c2 c3 b ks col (some (I, j, rs))) (C : Cl col c0 c1 c2 c3 49) (hP : Ps x y) (hz : x - r * y = z) (hq : I = 0 ∨ Int.fdiv x y = r) (next : BLx prog w kt c0 c1 c2 c3 b ks I z y (i + 1) (l - 1) A B) (hr : col - I = r := by rfl) (hI : 0 ≤ I := by decide) (hIc : I ≤ col := by decide) (hj : j ≤ col := by decide) (hl : 0 < l := by decide) (hs : (i == 0) = false := by decide) : BLx prog w kt c0 c1 c2 c3 b ks col x y i l A B := by
  subst hr hz
  exact blx_E1 K S hl hs C.h C.r C.s hj hI hIc C.hi hP hq next
theorem xN1 {col r x y z i l : Int} (S : SrA prog w kt c0 c1 c2 c3 b ks col none) (C : Cl col c0 c1 c2 c3 49) (hP : Ps x y) (hz : x - r * y = z) (next : BLx prog w kt c0 c1 c2 c3 b ks 0 z y (i + 1) (l - 1) A B) (hr : col - 0 = r := by rfl) (hl : 0 < l := by decide) (hs : (i == 0) = false := by decide) : BLx prog w kt c0 c1 c2 c3 b ks col x y i l A B := by
  subst hr hz
  exact blx_N1 K S hl hs C.h C.r C.s C.lo C.hi hP next
omit K in
theorem lb_of (F : RunsF prog w kt) {c : WC} {c0 c1 c2 c3 : Nat} {b : Bool} {ks : List Int} {col x y A B : Int} {a : Bool} (Hp : ∀ ft, PgOk prog w kt c c0 c1 c2 c3 ft b ks) (H0 : BL0 prog w kt c0 c1 c2 c3 b ks col x y A B a) : LbOk prog w kt c c0 c1 c2 c3 b col x y A B := by
  intro ft ct pa xt yt ro at_ bt
  obtain ⟨r, h1, h2, h3, h4⟩ := H0
  obtain ⟨rc, rx, ry, rs, rbg, re, rrn, rqn, ri, rl, ra, rh⟩ := r
  dsimp only at h1 h2 h3
  subst h3
  cases ra with
  | true => exact F.f1w c c0 c1 c2 c3 ft b ks col x y A B ct pa xt yt ro at_ bt (Hp ft) rc rx ry rs rbg re rrn rqn ri rl rh h1 h2 (fun as ts fr it j => h4 c as ts ft ⟨fr, it, pa, ro, bfF w j, 8⟩ (nthN [ct, xt, yt]))
  | false => exact F.f0w c c0 c1 c2 c3 ft b ks col x y A B ct pa xt yt ro at_ bt (Hp ft) rc rx ry rs rbg re rrn rqn ri rl rh h1 h2 (fun as ts fr it j => h4 c as ts ft ⟨fr, it, pa, ro, bfF w j, 8⟩ (nthN [ct, xt, yt]))
end
end
section
open PySem PySem.Spec PySem.Calls PyProof.Rows PySem.W PySem.W.X
section
variable {prog : Program} {w : World} {kt : KT} (K : RunsK prog w kt) (G : RunsG prog w kt) (S : RunsS prog w kt) (R : RunsR prog w kt) (F : RunsF prog w kt) {a b : Int} (q : Qn 1000 a b) (c : WC)
include K G S R F q
theorem lb_0_0_1 : LbOk prog w kt c 48 48 48 48 false 1 a (a + b) a b := lb_of F (a := false) (fun ft => G.g000 c 48 49 (by decide) ft false) (wN0 K (fun c as ts ft t => R.r00001 S c (ppOf w as ts 48 48 48 48 ft) t) cl1 q.l.ps sA1)
theorem lb_0_0_2 : LbOk prog w kt c 48 48 48 48 false 2 a (a + (a + b)) a b := lb_of F (a := false) (fun ft => G.g000 c 48 49 (by decide) ft false) (wN0 K (fun c as ts ft t => R.r00002 S c (ppOf w as ts 48 48 48 48 ft) t) cl2 q.l.l.ps sA2)
theorem lb_0_0_3 : LbOk prog w kt c 48 48 48 48 false 3 a (a + (a + (a + b))) a b := lb_of F (a := false) (fun ft => G.g000 c 48 49 (by decide) ft false) (wN0 K (fun c as ts ft t => R.r00003 S c (ppOf w as ts 48 48 48 48 ft) t) cl3 q.l.l.l.ps sA3)
theorem lb_0_0_4 : LbOk prog w kt c 48 48 48 48 false 4 a (a + (a + (a + (a + b)))) a b := lb_of F (a := true) (fun ft => G.g000 c 48 49 (by decide) ft false) (wE0 K (rs := []) (fun c as ts ft t => R.r00004 S c (ppOf w as ts 48 48 48 48 ft) t) cl4 q.l.l.l.l.ps sA4 (.inl rfl) (xBr K))
theorem lb_0_1_1 : LbOk prog w kt c 48 48 48 48 true 1 a (a + b) a b := lb_of F (a := false) (fun ft => G.g000 c 48 49 (by decide) ft true) (wN0 K (fun c as ts ft t => R.r00011 S c (ppOf w as ts 48 48 48 48 ft) t) cl1 q.l.ps sA1)
theorem lb_0_1_2 : LbOk prog w kt c 48 48 48 48 true 2 a (a + (a + b)) a b := lb_of F (a := false) (fun ft => G.g000 c 48 49 (by decide) ft true) (wN0 K (fun c as ts ft t => R.r00012 S c (ppOf w as ts 48 48 48 48 ft) t) cl2 q.l.l.ps sA2)
theorem lb_0_1_3 : LbOk prog w kt c 48 48 48 48 true 3 a (a + (a + (a + b))) a b := lb_of F (a := false) (fun ft => G.g000 c 48 49 (by decide) ft true) (wN0 K (fun c as ts ft t => R.r00013 S c (ppOf w as ts 48 48 48 48 ft) t) cl3 q.l.l.l.ps sA3)
theorem lb_0_1_4 : LbOk prog w kt c 48 48 48 48 true 4 a (a + (a + (a + (a + b)))) a b := lb_of F (a := false) (fun ft => G.g000 c 48 49 (by decide) ft true) (wN0 K (fun c as ts ft t => R.r00014 S c (ppOf w as ts 48 48 48 48 ft) t) cl4 q.l.l.l.l.ps sA4)
theorem lb_1_0_1 : LbOk prog w kt c 48 48 48 49 false 1 a (a + b) a b := lb_of F (a := false) (fun ft => G.g001 c 48 49 (by decide) ft false) (wN0 K (fun c as ts ft t => R.r00101 S c (ppOf w as ts 48 48 48 49 ft) t) cl1 q.l.ps sA1)
theorem lb_1_0_2 : LbOk prog w kt c 48 48 48 49 false 2 a (a + (a + b)) a b := lb_of F (a := false) (fun ft => G.g001 c 48 49 (by decide) ft false) (wN0 K (fun c as ts ft t => R.r00102 S c (ppOf w as ts 48 48 48 49 ft) t) cl2 q.l.l.ps sA2)
theorem lb_1_0_3 : LbOk prog w kt c 48 48 48 49 false 3 a (a + (a + (a + b))) a b := lb_of F (a := true) (fun ft => G.g001 c 48 49 (by decide) ft false) (wE0 K (rs := [4]) (fun c as ts ft t => R.r00103 S c (ppOf w as ts 48 48 48 49 ft) t) cl3 q.l.l.l.ps sA3 (.inl rfl) (xBr K))
theorem lb_1_0_4 : LbOk prog w kt c 48 48 48 49 false 4 (a + (a + (a + (a + b)))) (a + (a + (a + b))) a b := lb_of F (a := true) (fun ft => G.g001 c 48 49 (by decide) ft false) (wE1 K (rs := []) (fun c as ts ft t => R.r00104 S c (ppOf w as ts 48 48 48 49 ft) t) cl4 q.l.l.l.r.ps sB1 (.inr (fB1 q.l.l)) (xE0 K (j := 3) (rs := [4]) (fun c as ts ft t => R.r00103 S c (ppOf w as ts 48 48 48 49 ft) t) cl3 q.l.l.l.ps sA3 (.inl rfl) (xBr K)))
theorem lb_1_1_1 : LbOk prog w kt c 48 48 48 49 true 1 a (a + b) a b := lb_of F (a := false) (fun ft => G.g001 c 48 49 (by decide) ft true) (wN0 K (fun c as ts ft t => R.r00111 S c (ppOf w as ts 48 48 48 49 ft) t) cl1 q.l.ps sA1)
theorem lb_1_1_2 : LbOk prog w kt c 48 48 48 49 true 2 a (a + (a + b)) a b := lb_of F (a := false) (fun ft => G.g001 c 48 49 (by decide) ft true) (wN0 K (fun c as ts ft t => R.r00112 S c (ppOf w as ts 48 48 48 49 ft) t) cl2 q.l.l.ps sA2)
theorem lb_1_1_3 : LbOk prog w kt c 48 48 48 49 true 3 a (a + (a + (a + b))) a b := lb_of F (a := false) (fun ft => G.g001 c 48 49 (by decide) ft true) (wN0 K (fun c as ts ft t => R.r00113 S c (ppOf w as ts 48 48 48 49 ft) t) cl3 q.l.l.l.ps sA3)
theorem lb_1_1_4 : LbOk prog w kt c 48 48 48 49 true 4 (a + (a + (a + (a + b)))) (a + (a + (a + b))) a b := lb_of F (a := true) (fun ft => G.g001 c 48 49 (by decide) ft true) (wL1 K (I := 3) (rs := []) (fun c as ts ft t => R.r00114 S c (ppOf w as ts 48 48 48 49 ft) t) cl4 q.l.l.l.r.ps sB1 (fB1 q.l.l) (xN0 K (fun c as ts ft t => R.r00113 S c (ppOf w as ts 48 48 48 49 ft) t) cl3 q.l.l.l.ps sA3 (xBr K)))
theorem lb_2_0_1 : LbOk prog w kt c 48 48 49 48 false 1 a (a + b) a b := lb_of F (a := false) (fun ft => G.g011 c 48 49 (by decide) ft false) (wN0 K (fun c as ts ft t => R.r01101 S c (ppOf w as ts 48 48 49 48 ft) t) cl1 q.l.ps sA1)
theorem lb_2_0_2 : LbOk prog w kt c 48 48 49 48 false 2 a (a + (a + b)) a b := lb_of F (a := true) (fun ft => G.g011 c 48 49 (by decide) ft false) (wE0 K (rs := [3, 4]) (fun c as ts ft t => R.r01102 S c (ppOf w as ts 48 48 49 48 ft) t) cl2 q.l.l.ps sA2 (.inl rfl) (xBr K))
theorem lb_2_0_3 : LbOk prog w kt c 48 48 49 48 false 3 (a + (a + (a + b))) (a + (a + b)) a b := lb_of F (a := true) (fun ft => G.g011 c 48 49 (by decide) ft false) (wE1 K (rs := [4]) (fun c as ts ft t => R.r01103 S c (ppOf w as ts 48 48 49 48 ft) t) cl3 q.l.l.r.ps sB1 (.inr (fB1 q.l)) (xE0 K (j := 2) (rs := [3, 4]) (fun c as ts ft t => R.r01102 S c (ppOf w as ts 48 48 49 48 ft) t) cl2 q.l.l.ps sA2 (.inl rfl) (xBr K)))
theorem lb_2_0_4 : LbOk prog w kt c 48 48 49 48 false 4 (a + (a + (a + b))) ((a + (a + (a + b))) + (a + (a + b))) a b := lb_of F (a := true) (fun ft => G.g011 c 48 49 (by decide) ft false) (wE0 K (rs := []) (fun c as ts ft t => R.r01104 S c (ppOf w as ts 48 48 49 48 ft) t) cl4 q.l.l.r.l.ps sA1 (.inr (fA1 q.l.l)) (xE1 K (j := 3) (rs := [4]) (fun c as ts ft t => R.r01103 S c (ppOf w as ts 48 48 49 48 ft) t) cl3 q.l.l.r.ps sB1 (.inr (fB1 q.l)) (xE0 K (j := 2) (rs := [3, 4]) (fun c as ts ft t => R.r01102 S c (ppOf w as ts 48 48 49 48 ft) t) cl2 q.l.l.ps sA2 (.inl rfl) (xBr K))))
theorem lb_2_1_1 : LbOk prog w kt c 48 48 49 48 true 1 a (a + b) a b := lb_of F (a := false) (fun ft => G.g011 c 48 49 (by decide) ft true) (wN0 K (fun c as ts ft t => R.r01111 S c (ppOf w as ts 48 48 49 48 ft) t) cl1 q.l.ps sA1)
theorem lb_2_1_2 : LbOk prog w kt c 48 48 49 48 true 2 a (a + (a + b)) a b := lb_of F (a := false) (fun ft => G.g011 c 48 49 (by decide) ft true) (wN0 K (fun c as ts ft t => R.r01112 S c (ppOf w as ts 48 48 49 48 ft) t) cl2 q.l.l.ps sA2)
theorem lb_2_1_3 : LbOk prog w kt c 48 48 49 48 true 3 (a + (a + (a + b))) (a + (a + b)) a b := lb_of F (a := true) (fun ft => G.g011 c 48 49 (by decide) ft true) (wL1 K (I := 2) (rs := [3]) (fun c as ts ft t => R.r01113 S c (ppOf w as ts 48 48 49 48 ft) t) cl3 q.l.l.r.ps sB1 (fB1 q.l) (xN0 K (fun c as ts ft t => R.r01112 S c (ppOf w as ts 48 48 49 48 ft) t) cl2 q.l.l.ps sA2 (xBr K)))
theorem lb_2_1_4 : LbOk prog w kt c 48 48 49 48 true 4 (a + (a + (a + b))) ((a + (a + (a + b))) + (a + (a + b))) a b := lb_of F (a := true) (fun ft => G.g011 c 48 49 (by decide) ft true) (wL0 K (I := 3) (rs := []) (fun c as ts ft t => R.r01114 S c (ppOf w as ts 48 48 49 48 ft) t) cl4 q.l.l.r.l.ps sA1 (fA1 q.l.l) (xE1 K (j := 2) (rs := [3]) (fun c as ts ft t => R.r01113 S c (ppOf w as ts 48 48 49 48 ft) t) cl3 q.l.l.r.ps sB1 (.inr (fB1 q.l)) (xN0 K (fun c as ts ft t => R.r01112 S c (ppOf w as ts 48 48 49 48 ft) t) cl2 q.l.l.ps sA2 (xBr K))))
theorem lb_3_0_1 : LbOk prog w kt c 48 48 49 49 false 1 a (a + b) a b := lb_of F (a := false) (fun ft => G.g010 c 48 49 (by decide) ft false) (wN0 K (fun c as ts ft t => R.r01001 S c (ppOf w as ts 48 48 49 49 ft) t) cl1 q.l.ps sA1)
theorem lb_3_0_2 : LbOk prog w kt c 48 48 49 49 false 2 a (a + (a + b)) a b := lb_of F (a := true) (fun ft => G.g010 c 48 49 (by decide) ft false) (wE0 K (rs := [4]) (fun c as ts ft t => R.r01002 S c (ppOf w as ts 48 48 49 49 ft) t) cl2 q.l.l.ps sA2 (.inl rfl) (xBr K))
theorem lb_3_0_3 : LbOk prog w kt c 48 48 49 49 false 3 (a + (a + (a + b))) (a + (a + b)) a b := lb_of F (a := true) (fun ft => G.g010 c 48 49 (by decide) ft false) (wL1 K (I := 0) (rs := [4]) (fun c as ts ft t => R.r01003 S c (ppOf w as ts 48 48 49 49 ft) t) cl3 q.l.l.r.ps sB1 (fB1 q.l) (xE0 K (j := 2) (rs := [4]) (fun c as ts ft t => R.r01002 S c (ppOf w as ts 48 48 49 49 ft) t) cl2 q.l.l.ps sA2 (.inl rfl) (xBr K)))
theorem lb_3_0_4 : LbOk prog w kt c 48 48 49 49 false 4 ((a + (a + (a + b))) + (a + (a + b))) (a + (a + b)) a b := lb_of F (a := true) (fun ft => G.g010 c 48 49 (by decide) ft false) (wE1 K (rs := []) (fun c as ts ft t => R.r01004 S c (ppOf w as ts 48 48 49 49 ft) t) cl4 q.l.l.r.r.ps sB2 (.inr (fB2 q.l)) (xE0 K (j := 2) (rs := [4]) (fun c as ts ft t => R.r01002 S c (ppOf w as ts 48 48 49 49 ft) t) cl2 q.l.l.ps sA2 (.inl rfl) (xBr K)))
theorem lb_3_1_1 : LbOk prog w kt c 48 48 49 49 true 1 a (a + b) a b := lb_of F (a := false) (fun ft => G.g010 c 48 49 (by decide) ft true) (wN0 K (fun c as ts ft t => R.r01011 S c (ppOf w as ts 48 48 49 49 ft) t) cl1 q.l.ps sA1)
theorem lb_3_1_2 : LbOk prog w kt c 48 48 49 49 true 2 a (a + (a + b)) a b := lb_of F (a := false) (fun ft => G.g010 c 48 49 (by decide) ft true) (wN0 K (fun c as ts ft t => R.r01012 S c (ppOf w as ts 48 48 49 49 ft) t) cl2 q.l.l.ps sA2)
theorem lb_3_1_3 : LbOk prog w kt c 48 48 49 49 true 3 (a + (a + (a + b))) (a + (a + b)) a b := lb_of F (a := true) (fun ft => G.g010 c 48 49 (by decide) ft true) (wL1 K (I := 2) (rs := []) (fun c as ts ft t => R.r01013 S c (ppOf w as ts 48 48 49 49 ft) t) cl3 q.l.l.r.ps sB1 (fB1 q.l) (xN0 K (fun c as ts ft t => R.r01012 S c (ppOf w as ts 48 48 49 49 ft) t) cl2 q.l.l.ps sA2 (xBr K)))
theorem lb_3_1_4 : LbOk prog w kt c 48 48 49 49 true 4 ((a + (a + (a + b))) + (a + (a + b))) (a + (a + b)) a b := lb_of F (a := true) (fun ft => G.g010 c 48 49 (by decide) ft true) (wL1 K (I := 2) (rs := []) (fun c as ts ft t => R.r01014 S c (ppOf w as ts 48 48 49 49 ft) t) cl4 q.l.l.r.r.ps sB2 (fB2 q.l) (xN0 K (fun c as ts ft t => R.r01012 S c (ppOf w as ts 48 48 49 49 ft) t) cl2 q.l.l.ps sA2 (xBr K)))
theorem lb_4_0_1 : LbOk prog w kt c 48 49 48 48 false 1 a (a + b) a b := lb_of F (a := true) (fun ft => G.g110 c 48 49 (by decide) ft false) (wE0 K (rs := [2, 4]) (fun c as ts ft t => R.r11001 S c (ppOf w as ts 48 49 48 48 ft) t) cl1 q.l.ps sA1 (.inl rfl) (xBr K))
theorem lb_4_0_2 : LbOk prog w kt c 48 49 48 48 false 2 (a + (a + b)) (a + b) a b := lb_of F (a := true) (fun ft => G.g110 c 48 49 (by decide) ft false) (wE1 K (rs := [4]) (fun c as ts ft t => R.r11002 S c (ppOf w as ts 48 49 48 48 ft) t) cl2 q.l.r.ps sB1 (.inr (fB1 q)) (xE0 K (j := 1) (rs := [2, 4]) (fun c as ts ft t => R.r11001 S c (ppOf w as ts 48 49 48 48 ft) t) cl1 q.l.ps sA1 (.inl rfl) (xBr K)))
theorem lb_4_0_3 : LbOk prog w kt c 48 49 48 48 false 3 (a + (a + b)) ((a + (a + b)) + (a + b)) a b := lb_of F (a := true) (fun ft => G.g110 c 48 49 (by decide) ft false) (wL0 K (I := 1) (rs := [4]) (fun c as ts ft t => R.r11003 S c (ppOf w as ts 48 49 48 48 ft) t) cl3 q.l.r.l.ps sA1 (fA1 q.l) (xE1 K (j := 2) (rs := [4]) (fun c as ts ft t => R.r11002 S c (ppOf w as ts 48 49 48 48 ft) t) cl2 q.l.r.ps sB1 (.inr (fB1 q)) (xE0 K (j := 1) (rs := [2, 4]) (fun c as ts ft t => R.r11001 S c (ppOf w as ts 48 49 48 48 ft) t) cl1 q.l.ps sA1 (.inl rfl) (xBr K))))
theorem lb_4_0_4 : LbOk prog w kt c 48 49 48 48 false 4 (a + (a + b)) ((a + (a + b)) + ((a + (a + b)) + (a + b))) a b := lb_of F (a := true) (fun ft => G.g110 c 48 49 (by decide) ft false) (wE0 K (rs := []) (fun c as ts ft t => R.r11004 S c (ppOf w as ts 48 49 48 48 ft) t) cl4 q.l.r.l.l.ps sA2 (.inr (fA2 q.l)) (xE1 K (j := 2) (rs := [4]) (fun c as ts ft t => R.r11002 S c (ppOf w as ts 48 49 48 48 ft) t) cl2 q.l.r.ps sB1 (.inr (fB1 q)) (xE0 K (j := 1) (rs := [2, 4]) (fun c as ts ft t => R.r11001 S c (ppOf w as ts 48 49 48 48 ft) t) cl1 q.l.ps sA1 (.inl rfl) (xBr K))))
theorem lb_4_1_1 : LbOk prog w kt c 48 49 48 48 true 1 a (a + b) a b := lb_of F (a := false) (fun ft => G.g110 c 48 49 (by decide) ft true) (wN0 K (fun c as ts ft t => R.r11011 S c (ppOf w as ts 48 49 48 48 ft) t) cl1 q.l.ps sA1)
theorem lb_4_1_2 : LbOk prog w kt c 48 49 48 48 true 2 (a + (a + b)) (a + b) a b := lb_of F (a := true) (fun ft => G.g110 c 48 49 (by decide) ft true) (wL1 K (I := 1) (rs := [2]) (fun c as ts ft t => R.r11012 S c (ppOf w as ts 48 49 48 48 ft) t) cl2 q.l.r.ps sB1 (fB1 q) (xN0 K (fun c as ts ft t => R.r11011 S c (ppOf w as ts 48 49 48 48 ft) t) cl1 q.l.ps sA1 (xBr K)))
theorem lb_4_1_3 : LbOk prog w kt c 48 49 48 48 true 3 (a + (a + b)) ((a + (a + b)) + (a + b)) a b := lb_of F (a := true) (fun ft => G.g110 c 48 49 (by decide) ft true) (wL0 K (I := 2) (rs := []) (fun c as ts ft t => R.r11013 S c (ppOf w as ts 48 49 48 48 ft) t) cl3 q.l.r.l.ps sA1 (fA1 q.l) (xE1 K (j := 1) (rs := [2]) (fun c as ts ft t => R.r11012 S c (ppOf w as ts 48 49 48 48 ft) t) cl2 q.l.r.ps sB1 (.inr (fB1 q)) (xN0 K (fun c as ts ft t => R.r11011 S c (ppOf w as ts 48 49 48 48 ft) t) cl1 q.l.ps sA1 (xBr K))))
theorem lb_4_1_4 : LbOk prog w kt c 48 49 48 48 true 4 (a + (a + b)) ((a + (a + b)) + ((a + (a + b)) + (a + b))) a b := lb_of F (a := true) (fun ft => G.g110 c 48 49 (by decide) ft true) (wL0 K (I := 2) (rs := []) (fun c as ts ft t => R.r11014 S c (ppOf w as ts 48 49 48 48 ft) t) cl4 q.l.r.l.l.ps sA2 (fA2 q.l) (xE1 K (j := 1) (rs := [2]) (fun c as ts ft t => R.r11012 S c (ppOf w as ts 48 49 48 48 ft) t) cl2 q.l.r.ps sB1 (.inr (fB1 q)) (xN0 K (fun c as ts ft t => R.r11011 S c (ppOf w as ts 48 49 48 48 ft) t) cl1 q.l.ps sA1 (xBr K))))
theorem lb_5_0_1 : LbOk prog w kt c 48 49 48 49 false 1 a (a + b) a b := lb_of F (a := true) (fun ft => G.g111 c 48 49 (by decide) ft false) (wE0 K (rs := [2, 3, 4]) (fun c as ts ft t => R.r11101 S c (ppOf w as ts 48 49 48 49 ft) t) cl1 q.l.ps sA1 (.inl rfl) (xBr K))
theorem lb_5_0_2 : LbOk prog w kt c 48 49 48 49 false 2 (a + (a + b)) (a + b) a b := lb_of F (a := true) (fun ft => G.g111 c 48 49 (by decide) ft false) (wE1 K (rs := [3, 4]) (fun c as ts ft t => R.r11102 S c (ppOf w as ts 48 49 48 49 ft) t) cl2 q.l.r.ps sB1 (.inr (fB1 q)) (xE0 K (j := 1) (rs := [2, 3, 4]) (fun c as ts ft t => R.r11101 S c (ppOf w as ts 48 49 48 49 ft) t) cl1 q.l.ps sA1 (.inl rfl) (xBr K)))
theorem lb_5_0_3 : LbOk prog w kt c 48 49 48 49 false 3 (a + (a + b)) ((a + (a + b)) + (a + b)) a b := lb_of F (a := true) (fun ft => G.g111 c 48 49 (by decide) ft false) (wE0 K (rs := [4]) (fun c as ts ft t => R.r11103 S c (ppOf w as ts 48 49 48 49 ft) t) cl3 q.l.r.l.ps sA1 (.inr (fA1 q.l)) (xE1 K (j := 2) (rs := [3, 4]) (fun c as ts ft t => R.r11102 S c (ppOf w as ts 48 49 48 49 ft) t) cl2 q.l.r.ps sB1 (.inr (fB1 q)) (xE0 K (j := 1) (rs := [2, 3, 4]) (fun c as ts ft t => R.r11101 S c (ppOf w as ts 48 49 48 49 ft) t) cl1 q.l.ps sA1 (.inl rfl) (xBr K))))
theorem lb_5_0_4 : LbOk prog w kt c 48 49 48 49 false 4 ((a + (a + b)) + ((a + (a + b)) + (a + b))) ((a + (a + b)) + (a + b)) a b := lb_of F (a := true) (fun ft => G.g111 c 48 49 (by decide) ft false) (wE1 K (rs := []) (fun c as ts ft t => R.r11104 S c (ppOf w as ts 48 49 48 49 ft) t) cl4 q.l.r.l.r.ps sB1 (.inr (fB1 q.l.r)) (xE0 K (j := 3) (rs := [4]) (fun c as ts ft t => R.r11103 S c (ppOf w as ts 48 49 48 49 ft) t) cl3 q.l.r.l.ps sA1 (.inr (fA1 q.l)) (xE1 K (j := 2) (rs := [3, 4]) (fun c as ts ft t => R.r11102 S c (ppOf w as ts 48 49 48 49 ft) t) cl2 q.l.r.ps sB1 (.inr (fB1 q)) (xE0 K (j := 1) (rs := [2, 3, 4]) (fun c as ts ft t => R.r11101 S c (ppOf w as ts 48 49 48 49 ft) t) cl1 q.l.ps sA1 (.inl rfl) (xEn K)))))
theorem lb_5_1_1 : LbOk prog w kt c 48 49 48 49 true 1 a (a + b) a b := lb_of F (a := false) (fun ft => G.g111 c 48 49 (by decide) ft true) (wN0 K (fun c as ts ft t => R.r11111 S c (ppOf w as ts 48 49 48 49 ft) t) cl1 q.l.ps sA1)
theorem lb_5_1_2 : LbOk prog w kt c 48 49 48 49 true 2 (a + (a + b)) (a + b) a b := lb_of F (a := true) (fun ft => G.g111 c 48 49 (by decide) ft true) (wL1 K (I := 1) (rs := [2, 3]) (fun c as ts ft t => R.r11112 S c (ppOf w as ts 48 49 48 49 ft) t) cl2 q.l.r.ps sB1 (fB1 q) (xN0 K (fun c as ts ft t => R.r11111 S c (ppOf w as ts 48 49 48 49 ft) t) cl1 q.l.ps sA1 (xBr K)))
theorem lb_5_1_3 : LbOk prog w kt c 48 49 48 49 true 3 (a + (a + b)) ((a + (a + b)) + (a + b)) a b := lb_of F (a := true) (fun ft => G.g111 c 48 49 (by decide) ft true) (wL0 K (I := 2) (rs := [3]) (fun c as ts ft t => R.r11113 S c (ppOf w as ts 48 49 48 49 ft) t) cl3 q.l.r.l.ps sA1 (fA1 q.l) (xE1 K (j := 1) (rs := [2, 3]) (fun c as ts ft t => R.r11112 S c (ppOf w as ts 48 49 48 49 ft) t) cl2 q.l.r.ps sB1 (.inr (fB1 q)) (xN0 K (fun c as ts ft t => R.r11111 S c (ppOf w as ts 48 49 48 49 ft) t) cl1 q.l.ps sA1 (xBr K))))
theorem lb_5_1_4 : LbOk prog w kt c 48 49 48 49 true 4 ((a + (a + b)) + ((a + (a + b)) + (a + b))) ((a + (a + b)) + (a + b)) a b := lb_of F (a := true) (fun ft => G.g111 c 48 49 (by decide) ft true) (wL1 K (I := 3) (rs := []) (fun c as ts ft t => R.r11114 S c (ppOf w as ts 48 49 48 49 ft) t) cl4 q.l.r.l.r.ps sB1 (fB1 q.l.r) (xE0 K (j := 2) (rs := [3]) (fun c as ts ft t => R.r11113 S c (ppOf w as ts 48 49 48 49 ft) t) cl3 q.l.r.l.ps sA1 (.inr (fA1 q.l)) (xE1 K (j := 1) (rs := [2, 3]) (fun c as ts ft t => R.r11112 S c (ppOf w as ts 48 49 48 49 ft) t) cl2 q.l.r.ps sB1 (.inr (fB1 q)) (xN0 K (fun c as ts ft t => R.r11111 S c (ppOf w as ts 48 49 48 49 ft) t) cl1 q.l.ps sA1 (xEn K)))))
theorem lb_6_0_1 : LbOk prog w kt c 48 49 49 48 false 1 a (a + b) a b := lb_of F (a := true) (fun ft => G.g101 c 48 49 (by decide) ft false) (wE0 K (rs := [3, 4]) (fun c as ts ft t => R.r10101 S c (ppOf w as ts 48 49 49 48 ft) t) cl1 q.l.ps sA1 (.inl rfl) (xBr K))
theorem lb_6_0_2 : LbOk prog w kt c 48 49 49 48 false 2 (a + (a + b)) (a + b) a b := lb_of F (a := true) (fun ft => G.g101 c 48 49 (by decide) ft false) (wL1 K (I := 0) (rs := [3, 4]) (fun c as ts ft t => R.r10102 S c (ppOf w as ts 48 49 49 48 ft) t) cl2 q.l.r.ps sB1 (fB1 q) (xE0 K (j := 1) (rs := [3, 4]) (fun c as ts ft t => R.r10101 S c (ppOf w as ts 48 49 49 48 ft) t) cl1 q.l.ps sA1 (.inl rfl) (xBr K)))
theorem lb_6_0_3 : LbOk prog w kt c 48 49 49 48 false 3 ((a + (a + b)) + (a + b)) (a + b) a b := lb_of F (a := true) (fun ft => G.g101 c 48 49 (by decide) ft false) (wE1 K (rs := [4]) (fun c as ts ft t => R.r10103 S c (ppOf w as ts 48 49 49 48 ft) t) cl3 q.l.r.r.ps sB2 (.inr (fB2 q)) (xE0 K (j := 1) (rs := [3, 4]) (fun c as ts ft t => R.r10101 S c (ppOf w as ts 48 49 49 48 ft) t) cl1 q.l.ps sA1 (.inl rfl) (xBr K)))
theorem lb_6_0_4 : LbOk prog w kt c 48 49 49 48 false 4 ((a + (a + b)) + (a + b)) (((a + (a + b)) + (a + b)) + (a + b)) a b := lb_of F (a := true) (fun ft => G.g101 c 48 49 (by decide) ft false) (wE0 K (rs := []) (fun c as ts ft t => R.r10104 S c (ppOf w as ts 48 49 49 48 ft) t) cl4 q.l.r.r.l.ps sA1 (.inr (fA1 q.l.r)) (xE1 K (j := 3) (rs := [4]) (fun c as ts ft t => R.r10103 S c (ppOf w as ts 48 49 49 48 ft) t) cl3 q.l.r.r.ps sB2 (.inr (fB2 q)) (xE0 K (j := 1) (rs := [3, 4]) (fun c as ts ft t => R.r10101 S c (ppOf w as ts 48 49 49 48 ft) t) cl1 q.l.ps sA1 (.inl rfl) (xBr K))))
theorem lb_6_1_1 : LbOk prog w kt c 48 49 49 48 true 1 a (a + b) a b := lb_of F (a := false) (fun ft => G.g101 c 48 49 (by decide) ft true) (wN0 K (fun c as ts ft t => R.r10111 S c (ppOf w as ts 48 49 49 48 ft) t) cl1 q.l.ps sA1)
theorem lb_6_1_2 : LbOk prog w kt c 48 49 49 48 true 2 (a + (a + b)) (a + b) a b := lb_of F (a := true) (fun ft => G.g101 c 48 49 (by decide) ft true) (wL1 K (I := 1) (rs := [3]) (fun c as ts ft t => R.r10112 S c (ppOf w as ts 48 49 49 48 ft) t) cl2 q.l.r.ps sB1 (fB1 q) (xN0 K (fun c as ts ft t => R.r10111 S c (ppOf w as ts 48 49 49 48 ft) t) cl1 q.l.ps sA1 (xBr K)))
theorem lb_6_1_3 : LbOk prog w kt c 48 49 49 48 true 3 ((a + (a + b)) + (a + b)) (a + b) a b := lb_of F (a := true) (fun ft => G.g101 c 48 49 (by decide) ft true) (wL1 K (I := 1) (rs := [3]) (fun c as ts ft t => R.r10113 S c (ppOf w as ts 48 49 49 48 ft) t) cl3 q.l.r.r.ps sB2 (fB2 q) (xN0 K (fun c as ts ft t => R.r10111 S c (ppOf w as ts 48 49 49 48 ft) t) cl1 q.l.ps sA1 (xBr K)))
theorem lb_6_1_4 : LbOk prog w kt c 48 49 49 48 true 4 ((a + (a + b)) + (a + b)) (((a + (a + b)) + (a + b)) + (a + b)) a b := lb_of F (a := true) (fun ft => G.g101 c 48 49 (by decide) ft true) (wL0 K (I := 3) (rs := []) (fun c as ts ft t => R.r10114 S c (ppOf w as ts 48 49 49 48 ft) t) cl4 q.l.r.r.l.ps sA1 (fA1 q.l.r) (xE1 K (j := 1) (rs := [3]) (fun c as ts ft t => R.r10113 S c (ppOf w as ts 48 49 49 48 ft) t) cl3 q.l.r.r.ps sB2 (.inr (fB2 q)) (xN0 K (fun c as ts ft t => R.r10111 S c (ppOf w as ts 48 49 49 48 ft) t) cl1 q.l.ps sA1 (xBr K))))
theorem lb_7_0_1 : LbOk prog w kt c 48 49 49 49 false 1 a (a + b) a b := lb_of F (a := true) (fun ft => G.g100 c 48 49 (by decide) ft false) (wE0 K (rs := [4]) (fun c as ts ft t => R.r10001 S c (ppOf w as ts 48 49 49 49 ft) t) cl1 q.l.ps sA1 (.inl rfl) (xBr K))
theorem lb_7_0_2 : LbOk prog w kt c 48 49 49 49 false 2 (a + (a + b)) (a + b) a b := lb_of F (a := true) (fun ft => G.g100 c 48 49 (by decide) ft false) (wL1 K (I := 0) (rs := [4]) (fun c as ts ft t => R.r10002 S c (ppOf w as ts 48 49 49 49 ft) t) cl2 q.l.r.ps sB1 (fB1 q) (xE0 K (j := 1) (rs := [4]) (fun c as ts ft t => R.r10001 S c (ppOf w as ts 48 49 49 49 ft) t) cl1 q.l.ps sA1 (.inl rfl) (xBr K)))
theorem lb_7_0_3 : LbOk prog w kt c 48 49 49 49 false 3 ((a + (a + b)) + (a + b)) (a + b) a b := lb_of F (a := true) (fun ft => G.g100 c 48 49 (by decide) ft false) (wL1 K (I := 0) (rs := [4]) (fun c as ts ft t => R.r10003 S c (ppOf w as ts 48 49 49 49 ft) t) cl3 q.l.r.r.ps sB2 (fB2 q) (xE0 K (j := 1) (rs := [4]) (fun c as ts ft t => R.r10001 S c (ppOf w as ts 48 49 49 49 ft) t) cl1 q.l.ps sA1 (.inl rfl) (xBr K)))
theorem lb_7_0_4 : LbOk prog w kt c 48 49 49 49 false 4 (((a + (a + b)) + (a + b)) + (a + b)) (a + b) a b := lb_of F (a := true) (fun ft => G.g100 c 48 49 (by decide) ft false) (wE1 K (rs := []) (fun c as ts ft t => R.r10004 S c (ppOf w as ts 48 49 49 49 ft) t) cl4 q.l.r.r.r.ps sB3 (.inr (fB3 q)) (xE0 K (j := 1) (rs := [4]) (fun c as ts ft t => R.r10001 S c (ppOf w as ts 48 49 49 49 ft) t) cl1 q.l.ps sA1 (.inl rfl) (xBr K)))
theorem lb_7_1_1 : LbOk prog w kt c 48 49 49 49 true 1 a (a + b) a b := lb_of F (a := false) (fun ft => G.g100 c 48 49 (by decide) ft true) (wN0 K (fun c as ts ft t => R.r10011 S c (ppOf w as ts 48 49 49 49 ft) t) cl1 q.l.ps sA1)
theorem lb_7_1_2 : LbOk prog w kt c 48 49 49 49 true 2 (a + (a + b)) (a + b) a b := lb_of F (a := true) (fun ft => G.g100 c 48 49 (by decide) ft true) (wL1 K (I := 1) (rs := []) (fun c as ts ft t => R.r10012 S c (ppOf w as ts 48 49 49 49 ft) t) cl2 q.l.r.ps sB1 (fB1 q) (xN0 K (fun c as ts ft t => R.r10011 S c (ppOf w as ts 48 49 49 49 ft) t) cl1 q.l.ps sA1 (xBr K)))
theorem lb_7_1_3 : LbOk prog w kt c 48 49 49 49 true 3 ((a + (a + b)) + (a + b)) (a + b) a b := lb_of F (a := true) (fun ft => G.g100 c 48 49 (by decide) ft true) (wL1 K (I := 1) (rs := []) (fun c as ts ft t => R.r10013 S c (ppOf w as ts 48 49 49 49 ft) t) cl3 q.l.r.r.ps sB2 (fB2 q) (xN0 K (fun c as ts ft t => R.r10011 S c (ppOf w as ts 48 49 49 49 ft) t) cl1 q.l.ps sA1 (xBr K)))
theorem lb_7_1_4 : LbOk prog w kt c 48 49 49 49 true 4 (((a + (a + b)) + (a + b)) + (a + b)) (a + b) a b := lb_of F (a := true) (fun ft => G.g100 c 48 49 (by decide) ft true) (wL1 K (I := 1) (rs := []) (fun c as ts ft t => R.r10014 S c (ppOf w as ts 48 49 49 49 ft) t) cl4 q.l.r.r.r.ps sB3 (fB3 q) (xN0 K (fun c as ts ft t => R.r10011 S c (ppOf w as ts 48 49 49 49 ft) t) cl1 q.l.ps sA1 (xBr K)))
theorem lb_8_0_1 : LbOk prog w kt c 49 48 48 48 false 1 (a + b) b a b := lb_of F (a := true) (fun ft => G.g100 c 49 48 (by decide) ft false) (wE1 K (rs := [4]) (fun c as ts ft t => R.r10001 S c (ppOf w as ts 49 48 48 48 ft) t) cl1 q.r.ps sB1 (.inl rfl) (xBr K))
theorem lb_8_0_2 : LbOk prog w kt c 49 48 48 48 false 2 (a + b) ((a + b) + b) a b := lb_of F (a := true) (fun ft => G.g100 c 49 48 (by decide) ft false) (wL0 K (I := 0) (rs := [4]) (fun c as ts ft t => R.r10002 S c (ppOf w as ts 49 48 48 48 ft) t) cl2 q.r.l.ps sA1 (fA1 q) (xE1 K (j := 1) (rs := [4]) (fun c as ts ft t => R.r10001 S c (ppOf w as ts 49 48 48 48 ft) t) cl1 q.r.ps sB1 (.inl rfl) (xBr K)))
theorem lb_8_0_3 : LbOk prog w kt c 49 48 48 48 false 3 (a + b) ((a + b) + ((a + b) + b)) a b := lb_of F (a := true) (fun ft => G.g100 c 49 48 (by decide) ft false) (wL0 K (I := 0) (rs := [4]) (fun c as ts ft t => R.r10003 S c (ppOf w as ts 49 48 48 48 ft) t) cl3 q.r.l.l.ps sA2 (fA2 q) (xE1 K (j := 1) (rs := [4]) (fun c as ts ft t => R.r10001 S c (ppOf w as ts 49 48 48 48 ft) t) cl1 q.r.ps sB1 (.inl rfl) (xBr K)))
theorem lb_8_0_4 : LbOk prog w kt c 49 48 48 48 false 4 (a + b) ((a + b) + ((a + b) + ((a + b) + b))) a b := lb_of F (a := true) (fun ft => G.g100 c 49 48 (by decide) ft false) (wE0 K (rs := []) (fun c as ts ft t => R.r10004 S c (ppOf w as ts 49 48 48 48 ft) t) cl4 q.r.l.l.l.ps sA3 (.inr (fA3 q)) (xE1 K (j := 1) (rs := [4]) (fun c as ts ft t => R.r10001 S c (ppOf w as ts 49 48 48 48 ft) t) cl1 q.r.ps sB1 (.inl rfl) (xBr K)))
theorem lb_8_1_1 : LbOk prog w kt c 49 48 48 48 true 1 (a + b) b a b := lb_of F (a := false) (fun ft => G.g100 c 49 48 (by decide) ft true) (wN1 K (fun c as ts ft t => R.r10011 S c (ppOf w as ts 49 48 48 48 ft) t) cl1 q.r.ps sB1)
theorem lb_8_1_2 : LbOk prog w kt c 49 48 48 48 true 2 (a + b) ((a + b) + b) a b := lb_of F (a := true) (fun ft => G.g100 c 49 48 (by decide) ft true) (wL0 K (I := 1) (rs := []) (fun c as ts ft t => R.r10012 S c (ppOf w as ts 49 48 48 48 ft) t) cl2 q.r.l.ps sA1 (fA1 q) (xN1 K (fun c as ts ft t => R.r10011 S c (ppOf w as ts 49 48 48 48 ft) t) cl1 q.r.ps sB1 (xBr K)))
theorem lb_8_1_3 : LbOk prog w kt c 49 48 48 48 true 3 (a + b) ((a + b) + ((a + b) + b)) a b := lb_of F (a := true) (fun ft => G.g100 c 49 48 (by decide) ft true) (wL0 K (I := 1) (rs := []) (fun c as ts ft t => R.r10013 S c (ppOf w as ts 49 48 48 48 ft) t) cl3 q.r.l.l.ps sA2 (fA2 q) (xN1 K (fun c as ts ft t => R.r10011 S c (ppOf w as ts 49 48 48 48 ft) t) cl1 q.r.ps sB1 (xBr K)))
theorem lb_8_1_4 : LbOk prog w kt c 49 48 48 48 true 4 (a + b) ((a + b) + ((a + b) + ((a + b) + b))) a b := lb_of F (a := true) (fun ft => G.g100 c 49 48 (by decide) ft true) (wL0 K (I := 1) (rs := []) (fun c as ts ft t => R.r10014 S c (ppOf w as ts 49 48 48 48 ft) t) cl4 q.r.l.l.l.ps sA3 (fA3 q) (xN1 K (fun c as ts ft t => R.r10011 S c (ppOf w as ts 49 48 48 48 ft) t) cl1 q.r.ps sB1 (xBr K)))
theorem lb_9_0_1 : LbOk prog w kt c 49 48 48 49 false 1 (a + b) b a b := lb_of F (a := true) (fun ft => G.g101 c 49 48 (by decide) ft false) (wE1 K (rs := [3, 4]) (fun c as ts ft t => R.r10101 S c (ppOf w as ts 49 48 48 49 ft) t) cl1 q.r.ps sB1 (.inl rfl) (xBr K))
theorem lb_9_0_2 : LbOk prog w kt c 49 48 48 49 false 2 (a + b) ((a + b) + b) a b := lb_of F (a := true) (fun ft => G.g101 c 49 48 (by decide) ft false) (wL0 K (I := 0) (rs := [3, 4]) (fun c as ts ft t => R.r10102 S c (ppOf w as ts 49 48 48 49 ft) t) cl2 q.r.l.ps sA1 (fA1 q) (xE1 K (j := 1) (rs := [3, 4]) (fun c as ts ft t => R.r10101 S c (ppOf w as ts 49 48 48 49 ft) t) cl1 q.r.ps sB1 (.inl rfl) (xBr K)))
theorem lb_9_0_3 : LbOk prog w kt c 49 48 48 49 false 3 (a + b) ((a + b) + ((a + b) + b)) a b := lb_of F (a := true) (fun ft => G.g101 c 49 48 (by decide) ft false) (wE0 K (rs := [4]) (fun c as ts ft t => R.r10103 S c (ppOf w as ts 49 48 48 49 ft) t) cl3 q.r.l.l.ps sA2 (.inr (fA2 q)) (xE1 K (j := 1) (rs := [3, 4]) (fun c as ts ft t => R.r10101 S c (ppOf w as ts 49 48 48 49 ft) t) cl1 q.r.ps sB1 (.inl rfl) (xBr K)))
theorem lb_9_0_4 : LbOk prog w kt c 49 48 48 49 false 4 ((a + b) + ((a + b) + ((a + b) + b))) ((a + b) + ((a + b) + b)) a b := lb_of F (a := true) (fun ft => G.g101 c 49 48 (by decide) ft false) (wE1 K (rs := []) (fun c as ts ft t => R.r10104 S c (ppOf w as ts 49 48 48 49 ft) t) cl4 q.r.l.l.r.ps sB1 (.inr (fB1 q.r.l)) (xE0 K (j := 3) (rs := [4]) (fun c as ts ft t => R.r10103 S c (ppOf w as ts 49 48 48 49 ft) t) cl3 q.r.l.l.ps sA2 (.inr (fA2 q)) (xE1 K (j := 1) (rs := [3, 4]) (fun c as ts ft t => R.r10101 S c (ppOf w as ts 49 48 48 49 ft) t) cl1 q.r.ps sB1 (.inl rfl) (xBr K))))
theorem lb_9_1_1 : LbOk prog w kt c 49 48 48 49 true 1 (a + b) b a b := lb_of F (a := false) (fun ft => G.g101 c 49 48 (by decide) ft true) (wN1 K (fun c as ts ft t => R.r10111 S c (ppOf w as ts 49 48 48 49 ft) t) cl1 q.r.ps sB1)
theorem lb_9_1_2 : LbOk prog w kt c 49 48 48 49 true 2 (a + b) ((a + b) + b) a b := lb_of F (a := true) (fun ft => G.g101 c 49 48 (by decide) ft true) (wL0 K (I := 1) (rs := [3]) (fun c as ts ft t => R.r10112 S c (ppOf w as ts 49 48 48 49 ft) t) cl2 q.r.l.ps sA1 (fA1 q) (xN1 K (fun c as ts ft t => R.r10111 S c (ppOf w as ts 49 48 48 49 ft) t) cl1 q.r.ps sB1 (xBr K)))
theorem lb_9_1_3 : LbOk prog w kt c 49 48 48 49 true 3 (a + b) ((a + b) + ((a + b) + b)) a b := lb_of F (a := true) (fun ft => G.g101 c 49 48 (by decide) ft true) (wL0 K (I := 1) (rs := [3]) (fun c as ts ft t => R.r10113 S c (ppOf w as ts 49 48 48 49 ft) t) cl3 q.r.l.l.ps sA2 (fA2 q) (xN1 K (fun c as ts ft t => R.r10111 S c (ppOf w as ts 49 48 48 49 ft) t) cl1 q.r.ps sB1 (xBr K)))
theorem lb_9_1_4 : LbOk prog w kt c 49 48 48 49 true 4 ((a + b) + ((a + b) + ((a + b) + b))) ((a + b) + ((a + b) + b)) a b := lb_of F (a := true) (fun ft => G.g101 c 49 48 (by decide) ft true) (wL1 K (I := 3) (rs := []) (fun c as ts ft t => R.r10114 S c (ppOf w as ts 49 48 48 49 ft) t) cl4 q.r.l.l.r.ps sB1 (fB1 q.r.l) (xE0 K (j := 1) (rs := [3]) (fun c as ts ft t => R.r10113 S c (ppOf w as ts 49 48 48 49 ft) t) cl3 q.r.l.l.ps sA2 (.inr (fA2 q)) (xN1 K (fun c as ts ft t => R.r10111 S c (ppOf w as ts 49 48 48 49 ft) t) cl1 q.r.ps sB1 (xBr K))))
theorem lb_10_0_1 : LbOk prog w kt c 49 48 49 48 false 1 (a + b) b a b := lb_of F (a := true) (fun ft => G.g111 c 49 48 (by decide) ft false) (wE1 K (rs := [2, 3, 4]) (fun c as ts ft t => R.r11101 S c (ppOf w as ts 49 48 49 48 ft) t) cl1 q.r.ps sB1 (.inl rfl) (xBr K))
theorem lb_10_0_2 : LbOk prog w kt c 49 48 49 48 false 2 (a + b) ((a + b) + b) a b := lb_of F (a := true) (fun ft => G.g111 c 49 48 (by decide) ft false) (wE0 K (rs := [3, 4]) (fun c as ts ft t => R.r11102 S c (ppOf w as ts 49 48 49 48 ft) t) cl2 q.r.l.ps sA1 (.inr (fA1 q)) (xE1 K (j := 1) (rs := [2, 3, 4]) (fun c as ts ft t => R.r11101 S c (ppOf w as ts 49 48 49 48 ft) t) cl1 q.r.ps sB1 (.inl rfl) (xBr K)))
theorem lb_10_0_3 : LbOk prog w kt c 49 48 49 48 false 3 ((a + b) + ((a + b) + b)) ((a + b) + b) a b := lb_of F (a := true) (fun ft => G.g111 c 49 48 (by decide) ft false) (wE1 K (rs := [4]) (fun c as ts ft t => R.r11103 S c (ppOf w as ts 49 48 49 48 ft) t) cl3 q.r.l.r.ps sB1 (.inr (fB1 q.r)) (xE0 K (j := 2) (rs := [3, 4]) (fun c as ts ft t => R.r11102 S c (ppOf w as ts 49 48 49 48 ft) t) cl2 q.r.l.ps sA1 (.inr (fA1 q)) (xE1 K (j := 1) (rs := [2, 3, 4]) (fun c as ts ft t => R.r11101 S c (ppOf w as ts 49 48 49 48 ft) t) cl1 q.r.ps sB1 (.inl rfl) (xBr K))))
theorem lb_10_0_4 : LbOk prog w kt c 49 48 49 48 false 4 ((a + b) + ((a + b) + b)) (((a + b) + ((a + b) + b)) + ((a + b) + b)) a b := lb_of F (a := true) (fun ft => G.g111 c 49 48 (by decide) ft false) (wE0 K (rs := []) (fun c as ts ft t => R.r11104 S c (ppOf w as ts 49 48 49 48 ft) t) cl4 q.r.l.r.l.ps sA1 (.inr (fA1 q.r.l)) (xE1 K (j := 3) (rs := [4]) (fun c as ts ft t => R.r11103 S c (ppOf w as ts 49 48 49 48 ft) t) cl3 q.r.l.r.ps sB1 (.inr (fB1 q.r)) (xE0 K (j := 2) (rs := [3, 4]) (fun c as ts ft t => R.r11102 S c (ppOf w as ts 49 48 49 48 ft) t) cl2 q.r.l.ps sA1 (.inr (fA1 q)) (xE1 K (j := 1) (rs := [2, 3, 4]) (fun c as ts ft t => R.r11101 S c (ppOf w as ts 49 48 49 48 ft) t) cl1 q.r.ps sB1 (.inl rfl) (xEn K)))))
theorem lb_10_1_1 : LbOk prog w kt c 49 48 49 48 true 1 (a + b) b a b := lb_of F (a := false) (fun ft => G.g111 c 49 48 (by decide) ft true) (wN1 K (fun c as ts ft t => R.r11111 S c (ppOf w as ts 49 48 49 48 ft) t) cl1 q.r.ps sB1)
theorem lb_10_1_2 : LbOk prog w kt c 49 48 49 48 true 2 (a + b) ((a + b) + b) a b := lb_of F (a := true) (fun ft => G.g111 c 49 48 (by decide) ft true) (wL0 K (I := 1) (rs := [2, 3]) (fun c as ts ft t => R.r11112 S c (ppOf w as ts 49 48 49 48 ft) t) cl2 q.r.l.ps sA1 (fA1 q) (xN1 K (fun c as ts ft t => R.r11111 S c (ppOf w as ts 49 48 49 48 ft) t) cl1 q.r.ps sB1 (xBr K)))
theorem lb_10_1_3 : LbOk prog w kt c 49 48 49 48 true 3 ((a + b) + ((a + b) + b)) ((a + b) + b) a b := lb_of F (a := true) (fun ft => G.g111 c 49 48 (by decide) ft true) (wL1 K (I := 2) (rs := [3]) (fun c as ts ft t => R.r11113 S c (ppOf w as ts 49 48 49 48 ft) t) cl3 q.r.l.r.ps sB1 (fB1 q.r) (xE0 K (j := 1) (rs := [2, 3]) (fun c as ts ft t => R.r11112 S c (ppOf w as ts 49 48 49 48 ft) t) cl2 q.r.l.ps sA1 (.inr (fA1 q)) (xN1 K (fun c as ts ft t => R.r11111 S c (ppOf w as ts 49 48 49 48 ft) t) cl1 q.r.ps sB1 (xBr K))))
theorem lb_10_1_4 : LbOk prog w kt c 49 48 49 48 true 4 ((a + b) + ((a + b) + b)) (((a + b) + ((a + b) + b)) + ((a + b) + b)) a b := lb_of F (a := true) (fun ft => G.g111 c 49 48 (by decide) ft true) (wL0 K (I := 3) (rs := []) (fun c as ts ft t => R.r11114 S c (ppOf w as ts 49 48 49 48 ft) t) cl4 q.r.l.r.l.ps sA1 (fA1 q.r.l) (xE1 K (j := 2) (rs := [3]) (fun c as ts ft t => R.r11113 S c (ppOf w as ts 49 48 49 48 ft) t) cl3 q.r.l.r.ps sB1 (.inr (fB1 q.r)) (xE0 K (j := 1) (rs := [2, 3]) (fun c as ts ft t => R.r11112 S c (ppOf w as ts 49 48 49 48 ft) t) cl2 q.r.l.ps sA1 (.inr (fA1 q)) (xN1 K (fun c as ts ft t => R.r11111 S c (ppOf w as ts 49 48 49 48 ft) t) cl1 q.r.ps sB1 (xEn K)))))
theorem lb_11_0_1 : LbOk prog w kt c 49 48 49 49 false 1 (a + b) b a b := lb_of F (a := true) (fun ft => G.g110 c 49 48 (by decide) ft false) (wE1 K (rs := [2, 4]) (fun c as ts ft t => R.r11001 S c (ppOf w as ts 49 48 49 49 ft) t) cl1 q.r.ps sB1 (.inl rfl) (xBr K))
theorem lb_11_0_2 : LbOk prog w kt c 49 48 49 49 false 2 (a + b) ((a + b) + b) a b := lb_of F (a := true) (fun ft => G.g110 c 49 48 (by decide) ft false) (wE0 K (rs := [4]) (fun c as ts ft t => R.r11002 S c (ppOf w as ts 49 48 49 49 ft) t) cl2 q.r.l.ps sA1 (.inr (fA1 q)) (xE1 K (j := 1) (rs := [2, 4]) (fun c as ts ft t => R.r11001 S c (ppOf w as ts 49 48 49 49 ft) t) cl1 q.r.ps sB1 (.inl rfl) (xBr K)))
theorem lb_11_0_3 : LbOk prog w kt c 49 48 49 49 false 3 ((a + b) + ((a + b) + b)) ((a + b) + b) a b := lb_of F (a := true) (fun ft => G.g110 c 49 48 (by decide) ft false) (wL1 K (I := 1) (rs := [4]) (fun c as ts ft t => R.r11003 S c (ppOf w as ts 49 48 49 49 ft) t) cl3 q.r.l.r.ps sB1 (fB1 q.r) (xE0 K (j := 2) (rs := [4]) (fun c as ts ft t => R.r11002 S c (ppOf w as ts 49 48 49 49 ft) t) cl2 q.r.l.ps sA1 (.inr (fA1 q)) (xE1 K (j := 1) (rs := [2, 4]) (fun c as ts ft t => R.r11001 S c (ppOf w as ts 49 48 49 49 ft) t) cl1 q.r.ps sB1 (.inl rfl) (xBr K))))
theorem lb_11_0_4 : LbOk prog w kt c 49 48 49 49 false 4 (((a + b) + ((a + b) + b)) + ((a + b) + b)) ((a + b) + b) a b := lb_of F (a := true) (fun ft => G.g110 c 49 48 (by decide) ft false) (wE1 K (rs := []) (fun c as ts ft t => R.r11004 S c (ppOf w as ts 49 48 49 49 ft) t) cl4 q.r.l.r.r.ps sB2 (.inr (fB2 q.r)) (xE0 K (j := 2) (rs := [4]) (fun c as ts ft t => R.r11002 S c (ppOf w as ts 49 48 49 49 ft) t) cl2 q.r.l.ps sA1 (.inr (fA1 q)) (xE1 K (j := 1) (rs := [2, 4]) (fun c as ts ft t => R.r11001 S c (ppOf w as ts 49 48 49 49 ft) t) cl1 q.r.ps sB1 (.inl rfl) (xBr K))))
theorem lb_11_1_1 : LbOk prog w kt c 49 48 49 49 true 1 (a + b) b a b := lb_of F (a := false) (fun ft => G.g110 c 49 48 (by decide) ft true) (wN1 K (fun c as ts ft t => R.r11011 S c (ppOf w as ts 49 48 49 49 ft) t) cl1 q.r.ps sB1)
theorem lb_11_1_2 : LbOk prog w kt c 49 48 49 49 true 2 (a + b) ((a + b) + b) a b := lb_of F (a := true) (fun ft => G.g110 c 49 48 (by decide) ft true) (wL0 K (I := 1) (rs := [2]) (fun c as ts ft t => R.r11012 S c (ppOf w as ts 49 48 49 49 ft) t) cl2 q.r.l.ps sA1 (fA1 q) (xN1 K (fun c as ts ft t => R.r11011 S c (ppOf w as ts 49 48 49 49 ft) t) cl1 q.r.ps sB1 (xBr K)))
theorem lb_11_1_3 : LbOk prog w kt c 49 48 49 49 true 3 ((a + b) + ((a + b) + b)) ((a + b) + b) a b := lb_of F (a := true) (fun ft => G.g110 c 49 48 (by decide) ft true) (wL1 K (I := 2) (rs := []) (fun c as ts ft t => R.r11013 S c (ppOf w as ts 49 48 49 49 ft) t) cl3 q.r.l.r.ps sB1 (fB1 q.r) (xE0 K (j := 1) (rs := [2]) (fun c as ts ft t => R.r11012 S c (ppOf w as ts 49 48 49 49 ft) t) cl2 q.r.l.ps sA1 (.inr (fA1 q)) (xN1 K (fun c as ts ft t => R.r11011 S c (ppOf w as ts 49 48 49 49 ft) t) cl1 q.r.ps sB1 (xBr K))))
theorem lb_11_1_4 : LbOk prog w kt c 49 48 49 49 true 4 (((a + b) + ((a + b) + b)) + ((a + b) + b)) ((a + b) + b) a b := lb_of F (a := true) (fun ft => G.g110 c 49 48 (by decide) ft true) (wL1 K (I := 2) (rs := []) (fun c as ts ft t => R.r11014 S c (ppOf w as ts 49 48 49 49 ft) t) cl4 q.r.l.r.r.ps sB2 (fB2 q.r) (xE0 K (j := 1) (rs := [2]) (fun c as ts ft t => R.r11012 S c (ppOf w as ts 49 48 49 49 ft) t) cl2 q.r.l.ps sA1 (.inr (fA1 q)) (xN1 K (fun c as ts ft t => R.r11011 S c (ppOf w as ts 49 48 49 49 ft) t) cl1 q.r.ps sB1 (xBr K))))
theorem lb_12_0_1 : LbOk prog w kt c 49 49 48 48 false 1 (a + b) b a b := lb_of F (a := false) (fun ft => G.g010 c 49 48 (by decide) ft false) (wN1 K (fun c as ts ft t => R.r01001 S c (ppOf w as ts 49 49 48 48 ft) t) cl1 q.r.ps sB1)
theorem lb_12_0_2 : LbOk prog w kt c 49 49 48 48 false 2 ((a + b) + b) b a b := lb_of F (a := true) (fun ft => G.g010 c 49 48 (by decide) ft false) (wE1 K (rs := [4]) (fun c as ts ft t => R.r01002 S c (ppOf w as ts 49 49 48 48 ft) t) cl2 q.r.r.ps sB2 (.inl rfl) (xBr K))
theorem lb_12_0_3 : LbOk prog w kt c 49 49 48 48 false 3 ((a + b) + b) (((a + b) + b) + b) a b := lb_of F (a := true) (fun ft => G.g010 c 49 48 (by decide) ft false) (wL0 K (I := 0) (rs := [4]) (fun c as ts ft t => R.r01003 S c (ppOf w as ts 49 49 48 48 ft) t) cl3 q.r.r.l.ps sA1 (fA1 q.r) (xE1 K (j := 2) (rs := [4]) (fun c as ts ft t => R.r01002 S c (ppOf w as ts 49 49 48 48 ft) t) cl2 q.r.r.ps sB2 (.inl rfl) (xBr K)))
theorem lb_12_0_4 : LbOk prog w kt c 49 49 48 48 false 4 ((a + b) + b) (((a + b) + b) + (((a + b) + b) + b)) a b := lb_of F (a := true) (fun ft => G.g010 c 49 48 (by decide) ft false) (wE0 K (rs := []) (fun c as ts ft t => R.r01004 S c (ppOf w as ts 49 49 48 48 ft) t) cl4 q.r.r.l.l.ps sA2 (.inr (fA2 q.r)) (xE1 K (j := 2) (rs := [4]) (fun c as ts ft t => R.r01002 S c (ppOf w as ts 49 49 48 48 ft) t) cl2 q.r.r.ps sB2 (.inl rfl) (xBr K)))
theorem lb_12_1_1 : LbOk prog w kt c 49 49 48 48 true 1 (a + b) b a b := lb_of F (a := false) (fun ft => G.g010 c 49 48 (by decide) ft true) (wN1 K (fun c as ts ft t => R.r01011 S c (ppOf w as ts 49 49 48 48 ft) t) cl1 q.r.ps sB1)
theorem lb_12_1_2 : LbOk prog w kt c 49 49 48 48 true 2 ((a + b) + b) b a b := lb_of F (a := false) (fun ft => G.g010 c 49 48 (by decide) ft true) (wN1 K (fun c as ts ft t => R.r01012 S c (ppOf w as ts 49 49 48 48 ft) t) cl2 q.r.r.ps sB2)
theorem lb_12_1_3 : LbOk prog w kt c 49 49 48 48 true 3 ((a + b) + b) (((a + b) + b) + b) a b := lb_of F (a := true) (fun ft => G.g010 c 49 48 (by decide) ft true) (wL0 K (I := 2) (rs := []) (fun c as ts ft t => R.r01013 S c (ppOf w as ts 49 49 48 48 ft) t) cl3 q.r.r.l.ps sA1 (fA1 q.r) (xN1 K (fun c as ts ft t => R.r01012 S c (ppOf w as ts 49 49 48 48 ft) t) cl2 q.r.r.ps sB2 (xBr K)))
theorem lb_12_1_4 : LbOk prog w kt c 49 49 48 48 true 4 ((a + b) + b) (((a + b) + b) + (((a + b) + b) + b)) a b := lb_of F (a := true) (fun ft => G.g010 c 49 48 (by decide) ft true) (wL0 K (I := 2) (rs := []) (fun c as ts ft t => R.r01014 S c (ppOf w as ts 49 49 48 48 ft) t) cl4 q.r.r.l.l.ps sA2 (fA2 q.r) (xN1 K (fun c as ts ft t => R.r01012 S c (ppOf w as ts 49 49 48 48 ft) t) cl2 q.r.r.ps sB2 (xBr K)))
theorem lb_13_0_1 : LbOk prog w kt c 49 49 48 49 false 1 (a + b) b a b := lb_of F (a := false) (fun ft => G.g011 c 49 48 (by decide) ft false) (wN1 K (fun c as ts ft t => R.r01101 S c (ppOf w as ts 49 49 48 49 ft) t) cl1 q.r.ps sB1)
theorem lb_13_0_2 : LbOk prog w kt c 49 49 48 49 false 2 ((a + b) + b) b a b := lb_of F (a := true) (fun ft => G.g011 c 49 48 (by decide) ft false) (wE1 K (rs := [3, 4]) (fun c as ts ft t => R.r01102 S c (ppOf w as ts 49 49 48 49 ft) t) cl2 q.r.r.ps sB2 (.inl rfl) (xBr K))
theorem lb_13_0_3 : LbOk prog w kt c 49 49 48 49 false 3 ((a + b) + b) (((a + b) + b) + b) a b := lb_of F (a := true) (fun ft => G.g011 c 49 48 (by decide) ft false) (wE0 K (rs := [4]) (fun c as ts ft t => R.r01103 S c (ppOf w as ts 49 49 48 49 ft) t) cl3 q.r.r.l.ps sA1 (.inr (fA1 q.r)) (xE1 K (j := 2) (rs := [3, 4]) (fun c as ts ft t => R.r01102 S c (ppOf w as ts 49 49 48 49 ft) t) cl2 q.r.r.ps sB2 (.inl rfl) (xBr K)))
theorem lb_13_0_4 : LbOk prog w kt c 49 49 48 49 false 4 (((a + b) + b) + (((a + b) + b) + b)) (((a + b) + b) + b) a b := lb_of F (a := true) (fun ft => G.g011 c 49 48 (by decide) ft false) (wE1 K (rs := []) (fun c as ts ft t => R.r01104 S c (ppOf w as ts 49 49 48 49 ft) t) cl4 q.r.r.l.r.ps sB1 (.inr (fB1 q.r.r)) (xE0 K (j := 3) (rs := [4]) (fun c as ts ft t => R.r01103 S c (ppOf w as ts 49 49 48 49 ft) t) cl3 q.r.r.l.ps sA1 (.inr (fA1 q.r)) (xE1 K (j := 2) (rs := [3, 4]) (fun c as ts ft t => R.r01102 S c (ppOf w as ts 49 49 48 49 ft) t) cl2 q.r.r.ps sB2 (.inl rfl) (xBr K))))
theorem lb_13_1_1 : LbOk prog w kt c 49 49 48 49 true 1 (a + b) b a b := lb_of F (a := false) (fun ft => G.g011 c 49 48 (by decide) ft true) (wN1 K (fun c as ts ft t => R.r01111 S c (ppOf w as ts 49 49 48 49 ft) t) cl1 q.r.ps sB1)
theorem lb_13_1_2 : LbOk prog w kt c 49 49 48 49 true 2 ((a + b) + b) b a b := lb_of F (a := false) (fun ft => G.g011 c 49 48 (by decide) ft true) (wN1 K (fun c as ts ft t => R.r01112 S c (ppOf w as ts 49 49 48 49 ft) t) cl2 q.r.r.ps sB2)
theorem lb_13_1_3 : LbOk prog w kt c 49 49 48 49 true 3 ((a + b) + b) (((a + b) + b) + b) a b := lb_of F (a := true) (fun ft => G.g011 c 49 48 (by decide) ft true) (wL0 K (I := 2) (rs := [3]) (fun c as ts ft t => R.r01113 S c (ppOf w as ts 49 49 48 49 ft) t) cl3 q.r.r.l.ps sA1 (fA1 q.r) (xN1 K (fun c as ts ft t => R.r01112 S c (ppOf w as ts 49 49 48 49 ft) t) cl2 q.r.r.ps sB2 (xBr K)))
theorem lb_13_1_4 : LbOk prog w kt c 49 49 48 49 true 4 (((a + b) + b) + (((a + b) + b) + b)) (((a + b) + b) + b) a b := lb_of F (a := true) (fun ft => G.g011 c 49 48 (by decide) ft true) (wL1 K (I := 3) (rs := []) (fun c as ts ft t => R.r01114 S c (ppOf w as ts 49 49 48 49 ft) t) cl4 q.r.r.l.r.ps sB1 (fB1 q.r.r) (xE0 K (j := 2) (rs := [3]) (fun c as ts ft t => R.r01113 S c (ppOf w as ts 49 49 48 49 ft) t) cl3 q.r.r.l.ps sA1 (.inr (fA1 q.r)) (xN1 K (fun c as ts ft t => R.r01112 S c (ppOf w as ts 49 49 48 49 ft) t) cl2 q.r.r.ps sB2 (xBr K))))
theorem lb_14_0_1 : LbOk prog w kt c 49 49 49 48 false 1 (a + b) b a b := lb_of F (a := false) (fun ft => G.g001 c 49 48 (by decide) ft false) (wN1 K (fun c as ts ft t => R.r00101 S c (ppOf w as ts 49 49 49 48 ft) t) cl1 q.r.ps sB1)
theorem lb_14_0_2 : LbOk prog w kt c 49 49 49 48 false 2 ((a + b) + b) b a b := lb_of F (a := false) (fun ft => G.g001 c 49 48 (by decide) ft false) (wN1 K (fun c as ts ft t => R.r00102 S c (ppOf w as ts 49 49 49 48 ft) t) cl2 q.r.r.ps sB2)
theorem lb_14_0_3 : LbOk prog w kt c 49 49 49 48 false 3 (((a + b) + b) + b) b a b := lb_of F (a := true) (fun ft => G.g001 c 49 48 (by decide) ft false) (wE1 K (rs := [4]) (fun c as ts ft t => R.r00103 S c (ppOf w as ts 49 49 49 48 ft) t) cl3 q.r.r.r.ps sB3 (.inl rfl) (xBr K))
theorem lb_14_0_4 : LbOk prog w kt c 49 49 49 48 false 4 (((a + b) + b) + b) ((((a + b) + b) + b) + b) a b := lb_of F (a := true) (fun ft => G.g001 c 49 48 (by decide) ft false) (wE0 K (rs := []) (fun c as ts ft t => R.r00104 S c (ppOf w as ts 49 49 49 48 ft) t) cl4 q.r.r.r.l.ps sA1 (.inr (fA1 q.r.r)) (xE1 K (j := 3) (rs := [4]) (fun c as ts ft t => R.r00103 S c (ppOf w as ts 49 49 49 48 ft) t) cl3 q.r.r.r.ps sB3 (.inl rfl) (xBr K)))
theorem lb_14_1_1 : LbOk prog w kt c 49 49 49 48 true 1 (a + b) b a b := lb_of F (a := false) (fun ft => G.g001 c 49 48 (by decide) ft true) (wN1 K (fun c as ts ft t => R.r00111 S c (ppOf w as ts 49 49 49 48 ft) t) cl1 q.r.ps sB1)
theorem lb_14_1_2 : LbOk prog w kt c 49 49 49 48 true 2 ((a + b) + b) b a b := lb_of F (a := false) (fun ft => G.g001 c 49 48 (by decide) ft true) (wN1 K (fun c as ts ft t => R.r00112 S c (ppOf w as ts 49 49 49 48 ft) t) cl2 q.r.r.ps sB2)
theorem lb_14_1_3 : LbOk prog w kt c 49 49 49 48 true 3 (((a + b) + b) + b) b a b := lb_of F (a := false) (fun ft => G.g001 c 49 48 (by decide) ft true) (wN1 K (fun c as ts ft t => R.r00113 S c (ppOf w as ts 49 49 49 48 ft) t) cl3 q.r.r.r.ps sB3)
theorem lb_14_1_4 : LbOk prog w kt c 49 49 49 48 true 4 (((a + b) + b) + b) ((((a + b) + b) + b) + b) a b := lb_of F (a := true) (fun ft => G.g001 c 49 48 (by decide) ft true) (wL0 K (I := 3) (rs := []) (fun c as ts ft t => R.r00114 S c (ppOf w as ts 49 49 49 48 ft) t) cl4 q.r.r.r.l.ps sA1 (fA1 q.r.r) (xN1 K (fun c as ts ft t => R.r00113 S c (ppOf w as ts 49 49 49 48 ft) t) cl3 q.r.r.r.ps sB3 (xBr K)))
theorem lb_15_0_1 : LbOk prog w kt c 49 49 49 49 false 1 (a + b) b a b := lb_of F (a := false) (fun ft => G.g000 c 49 48 (by decide) ft false) (wN1 K (fun c as ts ft t => R.r00001 S c (ppOf w as ts 49 49 49 49 ft) t) cl1 q.r.ps sB1)
theorem lb_15_0_2 : LbOk prog w kt c 49 49 49 49 false 2 ((a + b) + b) b a b := lb_of F (a := false) (fun ft => G.g000 c 49 48 (by decide) ft false) (wN1 K (fun c as ts ft t => R.r00002 S c (ppOf w as ts 49 49 49 49 ft) t) cl2 q.r.r.ps sB2)
theorem lb_15_0_3 : LbOk prog w kt c 49 49 49 49 false 3 (((a + b) + b) + b) b a b := lb_of F (a := false) (fun ft => G.g000 c 49 48 (by decide) ft false) (wN1 K (fun c as ts ft t => R.r00003 S c (ppOf w as ts 49 49 49 49 ft) t) cl3 q.r.r.r.ps sB3)
theorem lb_15_0_4 : LbOk prog w kt c 49 49 49 49 false 4 ((((a + b) + b) + b) + b) b a b := lb_of F (a := true) (fun ft => G.g000 c 49 48 (by decide) ft false) (wE1 K (rs := []) (fun c as ts ft t => R.r00004 S c (ppOf w as ts 49 49 49 49 ft) t) cl4 q.r.r.r.r.ps sB4 (.inl rfl) (xBr K))
theorem lb_15_1_1 : LbOk prog w kt c 49 49 49 49 true 1 (a + b) b a b := lb_of F (a := false) (fun ft => G.g000 c 49 48 (by decide) ft true) (wN1 K (fun c as ts ft t => R.r00011 S c (ppOf w as ts 49 49 49 49 ft) t) cl1 q.r.ps sB1)
theorem lb_15_1_2 : LbOk prog w kt c 49 49 49 49 true 2 ((a + b) + b) b a b := lb_of F (a := false) (fun ft => G.g000 c 49 48 (by decide) ft true) (wN1 K (fun c as ts ft t => R.r00012 S c (ppOf w as ts 49 49 49 49 ft) t) cl2 q.r.r.ps sB2)
theorem lb_15_1_3 : LbOk prog w kt c 49 49 49 49 true 3 (((a + b) + b) + b) b a b := lb_of F (a := false) (fun ft => G.g000 c 49 48 (by decide) ft true) (wN1 K (fun c as ts ft t => R.r00013 S c (ppOf w as ts 49 49 49 49 ft) t) cl3 q.r.r.r.ps sB3)
theorem lb_15_1_4 : LbOk prog w kt c 49 49 49 49 true 4 ((((a + b) + b) + b) + b) b a b := lb_of F (a := false) (fun ft => G.g000 c 49 48 (by decide) ft true) (wN1 K (fun c as ts ft t => R.r00014 S c (ppOf w as ts 49 49 49 49 ft) t) cl4 q.r.r.r.r.ps sB4)
end
end
section
open PySem PySem.Spec PySem.Calls PyProof.Rows PySem.W PySem.W.X
noncomputable def BLc (prog : Program) (w : World) (kt : KT) (c0 c1 c2 c3 : Nat) (ks : List Int) (x y A B : Int) (a : Bool) : Prop :=
  ∃ r : BR, r.x = A ∧ r.y = B ∧ r.a = a ∧ ∀ c as ts ft q t, BLOkc prog w kt c (ppOf w as ts c0 c1 c2 c3 ft) (cutV ks (ppOf w as ts c0 c1 c2 c3 ft).kt 0) q x y t r
section
variable {prog : Program} {w : World} {kt : KT}
theorem mul_one {y : Int} : IntMulOk 1 y := .of_left (by decide)
theorem lbc_of (F : RunsCF prog w kt) {c0 c1 c2 c3 : Nat} {ks : List Int} {x y A B : Int} {a : Bool} (Hp : ∀ ft, PgcOk prog w kt c0 c1 c2 c3 ft ks) (H0 : BLc prog w kt c0 c1 c2 c3 ks x y A B a) : LbcOk prog w kt c0 c1 c2 c3 x y A B := by
  intro ft ct pa xt yt ro at_ bt
  obtain ⟨r, h1, h2, h3, h4⟩ := H0
  obtain ⟨rc, rx, ry, rs, rbg, re, rrn, rqn, ri, rl, ra, rh⟩ := r
  dsimp only at h1 h2 h3
  subst h3
  cases ra with
  | true => exact F.f1c c0 c1 c2 c3 ft ks x y A B ct pa xt yt ro at_ bt (Hp ft) rc rx ry rs rbg re rrn rqn ri rl rh h1 h2 (fun as ts fr it j => h4 _ as ts ft ⟨fr, it, pa, ro, bfF w j, 8⟩ (nthN [ct, xt, yt]))
  | false => exact F.f0c c0 c1 c2 c3 ft ks x y A B ct pa xt yt ro at_ bt (Hp ft) rc rx ry rs rbg re rrn rqn ri rl rh h1 h2 (fun as ts fr it j => h4 _ as ts ft ⟨fr, it, pa, ro, bfF w j, 8⟩ (nthN [ct, xt, yt]))
variable (K : RunsK prog w kt) (Z : RunsCK prog w kt) {c0 c1 c2 c3 : Nat} {ks : List Int} {A B : Int}
include K Z
theorem blc_N0 {x y : Int} (S : ∀ c as ts ft, SrcNone prog w kt c (ppOf w as ts c0 c1 c2 c3 ft) (cutV ks (ppOf w as ts c0 c1 c2 c3 ft).kt 0)) (hc : (seqIndex? 0 4).bind ((⟨#[c0, c1, c2, c3]⟩ : Str).cps[·]?) = some 48) (hP : Ps x y) (hA : x = A) (hB : (y - 1 * x) = B) : BLc prog w kt c0 c1 c2 c3 ks x y A B false := by
  refine ⟨⟨0, x, (y - 1 * x), 0 + 1, 0, 0, 1, Int.fdiv y x, 0 + 1 + 1, 4 - 1 - 1, false, false⟩, hA, hB, rfl, fun c as ts ft q t => ?_⟩
  exact Z.zN0 c (ppOf w as ts c0 c1 c2 c3 ft) (cutV ks (ppOf w as ts c0 c1 c2 c3 ft).kt 0) q _ x y t hc hP.hx hP.hy hP.d1 hP.d2 mul_one (S c as ts ft) (fun lc tl jj t => K.kk0 (wc1 c lc tl) (ppOf w as ts c0 c1 c2 c3 ft) false (cutV ks (ppOf w as ts c0 c1 c2 c3 ft).kt 0) (qx w q jj) x (y - 1 * x) t 0 0 false 0 0 1 (Int.fdiv y x) (0 + 1) (4 - 1) (by decide))
theorem blc_E0 {x y : Int} {rs : List Int} (S : ∀ c as ts ft, SrcHit prog w kt c (ppOf w as ts c0 c1 c2 c3 ft) (cutV ks (ppOf w as ts c0 c1 c2 c3 ft).kt 0) 0 1 rs) (hc : (seqIndex? 0 4).bind ((⟨#[c0, c1, c2, c3]⟩ : Str).cps[·]?) = some 48) (hP : Ps x y) (hA : x = A) (hB : (y - 1 * x) = B) : BLc prog w kt c0 c1 c2 c3 ks x y A B true := by
  refine ⟨⟨0, x, (y - 1 * x), 0 + 1, 0, 1, 1, Int.fdiv y x, 0 + 1 + 1, 4 - 1 - 1, true, true⟩, hA, hB, rfl, fun c as ts ft q t => ?_⟩
  exact Z.zE0 c (ppOf w as ts c0 c1 c2 c3 ft) (cutV ks (ppOf w as ts c0 c1 c2 c3 ft).kt 0) q _ x y t hc hP.hx hP.hy hP.d1 hP.d2 mul_one rs (S c as ts ft) (fun lc tl jj t a => K.kk1 (wc1 c lc tl) (ppOf w as ts c0 c1 c2 c3 ft) false (cutV ks (ppOf w as ts c0 c1 c2 c3 ft).kt 0) (qx w q jj) x (y - 1 * x) t 0 0 true a 1 1 (Int.fdiv y x) (0 + 1) (4 - 1) (by decide))
theorem blc_N1 {x y : Int} (S : ∀ c as ts ft, SrcNone prog w kt c (ppOf w as ts c0 c1 c2 c3 ft) (cutV ks (ppOf w as ts c0 c1 c2 c3 ft).kt 0)) (hc : (seqIndex? 0 4).bind ((⟨#[c0, c1, c2, c3]⟩ : Str).cps[·]?) = some 49) (hP : Ps x y) (hA : (x - 1 * y) = A) (hB : y = B) : BLc prog w kt c0 c1 c2 c3 ks x y A B false := by
  refine ⟨⟨0, (x - 1 * y), y, 0 + 1, 0, 0, 1, Int.fdiv x y, 0 + 1 + 1, 4 - 1 - 1, false, false⟩, hA, hB, rfl, fun c as ts ft q t => ?_⟩
  exact Z.zN1 c (ppOf w as ts c0 c1 c2 c3 ft) (cutV ks (ppOf w as ts c0 c1 c2 c3 ft).kt 0) q _ x y t hc hP.hx hP.hy hP.d1 hP.d2 mul_one (S c as ts ft) (fun lc tl jj t => K.kk0 (wc1 c lc tl) (ppOf w as ts c0 c1 c2 c3 ft) false (cutV ks (ppOf w as ts c0 c1 c2 c3 ft).kt 0) (qx w q jj) (x - 1 * y) y t 0 0 false 0 0 1 (Int.fdiv x y) (0 + 1) (4 - 1) (by decide))
theorem blc_E1 {x y : Int} {rs : List Int} (S : ∀ c as ts ft, SrcHit prog w kt c (ppOf w as ts c0 c1 c2 c3 ft) (cutV ks (ppOf w as ts c0 c1 c2 c3 ft).kt 0) 0 1 rs) (hc : (seqIndex? 0 4).bind ((⟨#[c0, c1, c2, c3]⟩ : Str).cps[·]?) = some 49) (hP : Ps x y) (hA : (x - 1 * y) = A) (hB : y = B) : BLc prog w kt c0 c1 c2 c3 ks x y A B true := by
  refine ⟨⟨0, (x - 1 * y), y, 0 + 1, 0, 1, 1, Int.fdiv x y, 0 + 1 + 1, 4 - 1 - 1, true, true⟩, hA, hB, rfl, fun c as ts ft q t => ?_⟩
  exact Z.zE1 c (ppOf w as ts c0 c1 c2 c3 ft) (cutV ks (ppOf w as ts c0 c1 c2 c3 ft).kt 0) q _ x y t hc hP.hx hP.hy hP.d1 hP.d2 mul_one rs (S c as ts ft) (fun lc tl jj t a => K.kk1 (wc1 c lc tl) (ppOf w as ts c0 c1 c2 c3 ft) false (cutV ks (ppOf w as ts c0 c1 c2 c3 ft).kt 0) (qx w q jj) (x - 1 * y) y t 0 0 true a 1 1 (Int.fdiv x y) (0 + 1) (4 - 1) (by decide))
variable (C : RunsC prog w kt) (F : RunsCF prog w kt)
include C F
theorem lbc_0 {a b : Int} (ha : 0 < a) (hb : 0 < b) (ha1 : a ≤ 1000) (hb1 : b ≤ 1000) : LbcOk prog w kt 48 48 48 48 a (a + b) a b :=
  lbc_of F (a := false) (fun ft => C.h000 48 49 (by decide) ft) (blc_N0 K Z (fun c as ts ft t => C.o000 c (ppOf w as ts 48 48 48 48 ft) t) (by rfl) ⟨by omega, by omega, by omega, by omega⟩ (by omega) (by omega))
theorem lbc_1 {a b : Int} (ha : 0 < a) (hb : 0 < b) (ha1 : a ≤ 1000) (hb1 : b ≤ 1000) : LbcOk prog w kt 48 48 48 49 a (a + b) a b :=
  lbc_of F (a := false) (fun ft => C.h001 48 49 (by decide) ft) (blc_N0 K Z (fun c as ts ft t => C.o001 c (ppOf w as ts 48 48 48 49 ft) t) (by rfl) ⟨by omega, by omega, by omega, by omega⟩ (by omega) (by omega))
theorem lbc_2 {a b : Int} (ha : 0 < a) (hb : 0 < b) (ha1 : a ≤ 1000) (hb1 : b ≤ 1000) : LbcOk prog w kt 48 48 49 48 a (a + b) a b :=
  lbc_of F (a := false) (fun ft => C.h011 48 49 (by decide) ft) (blc_N0 K Z (fun c as ts ft t => C.o011 c (ppOf w as ts 48 48 49 48 ft) t) (by rfl) ⟨by omega, by omega, by omega, by omega⟩ (by omega) (by omega))
theorem lbc_3 {a b : Int} (ha : 0 < a) (hb : 0 < b) (ha1 : a ≤ 1000) (hb1 : b ≤ 1000) : LbcOk prog w kt 48 48 49 49 a (a + b) a b :=
  lbc_of F (a := false) (fun ft => C.h010 48 49 (by decide) ft) (blc_N0 K Z (fun c as ts ft t => C.o010 c (ppOf w as ts 48 48 49 49 ft) t) (by rfl) ⟨by omega, by omega, by omega, by omega⟩ (by omega) (by omega))
theorem lbc_4 {a b : Int} (ha : 0 < a) (hb : 0 < b) (ha1 : a ≤ 1000) (hb1 : b ≤ 1000) : LbcOk prog w kt 48 49 48 48 a (a + b) a b :=
  lbc_of F (a := true) (fun ft => C.h110 48 49 (by decide) ft) (blc_E0 K Z (rs := [2, 4]) (fun c as ts ft t => C.o110 c (ppOf w as ts 48 49 48 48 ft) t) (by rfl) ⟨by omega, by omega, by omega, by omega⟩ (by omega) (by omega))
theorem lbc_5 {a b : Int} (ha : 0 < a) (hb : 0 < b) (ha1 : a ≤ 1000) (hb1 : b ≤ 1000) : LbcOk prog w kt 48 49 48 49 a (a + b) a b :=
  lbc_of F (a := true) (fun ft => C.h111 48 49 (by decide) ft) (blc_E0 K Z (rs := [2, 3, 4]) (fun c as ts ft t => C.o111 c (ppOf w as ts 48 49 48 49 ft) t) (by rfl) ⟨by omega, by omega, by omega, by omega⟩ (by omega) (by omega))
theorem lbc_6 {a b : Int} (ha : 0 < a) (hb : 0 < b) (ha1 : a ≤ 1000) (hb1 : b ≤ 1000) : LbcOk prog w kt 48 49 49 48 a (a + b) a b :=
  lbc_of F (a := true) (fun ft => C.h101 48 49 (by decide) ft) (blc_E0 K Z (rs := [3, 4]) (fun c as ts ft t => C.o101 c (ppOf w as ts 48 49 49 48 ft) t) (by rfl) ⟨by omega, by omega, by omega, by omega⟩ (by omega) (by omega))
theorem lbc_7 {a b : Int} (ha : 0 < a) (hb : 0 < b) (ha1 : a ≤ 1000) (hb1 : b ≤ 1000) : LbcOk prog w kt 48 49 49 49 a (a + b) a b :=
  lbc_of F (a := true) (fun ft => C.h100 48 49 (by decide) ft) (blc_E0 K Z (rs := [4]) (fun c as ts ft t => C.o100 c (ppOf w as ts 48 49 49 49 ft) t) (by rfl) ⟨by omega, by omega, by omega, by omega⟩ (by omega) (by omega))
theorem lbc_8 {a b : Int} (ha : 0 < a) (hb : 0 < b) (ha1 : a ≤ 1000) (hb1 : b ≤ 1000) : LbcOk prog w kt 49 48 48 48 (a + b) b a b :=
  lbc_of F (a := true) (fun ft => C.h100 49 48 (by decide) ft) (blc_E1 K Z (rs := [4]) (fun c as ts ft t => C.o100 c (ppOf w as ts 49 48 48 48 ft) t) (by rfl) ⟨by omega, by omega, by omega, by omega⟩ (by omega) (by omega))
theorem lbc_9 {a b : Int} (ha : 0 < a) (hb : 0 < b) (ha1 : a ≤ 1000) (hb1 : b ≤ 1000) : LbcOk prog w kt 49 48 48 49 (a + b) b a b :=
  lbc_of F (a := true) (fun ft => C.h101 49 48 (by decide) ft) (blc_E1 K Z (rs := [3, 4]) (fun c as ts ft t => C.o101 c (ppOf w as ts 49 48 48 49 ft) t) (by rfl) ⟨by omega, by omega, by omega, by omega⟩ (by omega) (by omega))
theorem lbc_10 {a b : Int} (ha : 0 < a) (hb : 0 < b) (ha1 : a ≤ 1000) (hb1 : b ≤ 1000) : LbcOk prog w kt 49 48 49 48 (a + b) b a b :=
  lbc_of F (a := true) (fun ft => C.h111 49 48 (by decide) ft) (blc_E1 K Z (rs := [2, 3, 4]) (fun c as ts ft t => C.o111 c (ppOf w as ts 49 48 49 48 ft) t) (by rfl) ⟨by omega, by omega, by omega, by omega⟩ (by omega) (by omega))
theorem lbc_11 {a b : Int} (ha : 0 < a) (hb : 0 < b) (ha1 : a ≤ 1000) (hb1 : b ≤ 1000) : LbcOk prog w kt 49 48 49 49 (a + b) b a b :=
  lbc_of F (a := true) (fun ft => C.h110 49 48 (by decide) ft) (blc_E1 K Z (rs := [2, 4]) (fun c as ts ft t => C.o110 c (ppOf w as ts 49 48 49 49 ft) t) (by rfl) ⟨by omega, by omega, by omega, by omega⟩ (by omega) (by omega))
theorem lbc_12 {a b : Int} (ha : 0 < a) (hb : 0 < b) (ha1 : a ≤ 1000) (hb1 : b ≤ 1000) : LbcOk prog w kt 49 49 48 48 (a + b) b a b :=
  lbc_of F (a := false) (fun ft => C.h010 49 48 (by decide) ft) (blc_N1 K Z (fun c as ts ft t => C.o010 c (ppOf w as ts 49 49 48 48 ft) t) (by rfl) ⟨by omega, by omega, by omega, by omega⟩ (by omega) (by omega))
theorem lbc_13 {a b : Int} (ha : 0 < a) (hb : 0 < b) (ha1 : a ≤ 1000) (hb1 : b ≤ 1000) : LbcOk prog w kt 49 49 48 49 (a + b) b a b :=
  lbc_of F (a := false) (fun ft => C.h011 49 48 (by decide) ft) (blc_N1 K Z (fun c as ts ft t => C.o011 c (ppOf w as ts 49 49 48 49 ft) t) (by rfl) ⟨by omega, by omega, by omega, by omega⟩ (by omega) (by omega))
theorem lbc_14 {a b : Int} (ha : 0 < a) (hb : 0 < b) (ha1 : a ≤ 1000) (hb1 : b ≤ 1000) : LbcOk prog w kt 49 49 49 48 (a + b) b a b :=
  lbc_of F (a := false) (fun ft => C.h001 49 48 (by decide) ft) (blc_N1 K Z (fun c as ts ft t => C.o001 c (ppOf w as ts 49 49 49 48 ft) t) (by rfl) ⟨by omega, by omega, by omega, by omega⟩ (by omega) (by omega))
theorem lbc_15 {a b : Int} (ha : 0 < a) (hb : 0 < b) (ha1 : a ≤ 1000) (hb1 : b ≤ 1000) : LbcOk prog w kt 49 49 49 49 (a + b) b a b :=
  lbc_of F (a := false) (fun ft => C.h000 49 48 (by decide) ft) (blc_N1 K Z (fun c as ts ft t => C.o000 c (ppOf w as ts 49 49 49 49 ft) t) (by rfl) ⟨by omega, by omega, by omega, by omega⟩ (by omega) (by omega))
end
end
section
open PySem PySem.Spec PySem.Calls PyProof.Rows PySem.W PySem.W.X
section
variable {prog : Program} {w : World} {kt : KT}
theorem treeOk (X7 : RunsGlc prog w kt) (X8 : RunsTree prog w kt) {word : Str} {a b : Int} (ha : 0 ≤ a) (hb : 0 ≤ b) (ha1 : a ≤ 1000) (hb1 : b ≤ 1000) (H0 : Wd word a b)
    (W : ∀ x y : Int, 0 ≤ x → x < 10 ^ 10 → 0 ≤ y → y < 10 ^ 10 → Wd (strI x ++ (⟨#[46]⟩ : Str) ++ strI y) x y) : TreeOk prog w kt word a b := by
  intro p l lt wt ep
  exact (X8.tree X7 p l lt ep word wt a b ha hb ha1 hb1 H0 W)
theorem dueOk (X : RunsDue prog w kt) (a b : Int) : DueOk prog w kt a b := fun ta tb => X.due a b ta tb
end
end
section
open PySem PySem.Spec PySem.Calls PySem.W PySem.W.X
section
variable {prog : Program} {w : World} {kt : KT}
noncomputable def St (l : List Nat) : Str := ⟨⟨l⟩⟩
theorem st_app (a b : List Nat) : St a ++ St b = St (a ++ b) := by
  show (⟨(⟨a⟩ : Array Nat) ++ (⟨b⟩ : Array Nat)⟩ : Str) = ⟨⟨a ++ b⟩⟩
  simp
theorem st_len (a : List Nat) : (St a).length = a.length := rfl
theorem st_one (c : Nat) : (⟨#[c]⟩ : Str) = St [c] := rfl
theorem st_nil : (⟨#[]⟩ : Str) = St [] := rfl
noncomputable def nl : List Nat → Nat
  | [] => 0
  | c :: r => (if c = 10 then 1 else 0) + nl r
theorem nl_app (a b : List Nat) : nl (a ++ b) = nl a + nl b := by
  induction a with
  | nil => simp [nl]
  | cons c r ih => simp [nl, ih]; omega
theorem cut_one (x : Str) (t : Nat) (n : Nat) (it jt : Nat) (hn : n < x.length) (h2 : 2 ≤ x.length) (c : Nat) (hc : x.cps.toList[n]? = some c) : sliceMade x t (some ((n : Nat), it)) (some ((n : Nat) + 1, jt)) none = .str ⟨#[c]⟩ := by
  have e : slicePicked x (some (((n : Nat) : Int), it)) (some (((n : Nat) : Int) + 1, jt)) none = [n] := by
    unfold slicePicked Builtin.Str.strSliceIndices
    simp only [Option.map_some, Option.map_none, Option.getD_none]
    have h1 : ¬ (((n : Nat) : Int) < 0) := by omega
    have h3 : ¬ (((n : Nat) : Int) + 1 < 0) := by omega
    simp only [h1, h3, if_false, show ((1 : Int) > 0) = True from eq_true (by decide), if_true]
    rw [show max 0 (min ((n : Nat) : Int) ((x.length : Nat) : Int)) = ((n : Nat) : Int) by omega, show max 0 (min (((n : Nat) : Int) + 1) ((x.length : Nat) : Int)) = ((n + 1 : Nat) : Int) by omega, sliceRange_one]
    rw [show n + 1 - n = 1 by omega]
    rfl
  unfold sliceMade
  rw [e]
  have h4 : ¬ ((((none : Option (Int × Nat)).map (·.1)).getD 1 == 1 && ([n] : List Nat).length == x.length) = true) := by
    simp only [Bool.and_eq_true, not_and]
    intro _ z
    have : 1 = x.length := by simpa using z
    omega
  rw [if_neg h4]
  have h5 : x.cps[n]? = some c := by simpa using hc
  simp [h5]
theorem cut_end (x : Str) (t : Nat) (it jt : Nat) (h2 : 2 ≤ x.length) : sliceMade x t (some ((x.length : Nat), it)) (some ((x.length : Nat) + 1, jt)) none = .str ⟨#[]⟩ := by
  have e : slicePicked x (some (((x.length : Nat) : Int), it)) (some (((x.length : Nat) : Int) + 1, jt)) none = [] := by
    unfold slicePicked Builtin.Str.strSliceIndices
    simp only [Option.map_some, Option.map_none, Option.getD_none]
    have h1 : ¬ (((x.length : Nat) : Int) < 0) := by omega
    have h3 : ¬ (((x.length : Nat) : Int) + 1 < 0) := by omega
    simp only [h1, h3, if_false, show ((1 : Int) > 0) = True from eq_true (by decide), if_true]
    rw [show max 0 (min ((x.length : Nat) : Int) ((x.length : Nat) : Int)) = ((x.length : Nat) : Int) by omega, show max 0 (min (((x.length : Nat) : Int) + 1) ((x.length : Nat) : Int)) = ((x.length : Nat) : Int) by omega, sliceRange_one]
    rw [Nat.sub_self]
    rfl
  unfold sliceMade
  rw [e]
  have h4 : ¬ ((((none : Option (Int × Nat)).map (·.1)).getD 1 == 1 && ([] : List Nat).length == x.length) = true) := by
    simp only [Bool.and_eq_true, not_and]
    intro _ z
    have : 0 = x.length := by simpa using z
    omega
  rw [if_neg h4]
  rfl
theorem oneAt {p : LP} {pre rest : List Nat} {c : Nat} {i : Int} (hp : p.text = St (pre ++ c :: rest)) (h2 : 2 ≤ p.text.length) (hi : i = (pre.length : Nat)) : OneAt p i ⟨#[c]⟩ := by
  refine ⟨fun it jt => ?_⟩
  subst hi
  refine cut_one p.text p.tt pre.length it jt ?_ h2 c ?_
  · rw [hp, st_len, List.length_append, List.length_cons]; omega
  · rw [hp]
    show (pre ++ c :: rest)[pre.length]? = some c
    simp
theorem oneAtE {p : LP} {pre : List Nat} {i : Int} (hp : p.text = St pre) (h2 : 2 ≤ p.text.length) (hi : i = (pre.length : Nat)) : OneAt p i ⟨#[]⟩ := by
  refine ⟨fun it jt => ?_⟩
  subst hi
  have e : pre.length = p.text.length := by rw [hp]; rfl
  rw [e]
  exact cut_end p.text p.tt it jt h2
theorem rdOf {p : LP} {pre rest : List Nat} {c : Nat} {i l l' : Int} (hp : p.text = St (pre ++ c :: rest)) (h2 : 2 ≤ p.text.length) (hi : i = (pre.length : Nat)) (hl : l' = l + (nl [c] : Nat)) : Rd p i l ⟨#[c]⟩ l' := by
  by_cases h : c = 10
  · subst h
    have : l' = l + 1 := by simpa [nl] using hl
    subst this
    exact .N (oneAt hp h2 hi)
  · have : l' = l := by simpa [nl, h] using hl
    subst this
    exact .C c (oneAt hp h2 hi) h
noncomputable def flat : List (Bool × Nat) → List Nat
  | [] => []
  | (true, c) :: r => 92 :: c :: flat r
  | (false, c) :: r => c :: flat r
noncomputable def dec : List (Bool × Nat) → List Nat
  | [] => []
  | (_, c) :: r => c :: dec r
noncomputable def isW (c : Nat) : Bool := c == 10 || c == 9 || c == 13 || c == 32
noncomputable def GoodU : List (Bool × Nat) → Prop
  | [] => True
  | (b, c) :: r => 0 < c ∧ (b = false → isW c = false ∧ c ≠ 92) ∧ GoodU r
noncomputable def GoodQ : List (Bool × Nat) → Prop
  | [] => True
  | (b, c) :: r => 0 < c ∧ (b = false → c ≠ 34 ∧ c ≠ 92) ∧ GoodQ r
theorem isW_t {c : Nat} (h : isW c = true) : c ∈ [10, 9, 13, 32] := by
  unfold isW at h
  simp only [Bool.or_eq_true, beq_iff_eq] at h
  simp only [List.mem_cons, List.not_mem_nil, or_false]
  omega
theorem isW_f {c : Nat} (h : isW c = false) : c ∉ [10, 9, 13, 32] := by
  unfold isW at h
  simp only [Bool.or_eq_false_iff, beq_eq_false_iff_ne, ne_eq] at h
  simp only [List.mem_cons, List.not_mem_nil, or_false]
  omega
theorem nl_pos (c : Nat) (r : List Nat) : nl (c :: r) = nl [c] + nl r := by
  simp [nl]
theorem fl_f (c : Nat) (r : List (Bool × Nat)) (st : List Nat) (i : Int) : i + ((flat ((false, c) :: r) ++ st).length : Nat) = i + ((⟨#[c]⟩ : Str).length : Nat) + ((flat r ++ st).length : Nat) := by
  show i + ((((flat r ++ st).length + 1 : Nat)) : Int) = i + ((1 : Nat) : Int) + _
  omega
theorem fl_t (c : Nat) (r : List (Bool × Nat)) (st : List Nat) (i : Int) : i + ((flat ((true, c) :: r) ++ st).length : Nat) = i + ((⟨#[92]⟩ : Str).length : Nat) + ((⟨#[c]⟩ : Str).length : Nat) + ((flat r ++ st).length : Nat) := by
  show i + ((((flat r ++ st).length + 1 + 1 : Nat)) : Int) = i + ((1 : Nat) : Int) + ((1 : Nat) : Int) + _
  omega
theorem nf_f (c : Nat) (r : List (Bool × Nat)) (st : List Nat) (l : Int) : l + (nl (flat ((false, c) :: r) ++ st) : Nat) = l + (nl [c] : Nat) + (nl (flat r ++ st) : Nat) := by
  show l + (nl (c :: (flat r ++ st)) : Nat) = _
  rw [nl_pos]; omega
theorem nf_t (c : Nat) (r : List (Bool × Nat)) (st : List Nat) (l : Int) : l + (nl (flat ((true, c) :: r) ++ st) : Nat) = l + (nl [c] : Nat) + (nl (flat r ++ st) : Nat) := by
  show l + (nl (92 :: c :: (flat r ++ st)) : Nat) = _
  rw [nl_pos, nl_pos c]; simp [nl]; omega
theorem tok_add (tok : List Nat) (b : Bool) (c : Nat) (r : List (Bool × Nat)) : tok ++ dec ((b, c) :: r) = tok ++ [c] ++ dec r := by simp [dec]
theorem sz_one {tok : List Nat} {n c : Nat} (h : tok.length + (n + 1) ≤ 1000) : (St tok ++ (⟨#[c]⟩ : Str)).length ≤ sizeLine := by
  rw [st_one, st_app, st_len, List.length_append]
  have : 2000 ≤ sizeLine := by decide
  simp only [List.length_cons, List.length_nil]
  omega
theorem sz_next {tok : List Nat} {n c : Nat} (h : tok.length + (n + 1) ≤ 1000) : (tok ++ [c]).length + n ≤ 1000 := by simp; omega
variable (X : RunsRC prog w kt) (Y : RunsRF prog w kt) (L : RunsLex prog w kt) {fo : Obj} {fd : FuncData} (k35 : kt.get 35 = some fo) (k35f : fo.data = .func fd)
include X Y L k35 k35f
theorem u_loop {p : LP} (h2 : 2 ≤ p.text.length) (rest : List Nat) (e : Bool) (st : List Nat) (hst : match e with | true => st = [] ∧ rest = [] | false => ∃ c, st = [c] ∧ isW c = true) :
    ∀ (items : List (Bool × Nat)) (pre tok : List Nat) (ch : Str) (i l : Int), p.text = St (pre ++ (flat items ++ (st ++ rest))) → i = (pre.length : Nat) → GoodU items → tok.length + items.length ≤ 1000 →
    ∃ ch', ∀ x it lt tt ct, LOk prog w kt false p ⟨i, l, it, lt⟩ x (St tok) tt ch ct ⟨i + ((flat items ++ st).length : Nat), l + (nl (flat items ++ st) : Nat), St (tok ++ dec items), ch', e⟩
  | [], pre, tok, ch, i, l, hp, hi, hg, hs => by
    cases e with
    | true =>
      obtain ⟨rfl, rfl⟩ := hst
      refine ⟨ch, fun x it lt tt ct => ?_⟩
      have hE : OneAt p i ⟨#[]⟩ := oneAtE (pre := pre) (by rw [hp]; simp [flat]) h2 hi
      have z := (L.uE X Y p ⟨i, l, it, lt⟩ x (St tok) tt ch ct hE fo fd k35 k35f)
      have e2 : l + (nl (flat [] ++ []) : Nat) = l := by simp [nl, flat]
      have e3 : tok ++ dec [] = tok := by simp [dec]
      rw [e2, e3]
      intro A s R a1 a2 a3 a4 a5 a6 a7 a8 a9 hR
      exact z A s R a1 a2 a3 a4 a5 a6 a7 a8 a9 fun as ts h' tk' la lt' f f1 f2 hk => hR as [nthN ts 0, nthN ts 1, tt, ct] h' tk' la rfl f f1 f2 hk
    | false =>
      obtain ⟨c, rfl, hc⟩ := hst
      obtain ⟨d, rfl⟩ : ∃ d, c = d + 1 := ⟨c - 1, by
        have : c ≠ 0 := by rintro rfl; revert hc; decide
        omega⟩
      refine ⟨⟨#[d+1]⟩, fun x it lt tt ct => ?_⟩
      have hE : Rd p i l ⟨#[d+1]⟩ (l + (nl [d+1] : Nat)) := rdOf (pre := pre) (rest := rest) (by rw [hp]; simp [flat]) h2 hi rfl
      have z := (L.uW X Y p ⟨i, l, it, lt⟩ x (St tok) tt ch ct d _ hE (isW_t hc))
      simp only [flat, List.append_nil, dec, List.nil_append, List.length_cons, List.length_nil]
      intro A s R a1 a2 a3 a4 a5 a6 a7 a8 a9 hR
      exact z A s R a1 a2 a3 a4 a5 a6 a7 a8 a9 fun as ts h' tk' la lt' f f1 f2 hk => hR as [nthN ts 0, nthN ts 1, tt, nthN ts 2] h' tk' la rfl f f1 f2 hk
  | (b, c) :: items, pre, tok, ch, i, l, hp, hi, hg, hs => by
    obtain ⟨h0, hb, hg⟩ := hg
    obtain ⟨d, rfl⟩ : ∃ d, c = d + 1 := ⟨c - 1, by omega⟩
    have hsz : (St tok ++ (⟨#[d+1]⟩ : Str)).length ≤ sizeLine := sz_one hs
    cases b with
    | false =>
      obtain ⟨hw, h92⟩ := hb rfl
      obtain ⟨ch', ih⟩ := u_loop h2 rest e st hst items (pre ++ [d+1]) (tok ++ [d+1]) ⟨#[d+1]⟩ (i + ((⟨#[d+1]⟩ : Str).length : Nat)) (l + (nl [d+1] : Nat)) (by rw [hp]; simp [flat]) (by rw [hi]; simp [Str.length]) hg (sz_next hs)
      refine ⟨ch', fun x it lt tt ct => ?_⟩
      have hE : Rd p i l ⟨#[d+1]⟩ (l + (nl [d+1] : Nat)) := rdOf (pre := pre) (rest := flat items ++ (st ++ rest)) (by rw [hp]; simp [flat]) h2 hi rfl
      have e1 := fl_f (d+1) items st i
      have e2 := nf_f (d+1) items st l
      have e3 := tok_add tok false (d+1) items
      rw [e1, e2, e3]
      exact (L.uC X Y p ⟨i, l, it, lt⟩ x (St tok) tt ch ct _ d _ hE (isW_f hw) h92 hsz (fun it lt t u => by
        have := ih x it lt t u
        rw [← st_app] at this
        exact this))
    | true =>
      obtain ⟨ch', ih⟩ := u_loop h2 rest e st hst items (pre ++ [92, d+1]) (tok ++ [d+1]) ⟨#[d+1]⟩ (i + ((⟨#[92]⟩ : Str).length : Nat) + ((⟨#[d+1]⟩ : Str).length : Nat)) (l + (nl [d+1] : Nat)) (by rw [hp]; simp [flat]) (by rw [hi]; simp [Str.length]; omega) hg (sz_next hs)
      refine ⟨ch', fun x it lt tt ct => ?_⟩
      have hE0 : Rd p i l ⟨#[92]⟩ l := rdOf (pre := pre) (rest := (d+1) :: (flat items ++ (st ++ rest))) (by rw [hp]; simp [flat]) h2 hi (by simp [nl])
      have hE : Rd p (i + ((⟨#[92]⟩ : Str).length : Nat)) l ⟨#[d+1]⟩ (l + (nl [d+1] : Nat)) := rdOf (pre := pre ++ [92]) (rest := flat items ++ (st ++ rest)) (by rw [hp]; simp [flat]) h2 (by rw [hi]; simp [Str.length]) rfl
      have e1 := fl_t (d+1) items st i
      have e2 := nf_t (d+1) items st l
      have e3 := tok_add tok true (d+1) items
      rw [e1, e2, e3]
      exact (L.uB X Y p ⟨i, l, it, lt⟩ x (St tok) tt ch ct _ d _ hE0 hE hsz (fun it lt t u => by
        have := ih x it lt t u
        rw [← st_app] at this
        exact this))
theorem q_loop {p : LP} (h2 : 2 ≤ p.text.length) (rest : List Nat) (e : Bool) (st : List Nat) (hst : match e with | true => st = [] ∧ rest = [] | false => st = [34]) :
    ∀ (items : List (Bool × Nat)) (pre tok : List Nat) (ch : Str) (i l : Int), p.text = St (pre ++ (flat items ++ (st ++ rest))) → i = (pre.length : Nat) → GoodQ items → tok.length + items.length ≤ 1000 →
    ∃ ch', ∀ x it lt tt ct, LOk prog w kt true p ⟨i, l, it, lt⟩ x (St tok) tt ch ct ⟨i + ((flat items ++ st).length : Nat), l + (nl (flat items ++ st) : Nat), St (tok ++ dec items), ch', e⟩
  | [], pre, tok, ch, i, l, hp, hi, hg, hs => by
    cases e with
    | true =>
      obtain ⟨rfl, rfl⟩ := hst
      refine ⟨ch, fun x it lt tt ct => ?_⟩
      have hE : OneAt p i ⟨#[]⟩ := oneAtE (pre := pre) (by rw [hp]; simp [flat]) h2 hi
      have z := (L.qE X Y p ⟨i, l, it, lt⟩ x (St tok) tt ch ct hE fo fd k35 k35f)
      have e2 : l + (nl (flat [] ++ []) : Nat) = l := by simp [nl, flat]
      have e3 : tok ++ dec [] = tok := by simp [dec]
      rw [e2, e3]
      intro A s R a1 a2 a3 a4 a5 a6 a7 a8 a9 hR
      exact z A s R a1 a2 a3 a4 a5 a6 a7 a8 a9 fun as ts h' tk' la lt' f f1 f2 hk => hR as [nthN ts 0, nthN ts 1, tt, ct] h' tk' la rfl f f1 f2 hk
    | false =>
      obtain rfl : st = [34] := hst
      refine ⟨⟨#[34]⟩, fun x it lt tt ct => ?_⟩
      have hE : Rd p i l ⟨#[34]⟩ l := rdOf (pre := pre) (rest := rest) (by rw [hp]; simp [flat]) h2 hi (by simp [nl])
      have z := (L.qW X Y p ⟨i, l, it, lt⟩ x (St tok) tt ch ct hE)
      have e2 : l + (nl (flat [] ++ [34]) : Nat) = l := by simp [nl, flat]
      rw [e2]
      simp only [flat, List.append_nil, dec, List.nil_append, List.length_cons, List.length_nil]
      intro A s R a1 a2 a3 a4 a5 a6 a7 a8 a9 hR
      exact z A s R a1 a2 a3 a4 a5 a6 a7 a8 a9 fun as ts h' tk' la lt' f f1 f2 hk => hR as [nthN ts 0, nthN ts 1, tt, nthN ts 2] h' tk' la rfl f f1 f2 hk
  | (b, c) :: items, pre, tok, ch, i, l, hp, hi, hg, hs => by
    obtain ⟨h0, hb, hg⟩ := hg
    obtain ⟨d, rfl⟩ : ∃ d, c = d + 1 := ⟨c - 1, by omega⟩
    have hsz : (St tok ++ (⟨#[d+1]⟩ : Str)).length ≤ sizeLine := sz_one hs
    cases b with
    | false =>
      obtain ⟨hw, h92⟩ := hb rfl
      obtain ⟨ch', ih⟩ := q_loop h2 rest e st hst items (pre ++ [d+1]) (tok ++ [d+1]) ⟨#[d+1]⟩ (i + ((⟨#[d+1]⟩ : Str).length : Nat)) (l + (nl [d+1] : Nat)) (by rw [hp]; simp [flat]) (by rw [hi]; simp [Str.length]) hg (sz_next hs)
      refine ⟨ch', fun x it lt tt ct => ?_⟩
      have hE : Rd p i l ⟨#[d+1]⟩ (l + (nl [d+1] : Nat)) := rdOf (pre := pre) (rest := flat items ++ (st ++ rest)) (by rw [hp]; simp [flat]) h2 hi rfl
      have e1 := fl_f (d+1) items st i
      have e2 := nf_f (d+1) items st l
      have e3 := tok_add tok false (d+1) items
      rw [e1, e2, e3]
      exact (L.qC X Y p ⟨i, l, it, lt⟩ x (St tok) tt ch ct _ d _ hE hw h92 hsz (fun it lt t u => by
        have := ih x it lt t u
        rw [← st_app] at this
        exact this))
    | true =>
      obtain ⟨ch', ih⟩ := q_loop h2 rest e st hst items (pre ++ [92, d+1]) (tok ++ [d+1]) ⟨#[d+1]⟩ (i + ((⟨#[92]⟩ : Str).length : Nat) + ((⟨#[d+1]⟩ : Str).length : Nat)) (l + (nl [d+1] : Nat)) (by rw [hp]; simp [flat]) (by rw [hi]; simp [Str.length]; omega) hg (sz_next hs)
      refine ⟨ch', fun x it lt tt ct => ?_⟩
      have hE0 : Rd p i l ⟨#[92]⟩ l := rdOf (pre := pre) (rest := (d+1) :: (flat items ++ (st ++ rest))) (by rw [hp]; simp [flat]) h2 hi (by simp [nl])
      have hE : Rd p (i + ((⟨#[92]⟩ : Str).length : Nat)) l ⟨#[d+1]⟩ (l + (nl [d+1] : Nat)) := rdOf (pre := pre ++ [92]) (rest := flat items ++ (st ++ rest)) (by rw [hp]; simp [flat]) h2 (by rw [hi]; simp [Str.length]) rfl
      have e1 := fl_t (d+1) items st i
      have e2 := nf_t (d+1) items st l
      have e3 := tok_add tok true (d+1) items
      rw [e1, e2, e3]
      exact (L.qB X Y p ⟨i, l, it, lt⟩ x (St tok) tt ch ct _ d _ hE0 hE hsz (fun it lt t u => by
        have := ih x it lt t u
        rw [← st_app] at this
        exact this))
end
end
section
open PySem PySem.Spec PySem.Calls PySem.W PySem.W.X
section
variable {prog : Program} {w : World} {kt : KT}
noncomputable def rN (p : LP) (x : TF) (r : RR) : RO := ⟨r.n, r.l, r.e, lFr p x r.tok r.ch, lRes r⟩
noncomputable def Start1 (prog : Program) (w : World) (kt : KT) (p : LP) (i l : Int) (r : RR) : Prop := ∀ x it lt tt ch ct, OOk1 prog w kt p ⟨i, l, it, lt⟩ x tt ch ct (rN p x r)
noncomputable def Start0 (prog : Program) (w : World) (kt : KT) (p : LP) (i l : Int) (r : RR) : Prop := ∀ x it lt tt, OOk0 prog w kt p ⟨i, l, it, lt⟩ x tt (roOf w p x r)
theorem conv1 {p : LP} {s : LS} {x : TF} {j : Nat} {tt : Nat} {ch : Str} {ct : Nat} {r : RR} (H : OOk1 prog w kt p s (xc x (hS w n_ch, j)) tt ch ct (rN p (xc x (hS w n_ch, j)) r)) : OOk1 prog w kt p s (xc x (hS w n_ch, j)) tt ch ct (roOf w p x r) := by
  intro A s' R a1 a2 a3 a4 a5 a6 a7 a8 a9 hR
  exact H A s' R a1 a2 a3 a4 a5 a6 a7 a8 a9 fun as ts h' tk' la lt' f f1 f2 hk => hR as [nthN ts 0, nthN ts 1, nthN ts 2, nthN ts 3, j] h' tk' la rfl f f1 f2 hk
theorem to5 {p : LP} {s : LS} {x : TF} {tt : Nat} {ch : Str} {ct : Nat} {r : RR} (H : CkOk prog w kt (cO kt x.fi x.fr) 500 4000 (lG kt p s x ⟨#[]⟩ tt ch ct) (fun _ ts => oPo kt p x (rN p x r) ts) 0 (fun _ _ => []) 4 (fun _ ts => lRes r ts)) : OOk1 prog w kt p s x tt ch ct (rN p x r) := by
  intro A s' R a1 a2 a3 a4 a5 a6 a7 a8 a9 hR
  exact H A s' R a1 a2 a3 a4 a5 a6 a7 a8 a9 fun as ts h' tk' la lt' f f1 f2 hk => hR as [nthN ts 0, nthN ts 1, nthN ts 2, nthN ts 3, 0] h' tk' la rfl f f1 f2 hk
variable (X : RunsRC prog w kt) (Y : RunsRF prog w kt) (L : RunsLex prog w kt) {fo : Obj} {fd : FuncData} (k35 : kt.get 35 = some fo) (k35f : fo.data = .func fd)
include X Y L
theorem lead1 {p : LP} (h2 : 2 ≤ p.text.length) (rest : List Nat) {r : RR} : ∀ (lead pre : List Nat) (i l : Int), p.text = St (pre ++ (lead ++ rest)) → i = (pre.length : Nat) → (∀ c ∈ lead, isW c = true) →
    Start1 prog w kt p (i + (lead.length : Nat)) (l + (nl lead : Nat)) r → Start1 prog w kt p i l r
  | [], pre, i, l, hp, hi, hw, H => by
    have e1 : i + ((([] : List Nat).length : Nat) : Int) = i := by simp
    have e2 : l + ((nl [] : Nat) : Int) = l := by simp [nl]
    rw [e1, e2] at H
    exact H
  | c :: lead, pre, i, l, hp, hi, hw, H => by
    have hc := hw c (.head _)
    obtain ⟨d, rfl⟩ : ∃ d, c = d + 1 := ⟨c - 1, by
      have : c ≠ 0 := by rintro rfl; revert hc; decide
      omega⟩
    have ih := lead1 h2 rest (r := r) lead (pre ++ [d+1]) (i + ((⟨#[d+1]⟩ : Str).length : Nat)) (l + (nl [d+1] : Nat)) (by rw [hp]; simp) (by rw [hi]; simp [Str.length]) (fun c hc => hw c (.tail _ hc)) (by
      have e1 : i + ((⟨#[d+1]⟩ : Str).length : Nat) + (lead.length : Nat) = i + (((d+1) :: lead).length : Nat) := by simp [Str.length]; omega
      have e2 : l + (nl [d+1] : Nat) + (nl lead : Nat) = l + (nl ((d+1) :: lead) : Nat) := by rw [nl_pos (d+1) lead]; omega
      rw [e1, e2]; exact H)
    intro x it lt tt ch ct
    have hE : Rd p i l ⟨#[d+1]⟩ (l + (nl [d+1] : Nat)) := rdOf (pre := pre) (rest := lead ++ rest) (by rw [hp]; simp) h2 hi rfl
    exact (L.oW1 X Y p ⟨i, l, it, lt⟩ x tt ch ct _ d _ hE (isW_t hc) (fun it lt u => ih x it lt tt _ u))
theorem lead0 {p : LP} (h2 : 2 ≤ p.text.length) (rest : List Nat) {r : RR} (lead pre : List Nat) (i l : Int) (hp : p.text = St (pre ++ (lead ++ rest))) (hi : i = (pre.length : Nat)) (hw : ∀ c ∈ lead, isW c = true)
    (H1 : Start1 prog w kt p (i + (lead.length : Nat)) (l + (nl lead : Nat)) r) (H0 : Start0 prog w kt p (i + (lead.length : Nat)) (l + (nl lead : Nat)) r) : Start0 prog w kt p i l r := by
  cases lead with
  | nil =>
    have e1 : i + ((([] : List Nat).length : Nat) : Int) = i := by simp
    have e2 : l + ((nl [] : Nat) : Int) = l := by simp [nl]
    rw [e1, e2] at H0
    exact H0
  | cons c lead =>
    have hc := hw c (.head _)
    obtain ⟨d, rfl⟩ : ∃ d, c = d + 1 := ⟨c - 1, by
      have : c ≠ 0 := by rintro rfl; revert hc; decide
      omega⟩
    have ih := lead1 X Y L h2 rest (r := r) lead (pre ++ [d+1]) (i + ((⟨#[d+1]⟩ : Str).length : Nat)) (l + (nl [d+1] : Nat)) (by rw [hp]; simp) (by rw [hi]; simp [Str.length]) (fun c hc => hw c (.tail _ hc)) (by
      have e1 : i + ((⟨#[d+1]⟩ : Str).length : Nat) + (lead.length : Nat) = i + (((d+1) :: lead).length : Nat) := by simp [Str.length]; omega
      have e2 : l + (nl [d+1] : Nat) + (nl lead : Nat) = l + (nl ((d+1) :: lead) : Nat) := by rw [nl_pos (d+1) lead]; omega
      rw [e1, e2]; exact H1)
    intro x it lt tt
    have hE : Rd p i l ⟨#[d+1]⟩ (l + (nl [d+1] : Nat)) := rdOf (pre := pre) (rest := lead ++ rest) (by rw [hp]; simp) h2 hi rfl
    exact (L.oW0 X Y p ⟨i, l, it, lt⟩ x tt _ d _ hE (isW_t hc) (fun j it lt u => conv1 (ih (xc x (hS w n_ch, j)) it lt tt _ u)))
omit X Y in
theorem gt_of {p : LP} {s : LS} {ep : Nat} {r : RR} (H : Start0 prog w kt p s.i s.l r) : GTOk prog w kt p s ep r.n r.l r.tok := by
  obtain ⟨n, l, tok, ch, e⟩ := r
  cases e with
  | false => exact (L.gtr p s ep n l tok ch (fun x tt => H x s.it s.lt tt))
  | true => exact (L.gte p s ep n l tok ch (fun x tt => H x s.it s.lt tt))
theorem gt_end {p : LP} (h2 : 2 ≤ p.text.length) {s : LS} {ep : Nat} (k35 : kt.get 35 = some fo) (k35f : fo.data = .func fd) (hi : s.i = (p.text.length : Nat)) : GTOk prog w kt p s ep s.i s.l ⟨#[]⟩ := by
  have hE : OneAt p s.i ⟨#[]⟩ := oneAtE (pre := p.text.cps.toList) rfl h2 (by rw [hi]; simp [Str.length])
  suffices hz : GTOk prog w kt p s ep (s.i + ((⟨#[]⟩ : Str).length : Nat)) s.l ⟨#[]⟩ by
    rwa [show s.i + (((⟨#[]⟩ : Str).length : Nat) : Int) = s.i from Int.add_zero _] at hz
  refine (L.gt0 p s ep _ s.l (fun x tt => ?_))
  have z := (L.oE0 X Y p s x tt hE fo fd k35 k35f)
  intro A s' R a1 a2 a3 a4 a5 a6 a7 a8 a9 hR
  exact z A s' R a1 a2 a3 a4 a5 a6 a7 a8 a9 fun as ts h' tk' la lt' f f1 f2 hk => hR as [nthN ts 0, nthN ts 1, tt, 0, 0] h' tk' la rfl f f1 f2 hk
include k35 k35f
theorem gt_q {p : LP} (h2 : 2 ≤ p.text.length) {s : LS} {ep : Nat} (rest : List Nat) (e : Bool) (st : List Nat) (hst : match e with | true => st = [] ∧ rest = [] | false => st = [34]) (items : List (Bool × Nat)) (pre lead : List Nat)
    (hp : p.text = St (pre ++ (lead ++ (34 :: (flat items ++ (st ++ rest)))))) (hi : s.i = (pre.length : Nat)) (hw : ∀ c ∈ lead, isW c = true) (hg : GoodQ items) (hs : items.length ≤ 1000) :
    GTOk prog w kt p s ep (s.i + ((lead ++ (34 :: (flat items ++ st))).length : Nat)) (s.l + (nl (lead ++ (34 :: (flat items ++ st))) : Nat)) (St (dec items)) := by
  obtain ⟨ch', H⟩ := q_loop X Y L k35 k35f h2 rest e st hst items (pre ++ (lead ++ [34])) [] ⟨#[34]⟩ (s.i + (lead.length : Nat) + ((⟨#[34]⟩ : Str).length : Nat)) (s.l + (nl lead : Nat)) (by rw [hp]; simp) (by rw [hi]; simp [Str.length]; omega) hg (by simpa using hs)
  have hE : Rd p (s.i + (lead.length : Nat)) (s.l + (nl lead : Nat)) ⟨#[34]⟩ (s.l + (nl lead : Nat)) := rdOf (pre := pre ++ lead) (rest := flat items ++ (st ++ rest)) (by rw [hp]; simp) h2 (by rw [hi]; simp) (by simp [nl])
  have e1 : s.i + ((lead ++ (34 :: (flat items ++ st))).length : Nat) = s.i + (lead.length : Nat) + ((⟨#[34]⟩ : Str).length : Nat) + ((flat items ++ st).length : Nat) := by simp [Str.length]; omega
  have e2 : s.l + (nl (lead ++ (34 :: (flat items ++ st))) : Nat) = s.l + (nl lead : Nat) + (nl (flat items ++ st) : Nat) := by rw [nl_app, nl_pos]; simp [nl]; omega
  have e3 : St (dec items) = St ([] ++ dec items) := rfl
  rw [e1, e2, e3]
  refine gt_of L (r := ⟨_, _, _, ch', e⟩) (lead0 X Y L h2 (34 :: (flat items ++ (st ++ rest))) lead pre s.i s.l hp hi hw ?_ ?_)
  · intro x it lt tt ch ct
    cases e with
    | false => exact to5 ((L.oQr1 X Y p ⟨_, _, it, lt⟩ x tt ch ct _ _ _ _ hE (fun it lt u => H x it lt tt u)))
    | true => exact to5 ((L.oQe1 X Y p ⟨_, _, it, lt⟩ x tt ch ct _ _ _ _ hE (fun it lt u => H x it lt tt u)))
  · intro x it lt tt
    cases e with
    | false => exact (L.oQr0 X Y p ⟨_, _, it, lt⟩ x tt _ _ _ _ hE (fun j it lt u => H (xc x j) it lt tt u))
    | true => exact (L.oQe0 X Y p ⟨_, _, it, lt⟩ x tt _ _ _ _ hE (fun j it lt u => H (xc x j) it lt tt u))
theorem gt_u {p : LP} (h2 : 2 ≤ p.text.length) {s : LS} {ep : Nat} (rest : List Nat) (e : Bool) (st : List Nat) (hst : match e with | true => st = [] ∧ rest = [] | false => ∃ c, st = [c] ∧ isW c = true) (b : Bool) (c : Nat) (items : List (Bool × Nat)) (pre lead : List Nat)
    (hp : p.text = St (pre ++ (lead ++ (flat ((b, c) :: items) ++ (st ++ rest))))) (hi : s.i = (pre.length : Nat)) (hw : ∀ c ∈ lead, isW c = true) (hg : GoodU ((b, c) :: items)) (h34 : b = false → c ≠ 34) (hs : items.length ≤ 900) :
    GTOk prog w kt p s ep (s.i + ((lead ++ (flat ((b, c) :: items) ++ st)).length : Nat)) (s.l + (nl (lead ++ (flat ((b, c) :: items) ++ st)) : Nat)) (St (dec ((b, c) :: items))) := by
  obtain ⟨h0, hb, hg⟩ := hg
  obtain ⟨d, rfl⟩ : ∃ d, c = d + 1 := ⟨c - 1, by omega⟩
  cases b with
  | false =>
    obtain ⟨hnw, h92⟩ := hb rfl
    have h34 := h34 rfl
    obtain ⟨ch', H⟩ := u_loop X Y L k35 k35f h2 rest e st hst items (pre ++ (lead ++ [d+1])) [d+1] ⟨#[d+1]⟩ (s.i + (lead.length : Nat) + ((⟨#[d+1]⟩ : Str).length : Nat)) (s.l + (nl lead : Nat) + (nl [d+1] : Nat)) (by rw [hp]; simp [flat]) (by rw [hi]; simp [Str.length]; omega) hg (by simp; omega)
    have hE : Rd p (s.i + (lead.length : Nat)) (s.l + (nl lead : Nat)) ⟨#[d+1]⟩ (s.l + (nl lead : Nat) + (nl [d+1] : Nat)) := rdOf (pre := pre ++ lead) (rest := flat items ++ (st ++ rest)) (by rw [hp]; simp [flat]) h2 (by rw [hi]; simp) rfl
    have e1 : s.i + ((lead ++ (flat ((false, d+1) :: items) ++ st)).length : Nat) = s.i + (lead.length : Nat) + ((⟨#[d+1]⟩ : Str).length : Nat) + ((flat items ++ st).length : Nat) := by simp [Str.length, flat]; omega
    have e2 : s.l + (nl (lead ++ (flat ((false, d+1) :: items) ++ st)) : Nat) = s.l + (nl lead : Nat) + (nl [d+1] : Nat) + (nl (flat items ++ st) : Nat) := by
      rw [nl_app]
      show s.l + ((nl lead + nl ((d+1) :: (flat items ++ st)) : Nat) : Int) = _
      rw [nl_pos]; omega
    have e3 : St (dec ((false, d+1) :: items)) = St ([d+1] ++ dec items) := rfl
    rw [e1, e2, e3]
    have e4 : (⟨#[]⟩ : Str) ++ (⟨#[d+1]⟩ : Str) = St [d+1] := by rw [st_nil, st_one, st_app]; rfl
    refine gt_of L (r := ⟨_, _, _, ch', e⟩) (lead0 X Y L h2 (flat ((false, d+1) :: items) ++ (st ++ rest)) lead pre s.i s.l hp hi hw ?_ ?_)
    · intro x it lt tt ch ct
      cases e with
      | false => exact to5 ((L.oPr1 X Y p ⟨_, _, it, lt⟩ x tt ch ct _ _ _ _ d _ hE (isW_f hnw) h92 h34 (fun it lt t u => by rw [e4]; exact H x it lt t u)))
      | true => exact to5 ((L.oPe1 X Y p ⟨_, _, it, lt⟩ x tt ch ct _ _ _ _ d _ hE (isW_f hnw) h92 h34 (fun it lt t u => by rw [e4]; exact H x it lt t u)))
    · intro x it lt tt
      cases e with
      | false => exact (L.oPr0 X Y p ⟨_, _, it, lt⟩ x tt _ _ _ _ d _ hE (isW_f hnw) h92 h34 (fun j it lt t u => by rw [e4]; exact H (xc x j) it lt t u))
      | true => exact (L.oPe0 X Y p ⟨_, _, it, lt⟩ x tt _ _ _ _ d _ hE (isW_f hnw) h92 h34 (fun j it lt t u => by rw [e4]; exact H (xc x j) it lt t u))
  | true =>
    obtain ⟨ch', H⟩ := u_loop X Y L k35 k35f h2 rest e st hst items (pre ++ (lead ++ [92, d+1])) [d+1] ⟨#[d+1]⟩ (s.i + (lead.length : Nat) + ((⟨#[92]⟩ : Str).length : Nat) + ((⟨#[d+1]⟩ : Str).length : Nat)) (s.l + (nl lead : Nat) + (nl [d+1] : Nat)) (by rw [hp]; simp [flat]) (by rw [hi]; simp [Str.length]; omega) hg (by simp; omega)
    have hE0 : Rd p (s.i + (lead.length : Nat)) (s.l + (nl lead : Nat)) ⟨#[92]⟩ (s.l + (nl lead : Nat)) := rdOf (pre := pre ++ lead) (rest := (d+1) :: (flat items ++ (st ++ rest))) (by rw [hp]; simp [flat]) h2 (by rw [hi]; simp) (by simp [nl])
    have hE : Rd p (s.i + (lead.length : Nat) + ((⟨#[92]⟩ : Str).length : Nat)) (s.l + (nl lead : Nat)) ⟨#[d+1]⟩ (s.l + (nl lead : Nat) + (nl [d+1] : Nat)) := rdOf (pre := pre ++ (lead ++ [92])) (rest := flat items ++ (st ++ rest)) (by rw [hp]; simp [flat]) h2 (by rw [hi]; simp [Str.length]; omega) rfl
    have e1 : s.i + ((lead ++ (flat ((true, d+1) :: items) ++ st)).length : Nat) = s.i + (lead.length : Nat) + ((⟨#[92]⟩ : Str).length : Nat) + ((⟨#[d+1]⟩ : Str).length : Nat) + ((flat items ++ st).length : Nat) := by simp [Str.length, flat]; omega
    have e2 : s.l + (nl (lead ++ (flat ((true, d+1) :: items) ++ st)) : Nat) = s.l + (nl lead : Nat) + (nl [d+1] : Nat) + (nl (flat items ++ st) : Nat) := by
      rw [nl_app]
      show s.l + ((nl lead + nl (92 :: (d+1) :: (flat items ++ st)) : Nat) : Int) = _
      rw [nl_pos, nl_pos]; simp [nl]; omega
    have e3 : St (dec ((true, d+1) :: items)) = St ([d+1] ++ dec items) := rfl
    rw [e1, e2, e3]
    have e4 : (⟨#[]⟩ : Str) ++ (⟨#[d+1]⟩ : Str) = St [d+1] := by rw [st_nil, st_one, st_app]; rfl
    refine gt_of L (r := ⟨_, _, _, ch', e⟩) (lead0 X Y L h2 (flat ((true, d+1) :: items) ++ (st ++ rest)) lead pre s.i s.l hp hi hw ?_ ?_)
    · intro x it lt tt ch ct
      cases e with
      | false => exact to5 ((L.oBr1 X Y p ⟨_, _, it, lt⟩ x tt ch ct _ _ _ _ d _ hE0 hE (fun it lt t u => by rw [e4]; exact H x it lt t u)))
      | true => exact to5 ((L.oBe1 X Y p ⟨_, _, it, lt⟩ x tt ch ct _ _ _ _ d _ hE0 hE (fun it lt t u => by rw [e4]; exact H x it lt t u)))
    · intro x it lt tt
      cases e with
      | false => exact (L.oBr0 X Y p ⟨_, _, it, lt⟩ x tt _ _ _ _ d _ hE0 hE (fun j it lt t u => by rw [e4]; exact H (xc x j) it lt t u))
      | true => exact (L.oBe0 X Y p ⟨_, _, it, lt⟩ x tt _ _ _ _ d _ hE0 hE (fun j it lt t u => by rw [e4]; exact H (xc x j) it lt t u))
end
end
section
open PySem PySem.Spec PySem.Calls PySem.W PySem.W.X
section
variable {prog : Program} {w : World} {kt : KT}
noncomputable def mustB (m : Nat) (f : Bool) (c : Nat) : Bool := decide (2 ≤ m) || c == 92 || ((m == 0 || f) && c == 34) || (m == 1 && (c == 32 || c == 10))
noncomputable def its (m : Nat) : Bool → List Nat → List (Bool × Nat)
  | _, [] => []
  | f, c :: r => (mustB m f c, c) :: its m false r
noncomputable def enc1 (b : Bool) (c : Nat) : List Nat := match b with
  | true => [92, c]
  | false => [c]
theorem flat_cons (b : Bool) (c : Nat) (r : List (Bool × Nat)) : flat ((b, c) :: r) = enc1 b c ++ flat r := by cases b <;> rfl
theorem enc_t (bd : List Nat) (c : Nat) : St bd ++ (⟨#[92]⟩ : Str) ++ (⟨#[c]⟩ : Str) = St (bd ++ enc1 true c) := by
  rw [st_one, st_one, st_app, st_app, List.append_assoc]; rfl
theorem enc_f (bd : List Nat) (c : Nat) : St bd ++ (⟨#[c]⟩ : Str) = St (bd ++ enc1 false c) := by
  rw [st_one, st_app]; rfl
theorem dec_its (m : Nat) : ∀ (f : Bool) (l : List Nat), dec (its m f l) = l
  | _, [] => rfl
  | f, c :: r => by show c :: dec (its m false r) = _; rw [dec_its]
theorem its_len (m : Nat) : ∀ (f : Bool) (l : List Nat), (its m f l).length = l.length
  | _, [] => rfl
  | f, c :: r => by show (its m false r).length + 1 = _; rw [its_len]; rfl
theorem flat_len : ∀ l : List (Bool × Nat), (flat l).length ≤ 2 * l.length
  | [] => Nat.le_refl _
  | (true, c) :: r => by have := flat_len r; simp only [flat, List.length_cons]; omega
  | (false, c) :: r => by have := flat_len r; simp only [flat, List.length_cons]; omega
theorem at_pre {wd pre rest : List Nat} {c : Nat} {i : Int} (hw : wd = pre ++ c :: rest) (hi : i = (pre.length : Nat)) : (seqIndex? i (St wd).length).bind ((St wd).cps[·]?) = some c := by
  subst hw hi
  have e : seqIndex? ((pre.length : Nat) : Int) (St (pre ++ c :: rest)).length = some pre.length := by
    unfold seqIndex?
    have h1 : ¬ (((pre.length : Nat) : Int) < 0) := by omega
    simp only [h1, if_false]
    have h2 : pre.length < (St (pre ++ c :: rest)).length := by
      rw [st_len]; simp
    simp [h2]
  rw [e]
  show (St (pre ++ c :: rest)).cps[pre.length]? = some c
  simp [St]
theorem in63 {i : Int} (h0 : 0 ≤ i) (h1 : i < 2 ^ 62) : (decide (i < -(2 ^ 63 : Int)) || decide (i ≥ 2 ^ 63)) = false := by
  simp; omega
theorem four {m : Nat} (h : m < 4) : m = 0 ∨ m = 1 ∨ m = 2 ∨ m = 3 := by omega
theorem in63z : (decide (0 < -(2 ^ 63 : Int)) || decide (0 ≥ (2 ^ 63 : Int))) = false := by decide
section
variable (P : RunsPiece prog w kt) {word : Str} {way : Int} {m : Nat} (hm : Int.fmod way 4 = (m : Nat)) (hm4 : m < 4)
include P hm hm4
theorem pc_step {x : PF} {wt yt : Nat} {bd : List Nat} {bt : Nat} {k : Int} {kk : Nat} {mm : Bool} {i l : Int} {z : PZ} {c : Nat} (hi0 : 0 < i) (hi1 : i < 2 ^ 62) (hl : 0 < l) (hb : (St bd).length + 2 ≤ sizeLine)
    (hc : (seqIndex? i word.length).bind (word.cps[·]?) = some c) (H : ∀ bt kk, PcOk prog w kt x word wt way yt (St (bd ++ enc1 (mustB m false c) c)) bt i kk (mustB m false c) (i + 1) (l - 1) z) :
    PcOk prog w kt x word wt way yt (St bd) bt k kk mm i l z := by
  have hk : (i == 0) = false := by simp; omega
  have hr := in63 (i := i) (by omega) hi1
  rcases four hm4 with rfl | rfl | rfl | rfl
  · by_cases h1 : c = 92
    · subst h1
      exact (P.p10b x word wt way yt (St bd) bt k kk mm i hk l z hl hm hb hr hc (fun bt kk => by rw [enc_t]; exact H bt kk))
    · by_cases h2 : c = 34
      · subst h2
        exact (P.p10q x word wt way yt (St bd) bt k kk mm i hk l z hl hm hb hr hc (fun bt kk => by rw [enc_t]; exact H bt kk))
      · have e : mustB 0 false c = false := by simp [mustB, h1, h2]
        rw [e] at H
        exact (P.p10o x word wt way yt (St bd) bt k kk mm i hk l z hl hm hb c hr hc h1 h2 (fun bt kk => by rw [enc_f]; exact H bt kk))
  · by_cases h1 : c = 92
    · subst h1
      exact (P.p11b x word wt way yt (St bd) bt k kk mm i hk l z hl hm hb hr hc (fun bt kk => by rw [enc_t]; exact H bt kk))
    · by_cases h3 : c = 32 ∨ c = 10
      · have e : mustB 1 false c = true := by rcases h3 with rfl | rfl <;> rfl
        rw [e] at H
        exact (P.p11w x word wt way yt (St bd) bt k kk mm i hk l z hl hm hb c hr hc h1 h3 (fun bt kk => by rw [enc_t]; exact H bt kk))
      · have e : mustB 1 false c = false := by simp [mustB, h1]; omega
        rw [e] at H
        exact (P.p11o x word wt way yt (St bd) bt k kk mm i hk l z hl hm hb c hr hc h1 h3 (fun bt kk => by rw [enc_f]; exact H bt kk))
  · exact (P.p12a x word wt way yt (St bd) bt k kk mm i hk l z hl hm hb c hr hc (fun bt kk => by rw [enc_t]; exact H bt kk))
  · exact (P.p13a x word wt way yt (St bd) bt k kk mm i hk l z hl hm hb c hr hc (fun bt kk => by rw [enc_t]; exact H bt kk))
theorem pc_step0 {x : PF} {wt yt : Nat} {bd : List Nat} {bt : Nat} {l : Int} {z : PZ} {c : Nat} (hl : 0 < l) (hb : (St bd).length + 2 ≤ sizeLine)
    (hc : (seqIndex? 0 word.length).bind (word.cps[·]?) = some c) (H : ∀ x bt kk, PcOk prog w kt x word wt way yt (St (bd ++ enc1 (mustB m true c) c)) bt 0 kk (mustB m true c) (0 + 1) (l - 1) z) :
    PcOk0 prog w kt x word wt way yt (St bd) bt 0 l z := by
  rcases four hm4 with rfl | rfl | rfl | rfl
  · by_cases h1 : c = 92
    · subst h1
      exact (P.p00b x word wt way yt (St bd) bt l z hl hm hb in63z hc (fun j3 j4 bt kk => by rw [enc_t]; exact H _ bt kk))
    · by_cases h2 : c = 34
      · subst h2
        exact (P.p00q x word wt way yt (St bd) bt l z hl hm hb in63z hc (fun j3 j4 bt kk => by rw [enc_t]; exact H _ bt kk))
      · have e : mustB 0 true c = false := by simp [mustB, h1, h2]
        rw [e] at H
        exact (P.p00o x word wt way yt (St bd) bt l z hl hm hb c in63z hc h1 h2 (fun j3 j4 bt kk => by rw [enc_f]; exact H _ bt kk))
  · by_cases h1 : c = 92
    · subst h1
      exact (P.p01b x word wt way yt (St bd) bt l z hl hm hb in63z hc (fun j3 j4 bt kk => by rw [enc_t]; exact H _ bt kk))
    · by_cases h2 : c = 34
      · subst h2
        exact (P.p01q x word wt way yt (St bd) bt l z hl hm hb in63z hc (fun j3 j4 bt kk => by rw [enc_t]; exact H _ bt kk))
      · by_cases h3 : c = 32 ∨ c = 10
        · have e : mustB 1 true c = true := by rcases h3 with rfl | rfl <;> rfl
          rw [e] at H
          exact (P.p01w x word wt way yt (St bd) bt l z hl hm hb c in63z hc h1 h2 h3 (fun j3 j4 bt kk => by rw [enc_t]; exact H _ bt kk))
        · have e : mustB 1 true c = false := by simp [mustB, h1, h2]; omega
          rw [e] at H
          exact (P.p01o x word wt way yt (St bd) bt l z hl hm hb c in63z hc h1 h2 h3 (fun j3 j4 bt kk => by rw [enc_f]; exact H _ bt kk))
  · exact (P.p02a x word wt way yt (St bd) bt l z hl hm hb c in63z hc (fun j3 j4 bt kk => by rw [enc_t]; exact H _ bt kk))
  · exact (P.p03a x word wt way yt (St bd) bt l z hl hm hb c in63z hc (fun j3 j4 bt kk => by rw [enc_t]; exact H _ bt kk))
theorem pc_loop {wd : List Nat} (hwd : word = St wd) (hsz : wd.length ≤ 1000) : ∀ (rest pre bd : List Nat) (k : Int) (mm : Bool) (i l : Int), wd = pre ++ rest → 0 < i → i = (pre.length : Nat) → l = (rest.length : Nat) → bd.length ≤ 2 * pre.length →
    ∃ z : PZ, z.r = St (bd ++ flat (its m false rest)) ∧ ∀ x wt yt bt kk, PcOk prog w kt x word wt way yt (St bd) bt k kk mm i l z
  | [], pre, bd, k, mm, i, l, hw, h0, hi, hl, hb => by
    refine ⟨⟨St bd, k, mm, i, l⟩, by simp [its, flat], fun x wt yt bt kk => ?_⟩
    have z := (P.pE x word wt way yt (St bd) bt k kk mm i l (by rw [hl]; simp))
    intro A s R a1 a2 a3 a4 a5 a6 a7 a8 a9 hR
    exact z A s R a1 a2 a3 a4 a5 a6 a7 a8 a9 fun as ts h' tk' la lt' f f1 f2 hk => hR as [bt, kk] h' tk' la rfl f f1 f2 hk
  | c :: rest, pre, bd, k, mm, i, l, hw, h0, hi, hl, hb => by
    have hlen : pre.length + (rest.length + 1) = wd.length := by rw [hw]; simp
    obtain ⟨z, hz, ih⟩ := pc_loop hwd hsz rest (pre ++ [c]) (bd ++ enc1 (mustB m false c) c) i (mustB m false c) (i + 1) (l - 1) (by rw [hw]; simp) (by omega) (by rw [hi]; simp) (by rw [hl]; simp) (by
      have : (enc1 (mustB m false c) c).length ≤ 2 := by cases mustB m false c <;> simp [enc1]
      simp only [List.length_append, List.length_cons, List.length_nil]; omega)
    refine ⟨z, by rw [hz]; show _ = St (bd ++ flat ((mustB m false c, c) :: its m false rest)); rw [flat_cons, List.append_assoc], fun x wt yt bt kk => ?_⟩
    have h20 : 3000 ≤ sizeLine := by decide
    exact pc_step P hm hm4 h0 (by rw [hi]; omega) (by rw [hl]; simp) (by rw [st_len]; omega) (by rw [hwd]; exact at_pre hw hi) (fun bt kk => ih x wt yt bt kk)
end
noncomputable def leadL (q : Nat) : List Nat := match q with
  | 0 => []
  | 1 => [9]
  | 2 => [10]
  | _ => [13, 32]
theorem lead_st (q : Nat) : leadOf q = St (leadL q) := by
  match q with
  | 0 => rfl
  | 1 => rfl
  | 2 => rfl
  | _ + 3 => rfl
noncomputable def tailC (r : Nat) : Nat := match r with
  | 0 => 32
  | 1 => 10
  | 2 => 9
  | _ => 13
noncomputable def pieceL (wd : List Nat) (m q r : Nat) : List Nat := match m with
  | 0 => leadL q ++ (34 :: (flat (its 0 true wd) ++ [34]))
  | 3 => leadL q ++ (34 :: (flat (its 3 true wd) ++ [34]))
  | m => leadL q ++ (flat (its m true wd) ++ [tailC r])
theorem pieceOk (P : RunsPiece prog w kt) (C : RunsPc prog w kt) {wd : List Nat} (h0 : wd ≠ []) (hsz : wd.length ≤ 1000) {way : Int} {m q r : Nat} (hm : Int.fmod way 4 = (m : Nat)) (hm4 : m < 4)
    (hq : Int.fmod (Int.fdiv way 4) 4 = (q : Nat)) (hq4 : q < 4) (hr : Int.fmod (Int.fdiv way 16) 4 = (r : Nat)) (hr4 : r < 4) : PieceOk prog w kt (St wd) way (St (pieceL wd m q r)) := by
  intro wt yt
  obtain ⟨c, rest, rfl⟩ : ∃ c rest, wd = c :: rest := by
    cases wd with
    | nil => exact absurd rfl h0
    | cons c r => exact ⟨c, r, rfl⟩
  have h20 : 3000 ≤ sizeLine := by decide
  obtain ⟨z, hz, ih⟩ := pc_loop P hm hm4 (wd := c :: rest) rfl hsz rest [c] ([] ++ enc1 (mustB m true c) c) 0 (mustB m true c) 1 (rest.length : Nat) rfl (by decide) rfl rfl (by cases mustB m true c <;> simp [enc1])
  have hz' : z.r = St (flat (its m true (c :: rest))) := by rw [hz]; show _ = St (flat ((mustB m true c, c) :: its m false rest)); rw [flat_cons, List.nil_append]
  have hlw : ((St (c :: rest)).length : Nat) < (2 : Int) ^ 62 := by rw [st_len]; have : (2:Int)^62 > 1000 := by decide
                                                                    omega
  have hzl : z.r.length + 9 ≤ sizeLine := by
    rw [hz', st_len]
    have := flat_len (its m true (c :: rest))
    rw [its_len] at this
    omega
  have H : ∀ fr it j0 j1 j2 bt, PcOk0 prog w kt (pf0 w fr it j0 j1 j2) (St (c :: rest)) wt way yt ⟨#[]⟩ bt 0 ((St (c :: rest)).length : Nat) z := fun fr it j0 j1 j2 bt =>
    pc_step0 P hm hm4 (bd := []) (l := ((St (c :: rest)).length : Nat)) (by rw [st_len]; simp) (by rw [st_len]; simp only [List.length_nil]; omega) (at_pre (pre := []) rfl rfl) (fun x bt kk => by
      have e : (((St (c :: rest)).length : Nat) : Int) - 1 = ((rest.length : Nat) : Int) := by rw [st_len]; simp
      rw [e]; exact ih x wt yt bt kk)
  have hrc : (seqIndex? ((r : Nat) : Int) 4).bind ((⟨#[32, 10, 9, 13]⟩ : Str).cps[·]?) = some (tailC r) := by
    rcases four hr4 with rfl | rfl | rfl | rfl <;> rfl
  have hr63 : (decide (((r : Nat) : Int) < -(2 ^ 63 : Int)) || decide (((r : Nat) : Int) ≥ 2 ^ 63)) = false := by simp; omega
  rcases four hm4 with rfl | rfl | rfl | rfl
  · have e : leadOf q ++ (⟨#[34]⟩ : Str) ++ z.r ++ (⟨#[34]⟩ : Str) = St (pieceL (c :: rest) 0 q r) := by
      rw [hz', lead_st, st_one, st_app, st_app, st_app]; simp [pieceL]
    rw [← e]
    exact (C.pc0 (St (c :: rest)) wt way yt hlw hm q hq4 hq z hzl H)
  · have e : leadOf q ++ z.r ++ (⟨#[tailC r]⟩ : Str) = St (pieceL (c :: rest) 1 q r) := by
      rw [hz', lead_st, st_one, st_app, st_app]; simp [pieceL]
    rw [← e]
    exact (C.pc1 (St (c :: rest)) wt way yt hlw hm q hq4 hq (r : Nat) (tailC r) hr hr63 hrc z hzl H)
  · have e : leadOf q ++ z.r ++ (⟨#[tailC r]⟩ : Str) = St (pieceL (c :: rest) 2 q r) := by
      rw [hz', lead_st, st_one, st_app, st_app]; simp [pieceL]
    rw [← e]
    exact (C.pc2 (St (c :: rest)) wt way yt hlw hm q hq4 hq (r : Nat) (tailC r) hr hr63 hrc z hzl H)
  · have e : leadOf q ++ (⟨#[34]⟩ : Str) ++ z.r ++ (⟨#[34]⟩ : Str) = St (pieceL (c :: rest) 3 q r) := by
      rw [hz', lead_st, st_one, st_app, st_app, st_app]; simp [pieceL]
    rw [← e]
    exact (C.pc3 (St (c :: rest)) wt way yt hlw hm q hq4 hq z hzl H)
end
end
section
open PySem PySem.Spec PySem.Calls PySem.W PySem.W.X
section
variable {prog : Program} {w : World} {kt : KT}
noncomputable def pieceC (wd : List Nat) (m q : Nat) : List Nat := match m with
  | 0 => leadL q ++ (34 :: flat (its 0 true wd))
  | 3 => leadL q ++ (34 :: flat (its 3 true wd))
  | m => leadL q ++ flat (its m true wd)
noncomputable def endC (m r : Nat) : Nat := match m with
  | 0 => 34
  | 3 => 34
  | _ => tailC r
theorem piece_cut (wd : List Nat) (m q r : Nat) (hm4 : m < 4) : pieceL wd m q r = pieceC wd m q ++ [endC m r] := by
  rcases four hm4 with rfl | rfl | rfl | rfl <;> simp [pieceL, pieceC, endC]
theorem lead_w (q : Nat) : ∀ c ∈ leadL q, isW c = true := by
  match q with
  | 0 => intro c h; cases h
  | 1 => intro c h; simp [leadL] at h; subst h; rfl
  | 2 => intro c h; simp [leadL] at h; subst h; rfl
  | _ + 3 => intro c h; simp [leadL] at h; rcases h with rfl | rfl <;> rfl
theorem tail_w (r : Nat) : isW (tailC r) = true := by
  match r with
  | 0 => rfl
  | 1 => rfl
  | 2 => rfl
  | _ + 3 => rfl
noncomputable def GoodW (wd : List Nat) : Prop := ∀ c ∈ wd, 0 < c ∧ c ≠ 9 ∧ c ≠ 13
theorem goodQ0 : ∀ (f : Bool) (wd : List Nat), GoodW wd → GoodQ (its 0 f wd)
  | _, [], _ => trivial
  | f, c :: r, h => ⟨(h c (.head _)).1, fun hb => by
      simp [mustB] at hb; omega, goodQ0 false r fun c hc => h c (.tail _ hc)⟩
theorem goodQ3 : ∀ (f : Bool) (wd : List Nat), GoodW wd → GoodQ (its 3 f wd)
  | _, [], _ => trivial
  | f, c :: r, h => ⟨(h c (.head _)).1, fun hb => by
      simp [mustB] at hb, goodQ3 false r fun c hc => h c (.tail _ hc)⟩
theorem goodU1 : ∀ (f : Bool) (wd : List Nat), GoodW wd → GoodU (its 1 f wd)
  | _, [], _ => trivial
  | f, c :: r, h => ⟨(h c (.head _)).1, fun hb => by
      obtain ⟨h0, h9, h13⟩ := h c (.head _)
      simp [mustB] at hb
      refine ⟨?_, by omega⟩
      simp [isW]
      omega, goodU1 false r fun c hc => h c (.tail _ hc)⟩
theorem goodU2 : ∀ (f : Bool) (wd : List Nat), GoodW wd → GoodU (its 2 f wd)
  | _, [], _ => trivial
  | f, c :: r, h => ⟨(h c (.head _)).1, fun hb => by
      simp [mustB] at hb, goodU2 false r fun c hc => h c (.tail _ hc)⟩
variable (X : RunsRC prog w kt) (Y : RunsRF prog w kt) (L : RunsLex prog w kt) {fo : Obj} {fd : FuncData} (k35 : kt.get 35 = some fo) (k35f : fo.data = .func fd)
include X Y L k35 k35f
theorem gt_piece {p : LP} (h2 : 2 ≤ p.text.length) {s : LS} {ep : Nat} {wd : List Nat} (h0 : wd ≠ []) (hg : GoodW wd) (hs : wd.length ≤ 900) {m q r : Nat} (hm4 : m < 4) (e : Bool) (pre rest st : List Nat) (hst : match e with | true => st = [] ∧ rest = [] | false => st = [endC m r])
    (hp : p.text = St (pre ++ (pieceC wd m q ++ (st ++ rest)))) (hi : s.i = (pre.length : Nat)) :
    GTOk prog w kt p s ep (s.i + ((pieceC wd m q ++ st).length : Nat)) (s.l + (nl (pieceC wd m q ++ st) : Nat)) (St wd) := by
  have hst1 : (m = 0 ∨ m = 3) → match (generalizing := false) e with | true => st = [] ∧ rest = [] | false => st = [34] := by
    intro hm
    cases e with
    | true => exact hst
    | false => rcases hm with rfl | rfl <;> exact hst
  have hst2 : (m = 1 ∨ m = 2) → match (generalizing := false) e with | true => st = [] ∧ rest = [] | false => ∃ c, st = [c] ∧ isW c = true := by
    intro hm
    cases e with
    | true => exact hst
    | false => rcases hm with rfl | rfl <;> exact ⟨tailC r, hst, tail_w r⟩
  rcases four hm4 with rfl | rfl | rfl | rfl
  · have e1 : pieceC wd 0 q ++ st = leadL q ++ (34 :: (flat (its 0 true wd) ++ st)) := by simp [pieceC]
    have := gt_q X Y L k35 k35f h2 (s := s) (ep := ep) rest e st (hst1 (.inl rfl)) (its 0 true wd) pre (leadL q) (by rw [hp]; simp [pieceC]) hi (lead_w q) (goodQ0 true wd hg) (by rw [its_len]; omega)
    rw [dec_its, ← e1] at this
    exact this
  · obtain ⟨c, wr, rfl⟩ : ∃ c wr, wd = c :: wr := by
      cases wd with
      | nil => exact absurd rfl h0
      | cons c r => exact ⟨c, r, rfl⟩
    have e1 : pieceC (c :: wr) 1 q ++ st = leadL q ++ (flat ((mustB 1 true c, c) :: its 1 false wr) ++ st) := by simp [pieceC, its]
    have := gt_u X Y L k35 k35f h2 (s := s) (ep := ep) rest e st (hst2 (.inl rfl)) (mustB 1 true c) c (its 1 false wr) pre (leadL q) (by rw [hp]; simp [pieceC, its]) hi (lead_w q) (goodU1 true (c :: wr) hg) (fun hb => by simp [mustB] at hb; omega) (by rw [its_len]; simp at hs; omega)
    have e2 : dec ((mustB 1 true c, c) :: its 1 false wr) = c :: wr := dec_its 1 true (c :: wr)
    rw [e2, ← e1] at this
    exact this
  · obtain ⟨c, wr, rfl⟩ : ∃ c wr, wd = c :: wr := by
      cases wd with
      | nil => exact absurd rfl h0
      | cons c r => exact ⟨c, r, rfl⟩
    have e1 : pieceC (c :: wr) 2 q ++ st = leadL q ++ (flat ((mustB 2 true c, c) :: its 2 false wr) ++ st) := by simp [pieceC, its]
    have := gt_u X Y L k35 k35f h2 (s := s) (ep := ep) rest e st (hst2 (.inr rfl)) (mustB 2 true c) c (its 2 false wr) pre (leadL q) (by rw [hp]; simp [pieceC, its]) hi (lead_w q) (goodU2 true (c :: wr) hg) (fun hb => by simp [mustB] at hb) (by rw [its_len]; simp at hs; omega)
    have e2 : dec ((mustB 2 true c, c) :: its 2 false wr) = c :: wr := dec_its 2 true (c :: wr)
    rw [e2, ← e1] at this
    exact this
  · have e1 : pieceC wd 3 q ++ st = leadL q ++ (34 :: (flat (its 3 true wd) ++ st)) := by simp [pieceC]
    have := gt_q X Y L k35 k35f h2 (s := s) (ep := ep) rest e st (hst1 (.inr rfl)) (its 3 true wd) pre (leadL q) (by rw [hp]; simp [pieceC]) hi (lead_w q) (goodQ3 true wd hg) (by rw [its_len]; omega)
    rw [dec_its, ← e1] at this
    exact this
end
end
section
open PySem PySem.Spec PySem.Calls PySem.W PySem.W.X
section
noncomputable def idx (c : Nat) : Nat → List Nat → List Nat
  | _, [] => []
  | k, d :: r => if d = c then k :: idx c (k + 1) r else idx c (k + 1) r
theorem occ_aux (x : Str) (c limit : Nat) (hl : x.length < limit) : ∀ (rest pre : List Nat) (st : Array Nat × Nat), x.cps.toList = pre ++ rest → st.1.size ≤ pre.length → st.2 ≤ pre.length →
    (forIn (List.range' pre.length (rest.length + 1)) st (StrLaws.occBody x ⟨#[c]⟩ x.length limit)).run.fst.toList = st.1.toList ++ idx c pre.length rest
  | [], pre, st, hx, h1, h2 => by
    have hn : x.cps.toList[pre.length]? = none := by rw [hx]; simp
    have hno : ¬ (((st.fst.size < limit ∧ st.snd ≤ pre.length) ∧ pre.length + (⟨#[c]⟩ : Str).length ≤ x.length) ∧ Builtin.Str.subAt x ⟨#[c]⟩ pre.length = true) := by
      intro h
      have := (StrLaws.subAt_one x c pre.length).mp ⟨h.1.2, h.2⟩
      rw [hn] at this; cases this
    rw [show List.range' pre.length (([] : List Nat).length + 1) = [pre.length] from rfl, List.forIn_cons]
    unfold StrLaws.occBody
    rw [if_neg hno]
    simp [idx]
  | d :: rest, pre, st, hx, h1, h2 => by
    have hd : x.cps.toList[pre.length]? = some d := by rw [hx]; simp
    have hxl : x.length = pre.length + (rest.length + 1) := by
      have : x.cps.toList.length = x.length := Array.length_toList
      rw [← this, hx]; simp
    rw [show (d :: rest).length + 1 = (rest.length + 1) + 1 from rfl, List.range'_succ, List.forIn_cons]
    unfold StrLaws.occBody
    by_cases hc : d = c
    · subst hc
      have := (StrLaws.subAt_one x d pre.length).mpr hd
      rw [if_pos ⟨⟨⟨by omega, h2⟩, this.1⟩, this.2⟩]
      have ih := occ_aux x d limit hl rest (pre ++ [d]) (st.1.push pre.length, pre.length + (⟨#[d]⟩ : Str).length) (by rw [hx]; simp) (by simp; omega) (by simp [Str.length])
      rw [show (pre ++ [d]).length = pre.length + 1 by simp] at ih
      refine Eq.trans ih ?_
      simp [idx]
    · have hno : ¬ (((st.fst.size < limit ∧ st.snd ≤ pre.length) ∧ pre.length + (⟨#[c]⟩ : Str).length ≤ x.length) ∧ Builtin.Str.subAt x ⟨#[c]⟩ pre.length = true) := by
        intro h
        have := (StrLaws.subAt_one x c pre.length).mp ⟨h.1.2, h.2⟩
        rw [hd] at this; cases this; exact hc rfl
      rw [if_neg hno]
      have ih := occ_aux x c limit hl rest (pre ++ [d]) st (by rw [hx]; simp) (by simp; omega) (by simp; omega)
      rw [show (pre ++ [d]).length = pre.length + 1 by simp] at ih
      refine Eq.trans ih ?_
      simp [idx, hc]
theorem occ_one (l : List Nat) (c : Nat) : Builtin.Str.occurrences (St l) ⟨#[c]⟩ 0 (St l).length ((St l).length + 1) = idx c 0 l := by
  rw [StrLaws.occ_eq]
  have := occ_aux (St l) c ((St l).length + 1) (Nat.lt_succ_self _) l [] (#[], 0) rfl (Nat.le_refl _) (Nat.le_refl _)
  refine Eq.trans ?_ (Eq.trans this (by simp))
  rfl
theorem idx_nl : ∀ (l : List Nat) (k : Nat), (idx 10 k l).length = nl l
  | [], _ => rfl
  | d :: r, k => by
    unfold idx nl
    split
    · rw [List.length_cons, idx_nl]; omega
    · rw [idx_nl]; omega
theorem idx_no (c : Nat) : ∀ (l : List Nat) (k : Nat), c ∉ l → idx c k l = []
  | [], _, _ => rfl
  | d :: r, k, h => by
    unfold idx
    rw [if_neg (fun e => h (by rw [e]; exact .head _))]
    exact idx_no c r _ fun hm => h (.tail _ hm)
theorem idx_at (c : Nat) : ∀ (u v : List Nat) (k : Nat), c ∉ u → c ∉ v → idx c k (u ++ c :: v) = [k + u.length]
  | [], v, k, _, hv => by
    show (if c = c then k :: idx c (k + 1) v else _) = _
    rw [if_pos rfl, idx_no c v _ hv]; rfl
  | d :: u, v, k, hu, hv => by
    show (if d = c then _ else idx c (k + 1) (u ++ c :: v)) = _
    rw [if_neg (fun e => hu (by rw [e]; exact .head _)), idx_at c u v _ (fun hm => hu (.tail _ hm)) hv, List.length_cons]
    congr 1; omega
theorem cnt_nl (l : List Nat) : (Builtin.Str.occurrences (St l) ⟨#[10]⟩ 0 (St l).length ((St l).length + 1)).length = nl l := by
  rw [occ_one, idx_nl]
theorem parts_of {u v : List Nat} (hu : 46 ∉ u) (hv : 46 ∉ v) (hl : u.length + v.length ≤ 1000) : Parts (St u ++ (⟨#[46]⟩ : Str) ++ St v) ⟨#[46]⟩ (St u) (St v) := by
  have e : St u ++ (⟨#[46]⟩ : Str) ++ St v = St (u ++ 46 :: v) := by rw [st_one, st_app, st_app]; simp
  rw [e]
  have ho := occ_one (u ++ 46 :: v) 46
  rw [idx_at 46 u v 0 hu hv, Nat.zero_add] at ho
  refine ⟨?_, rfl, by rw [ho]; rfl, ?_, ?_⟩
  · have h1 : ¬ (St (u ++ 46 :: v)).length < (⟨#[46]⟩ : Str).length := by
      rw [st_len]; simp [Str.length]
    have h2 : ¬ Builtin.Str.strKind (St (u ++ 46 :: v)) < Builtin.Str.strKind ⟨#[46]⟩ := by
      have : Builtin.Str.strKind ⟨#[46]⟩ = 1 := by unfold Builtin.Str.strKind; simp
      rw [this]
      unfold Builtin.Str.strKind
      split
      · omega
      · split <;> omega
    simp [h1, h2]
  · rw [st_len]
    have : 2000 ≤ sizeLine := by decide
    simp; omega
  · rw [ho]
    unfold Builtin.Str.partsBetween Builtin.Str.strSub
    simp [St, Str.length]
    rw [show u.length + (v.length + 1) - (u.length + 1) = v.length by omega]
    exact List.take_length
open NumText in
theorem int_gen {fr sg ds bk : List Nat} (hf : ∀ c ∈ fr, blank c = true ∧ c < 128 ∧ c ≠ 0) (hs : sg = [] ∨ sg = [43]) (hb : ∀ c ∈ bk, blank c = true ∧ c < 128 ∧ c ≠ 0) (hd : AllDigits ds) (h0 : ds ≠ []) (hl : ds.length ≤ 4000) :
    PySem.intText? (St (fr ++ (sg ++ (ds ++ bk)))) = some ((digitsVal ds : Nat) : Int) := by
  have hall : ∀ c ∈ fr ++ (sg ++ (ds ++ bk)), c < 128 ∧ c ≠ 0 := by
    intro c hc
    rcases List.mem_append.mp hc with hc | hc
    · exact (hf c hc).2
    · rcases List.mem_append.mp hc with hc | hc
      · rcases hs with rfl | rfl
        · cases hc
        · have : c = 43 := by simpa using hc
          omega
      · rcases List.mem_append.mp hc with hc | hc
        · have := hd c hc; omega
        · exact (hb c hc).2
  have e1 : numTextOf (St (fr ++ (sg ++ (ds ++ bk)))) = fr ++ (sg ++ (ds ++ bk)) := by
    refine if_pos ?_
    rw [← Array.all_toList, List.all_eq_true]
    intro c hc
    exact decide_eq_true (hall c hc).1
  have e2 : numSeenOf (St (fr ++ (sg ++ (ds ++ bk)))) = fr ++ (sg ++ (ds ++ bk)) := by
    show (numTextOf _).takeWhile _ = _
    rw [e1]
    exact takeWhile_all fun c hc => bne_iff_ne.mpr (hall c hc).2
  obtain ⟨d, ds', rfl⟩ : ∃ d ds', ds = d :: ds' := by
    cases ds with
    | nil => exact absurd rfl h0
    | cons a b => exact ⟨a, b, rfl⟩
  have hd0 := hd.head
  have drop : ∀ (fr l : List Nat), (∀ c ∈ fr, blank c = true) → (fr ++ l).dropWhile blank = l.dropWhile blank := by
    intro fr l
    induction fr with
    | nil => intro _; rfl
    | cons c r ih =>
      intro h
      rw [List.cons_append, List.dropWhile_cons, if_pos (h c (.head _))]
      exact ih fun c hc => h c (.tail _ hc)
  have e3 : (fr ++ (sg ++ (d :: ds' ++ bk))).dropWhile blank = sg ++ (d :: ds' ++ bk) := by
    rw [drop fr _ fun c hc => (hf c hc).1]
    rcases hs with rfl | rfl
    · show (d :: (ds' ++ bk)).dropWhile blank = _
      rw [List.dropWhile_cons, if_neg (by rw [blank_of (by omega)]; exact Bool.false_ne_true)]
      rfl
    · rfl
  have e4 : sign (sg ++ (d :: ds' ++ bk)) = (false, d :: ds' ++ bk) := by
    rcases hs with rfl | rfl
    · exact sign_of (by omega) (by omega)
    · rfl
  have e5 : core (fr ++ (sg ++ (d :: ds' ++ bk))) = d :: ds' := by
    unfold core
    rw [e3, e4]
    show ((d :: ds' ++ bk).reverse.dropWhile blank).reverse = d :: ds'
    rw [List.reverse_append, drop bk.reverse _ fun c hc => (hb c (List.mem_reverse.mp hc)).1, dropWhile_digits hd.reverse, List.reverse_reverse]
  unfold PySem.intText?
  rw [e2, e1, if_pos (beq_self_eq_true _), e5, e3, e4, digits_of hd h0]
  have hsz := push_size (d :: ds') #[]
  have hv := push_foldl (d :: ds') #[]
  show (if _ ≤ 4300 then some (worth false _) else none) = _
  rw [if_pos (by rw [hsz]; simp only [Array.size_empty]; omega)]
  unfold worth digitsVal
  rw [hv]
  rfl
theorem strI_list (n : Int) : strI n = St (strI n).cps.toList := rfl
theorem strI_digits {n : Int} (h0 : 0 ≤ n) : NumText.AllDigits (strI n).cps.toList := by
  obtain ⟨m, rfl⟩ := Int.eq_ofNat_of_zero_le h0
  intro c hc
  rw [KIN.signs_num] at hc
  obtain ⟨ch, hch, e⟩ := List.mem_map.mp hc
  have r := PyProof.Rows.digit_range (Nat.isDigit_of_mem_toDigits (by decide) (by decide) hch)
  rw [← e]
  exact r
theorem strI_ne {n : Int} (h0 : 0 ≤ n) : (strI n).cps.toList ≠ [] := by
  obtain ⟨m, rfl⟩ := Int.eq_ofNat_of_zero_le h0
  rw [KIN.signs_num]
  intro e
  have h := toDigits_len_ge 10 m
  rw [List.map_eq_nil_iff.mp e] at h
  exact absurd h (by decide)
theorem strI_val {n : Int} (h0 : 0 ≤ n) : ((NumText.digitsVal (strI n).cps.toList : Nat) : Int) = n := by
  obtain ⟨m, rfl⟩ := Int.eq_ofNat_of_zero_le h0
  rw [KIN.signs_num, KIN.val_back]
theorem strI_len {n : Int} (h0 : 0 ≤ n) (h1 : n < 10 ^ 10) : (strI n).cps.toList.length ≤ 10 := by
  have : (strI n).length ≤ 10 := KT.len_num h0 h1
  exact this
end
end
section
open PySem PySem.Spec PySem.Calls PySem.W PySem.W.X
section
open NumText (AllDigits digitsVal)
noncomputable def di (n : Int) : List Nat := (strI n).cps.toList
theorem no46 {l : List Nat} (h : AllDigits l) : 46 ∉ l := fun hm => by have := h 46 hm; omega
theorem wd_dot {x y : Int} (h0 : 0 ≤ x) (h1 : x < 10 ^ 10) (h2 : 0 ≤ y) (h3 : y < 10 ^ 10) : Wd (strI x ++ (⟨#[46]⟩ : Str) ++ strI y) x y := by
  have l1 := strI_len h0 h1
  have l2 := strI_len h2 h3
  exact ⟨strI x, strI y, parts_of (u := di x) (v := di y) (no46 (strI_digits h0)) (no46 (strI_digits h2)) (by unfold di; omega), by show (di x).length ≤ 640; unfold di; omega, by show (di y).length ≤ 640; unfold di; omega,
    KIN.num_reads h0 h1, KIN.num_reads h2 h3⟩
noncomputable def wordL (a b : Int) (k : Nat) : List Nat := match k with
  | 0 => di a ++ 46 :: di b
  | 1 => (43 :: di a) ++ 46 :: (48 :: di b)
  | _ => (32 :: (di a ++ [32])) ++ 46 :: (10 :: (di b ++ [32]))
theorem word_st (a b : Int) (k : Nat) : wordOf a b k = St (wordL a b k) := by
  have ea : strI a = St (di a) := rfl
  have eb : strI b = St (di b) := rfl
  match k with
  | 0 =>
    show strI a ++ (⟨#[46]⟩ : Str) ++ strI b = _
    rw [ea, eb, st_one, st_app, st_app]; simp [wordL]
  | 1 =>
    show (⟨#[43]⟩ : Str) ++ strI a ++ St [46, 48] ++ strI b = _
    rw [ea, eb, st_one, st_app, st_app, st_app]; simp [wordL]
  | _ + 2 =>
    show (⟨#[32]⟩ : Str) ++ strI a ++ St [32, 46, 10] ++ strI b ++ (⟨#[32]⟩ : Str) = _
    rw [ea, eb, st_one, st_app, st_app, st_app, st_app]; simp [wordL]
theorem st_split (u v : List Nat) : St (u ++ 46 :: v) = St u ++ (⟨#[46]⟩ : Str) ++ St v := by
  rw [st_one, st_app, st_app]; simp
theorem val_zero (l : List Nat) : digitsVal (48 :: l) = digitsVal l := rfl
theorem wd_word {a b : Int} (h0 : 0 ≤ a) (h1 : a < 10 ^ 10) (h2 : 0 ≤ b) (h3 : b < 10 ^ 10) (k : Nat) : Wd (wordOf a b k) a b := by
  have l1 : (di a).length ≤ 10 := strI_len h0 h1
  have l2 : (di b).length ≤ 10 := strI_len h2 h3
  have da : AllDigits (di a) := strI_digits h0
  have db : AllDigits (di b) := strI_digits h2
  have na : di a ≠ [] := strI_ne h0
  have nb : di b ≠ [] := strI_ne h2
  have va : ((digitsVal (di a) : Nat) : Int) = a := strI_val h0
  have vb : ((digitsVal (di b) : Nat) : Int) = b := strI_val h2
  match k with
  | 0 => exact wd_dot h0 h1 h2 h3
  | 1 =>
    rw [word_st]
    show Wd (St ((43 :: di a) ++ 46 :: (48 :: di b))) a b
    rw [st_split]
    have d0 : AllDigits (48 :: di b) := fun c hc => by
      rcases List.mem_cons.mp hc with rfl | hc
      · omega
      · exact db c hc
    have i1 := int_gen (fr := []) (sg := [43]) (ds := di a) (bk := []) (fun c hc => nomatch hc) (.inr rfl) (fun c hc => nomatch hc) da na (by omega)
    have i2 := int_gen (fr := []) (sg := []) (ds := 48 :: di b) (bk := []) (fun c hc => nomatch hc) (.inl rfl) (fun c hc => nomatch hc) d0 (by simp) (by simp; omega)
    rw [va] at i1
    rw [val_zero, vb] at i2
    refine ⟨St (43 :: di a), St (48 :: di b), parts_of ?_ (no46 d0) ?_, ?_, ?_, ?_, ?_⟩
    · intro hm
      rcases List.mem_cons.mp hm with h | h
      · cases h
      · exact no46 da h
    · simp; omega
    · rw [st_len]; simp; omega
    · rw [st_len]; simp; omega
    · simpa using i1
    · simpa using i2
  | _ + 2 =>
    rw [word_st]
    show Wd (St ((32 :: (di a ++ [32])) ++ 46 :: (10 :: (di b ++ [32])))) a b
    rw [st_split]
    have i1 := int_gen (fr := [32]) (sg := []) (ds := di a) (bk := [32]) (fun c hc => by simp at hc; subst hc; exact ⟨rfl, by decide, by decide⟩) (.inl rfl) (fun c hc => by simp at hc; subst hc; exact ⟨rfl, by decide, by decide⟩) da na (by omega)
    have i2 := int_gen (fr := [10]) (sg := []) (ds := di b) (bk := [32]) (fun c hc => by simp at hc; subst hc; exact ⟨rfl, by decide, by decide⟩) (.inl rfl) (fun c hc => by simp at hc; subst hc; exact ⟨rfl, by decide, by decide⟩) db nb (by omega)
    rw [va] at i1
    rw [vb] at i2
    refine ⟨St (32 :: (di a ++ [32])), St (10 :: (di b ++ [32])), parts_of ?_ ?_ ?_, ?_, ?_, ?_, ?_⟩
    · intro hm
      simp at hm
      exact no46 da hm
    · intro hm
      simp at hm
      exact no46 db hm
    · simp; omega
    · rw [st_len]; simp; omega
    · rw [st_len]; simp; omega
    · simpa using i1
    · simpa using i2
theorem word_good {a b : Int} (h0 : 0 ≤ a) (h2 : 0 ≤ b) (k : Nat) : GoodW (wordL a b k) := by
  have da : AllDigits (di a) := strI_digits h0
  have db : AllDigits (di b) := strI_digits h2
  intro c hc
  have : c ∈ di a ∨ c ∈ di b ∨ c = 46 ∨ c = 43 ∨ c = 48 ∨ c = 32 ∨ c = 10 := by
    match k, hc with
    | 0, hc => simp [wordL] at hc; rcases hc with h | h | h <;> simp [h]
    | 1, hc => simp [wordL] at hc; rcases hc with h | h | h | h | h <;> simp [h]
    | _ + 2, hc => simp [wordL] at hc; rcases hc with h | h | h | h | h | h | h <;> simp [h]
  rcases this with h | h | h
  · have := da c h; omega
  · have := db c h; omega
  · omega
theorem word_len {a b : Int} (h0 : 0 ≤ a) (h1 : a < 10 ^ 10) (h2 : 0 ≤ b) (h3 : b < 10 ^ 10) (k : Nat) : (wordL a b k).length ≤ 30 := by
  have l1 : (di a).length ≤ 10 := strI_len h0 h1
  have l2 : (di b).length ≤ 10 := strI_len h2 h3
  match k with
  | 0 => simp [wordL]; omega
  | 1 => simp [wordL]; omega
  | _ + 2 => simp [wordL]; omega
theorem word_ne {a b : Int} (k : Nat) : wordL a b k ≠ [] := by
  match k with
  | 0 => simp [wordL]
  | 1 => simp [wordL]
  | _ + 2 => simp [wordL]
noncomputable def othL : List Nat := [35, 32, 34, 92, 110, 32]
theorem oth_good : GoodW othL := by
  intro c hc
  simp [othL] at hc
  omega
theorem piece_len {wd : List Nat} {m q r : Nat} (hm4 : m < 4) : (pieceC wd m q).length ≤ 2 * wd.length + 3 := by
  have hq : (leadL q).length ≤ 2 := by
    match q with
    | 0 => simp [leadL]
    | 1 => simp [leadL]
    | 2 => simp [leadL]
    | _ + 3 => simp [leadL]
  have f := fun m => flat_len (its m true wd)
  simp only [its_len] at f
  rcases four hm4 with rfl | rfl | rfl | rfl
  · have := f 0; simp [pieceC]; omega
  · have := f 1; simp [pieceC]; omega
  · have := f 2; simp [pieceC]; omega
  · have := f 3; simp [pieceC]; omega
theorem piece_pos {wd : List Nat} {m q : Nat} (h0 : wd ≠ []) (hm4 : m < 4) : 1 ≤ (pieceC wd m q).length := by
  obtain ⟨c, rest, rfl⟩ : ∃ c rest, wd = c :: rest := by
    cases wd with
    | nil => exact absurd rfl h0
    | cons c r => exact ⟨c, r, rfl⟩
  have f : ∀ m, 1 ≤ (flat (its m true (c :: rest))).length := by
    intro m
    show 1 ≤ (flat ((mustB m true c, c) :: its m false rest)).length
    rw [flat_cons]
    cases mustB m true c <;> simp [enc1] <;> omega
  rcases four hm4 with rfl | rfl | rfl | rfl
  · simp [pieceC]; omega
  · have := f 1; simp [pieceC]; omega
  · have := f 2; simp [pieceC]; omega
  · simp [pieceC]; omega
theorem pick_all : ∀ (l pre suf : List Nat), (List.range' pre.length l.length).filterMap ((⟨pre ++ (l ++ suf)⟩ : Array Nat)[·]?) = l
  | [], pre, suf => rfl
  | d :: l, pre, suf => by
    have h := pick_all l (pre ++ [d]) suf
    rw [show (pre ++ [d]).length = pre.length + 1 by simp, show pre ++ [d] ++ (l ++ suf) = pre ++ (d :: l ++ suf) by simp] at h
    rw [List.length_cons, List.range'_succ, List.filterMap_cons_some (b := d) (by simp), h]
theorem cut_last (l : List Nat) (c : Nat) (t u : Nat) : sliceMade (St (l ++ [c])) t none (some (-1, u)) none = .str (St l) := by
  have e : slicePicked (St (l ++ [c])) none (some ((-1 : Int), u)) none = List.range l.length := by
    unfold slicePicked Builtin.Str.strSliceIndices
    simp only [Option.map_some, Option.map_none, Option.getD_none]
    simp only [show ((1 : Int) > 0) = True from eq_true (by decide), if_true, show ((-1 : Int) < 0) = True from eq_true (by decide)]
    have hl : (((St (l ++ [c])).length : Nat) : Int) = (l.length : Nat) + 1 := by rw [st_len]; simp
    rw [hl]
    rw [show max 0 (min (-1 + (((l.length : Nat) : Int) + 1)) (((l.length : Nat) : Int) + 1)) = ((l.length : Nat) : Int) by omega]
    have := sliceRange_one 0 l.length
    simp at this
    exact this
  unfold sliceMade
  rw [e]
  have h4 : ¬ ((((none : Option (Int × Nat)).map (·.1)).getD 1 == 1 && (List.range l.length).length == (St (l ++ [c])).length) = true) := by
    rw [st_len]
    simp
  rw [if_neg h4]
  congr 1
  show (⟨((List.range l.length).filterMap ((⟨l ++ [c]⟩ : Array Nat)[·]?)).toArray⟩ : Str) = ⟨⟨l⟩⟩
  congr 1
  congr 1
  have := pick_all l [] [c]
  simpa [List.range_eq_range'] using this
end
end
section
open PySem PySem.Spec PySem.Calls PyProof.Rows PySem.W PySem.W.X
structure LDat where
  (c0 c1 c2 c3 : Nat)
  (b0 b1 b2 b3 x1 y1 x2 y2 x3 y3 x4 y4 : Int)
structure LeafP (prog : Program) (w : World) (kt : KT) (A B : Int) (L : Nat) (d : LDat) : Prop where
  bi : ∀ n, Int.fmod n 16 = (L : Int) → Bits n (L : Int) d.c0 d.c1 d.c2 d.c3 d.b0 d.b1 d.b2 d.b3
  v1 : (trV A B)[1 + L / 8]? = some (d.x1, d.y1)
  v2 : (trV A B)[3 + L / 4]? = some (d.x2, d.y2)
  v3 : (trV A B)[7 + L / 2]? = some (d.x3, d.y3)
  v4 : (trV A B)[15 + L]? = some (d.x4, d.y4)
  hc : LbcOk prog w kt d.c0 d.c1 d.c2 d.c3 d.x1 d.y1 A B
  h10 : ∀ c, LbOk prog w kt c d.c0 d.c1 d.c2 d.c3 false 1 d.x1 d.y1 A B
  h11 : ∀ c, LbOk prog w kt c d.c0 d.c1 d.c2 d.c3 true 1 d.x1 d.y1 A B
  h20 : ∀ c, LbOk prog w kt c d.c0 d.c1 d.c2 d.c3 false 2 d.x2 d.y2 A B
  h21 : ∀ c, LbOk prog w kt c d.c0 d.c1 d.c2 d.c3 true 2 d.x2 d.y2 A B
  h30 : ∀ c, LbOk prog w kt c d.c0 d.c1 d.c2 d.c3 false 3 d.x3 d.y3 A B
  h31 : ∀ c, LbOk prog w kt c d.c0 d.c1 d.c2 d.c3 true 3 d.x3 d.y3 A B
  h40 : ∀ c, LbOk prog w kt c d.c0 d.c1 d.c2 d.c3 false 4 d.x4 d.y4 A B
  h41 : ∀ c, LbOk prog w kt c d.c0 d.c1 d.c2 d.c3 true 4 d.x4 d.y4 A B
noncomputable def LeafOk (prog : Program) (w : World) (kt : KT) (A B : Int) (L : Nat) : Prop := ∃ d : LDat, LeafP prog w kt A B L d
theorem s_0 : strI 0 = ⟨#[48]⟩ := by decide +kernel
theorem l2_0 : (0 : Int).natAbs.log2 < 1920 := by decide
theorem l2_1 : (1 : Int).natAbs.log2 < 1920 := by decide
theorem s_1 : strI 1 = ⟨#[49]⟩ := by decide +kernel
section
variable {prog : Program} {w : World} {kt : KT} (K : RunsK prog w kt) (G : RunsG prog w kt) (S : RunsS prog w kt) (R : RunsR prog w kt) (F : RunsF prog w kt) (Z : RunsCK prog w kt) (C : RunsC prog w kt) (H : RunsCF prog w kt) {a b : Int} (q : Qn 1000 a b)
include K G S R F Z C H q
theorem leaf_0 : LeafOk prog w kt a b 0 :=
  ⟨⟨48, 48, 48, 48, 0, 0, 0, 0, a, (a + b), a, (a + (a + b)), a, (a + (a + (a + b))), a, (a + (a + (a + (a + b))))⟩, fun n h => ⟨h, rfl, rfl, rfl, rfl, s_0, s_0, s_0, s_0, l2_0, l2_0, l2_0, l2_0⟩, rfl, rfl, rfl, rfl, lbc_0 K Z C H q.x0 q.y0 q.x1 q.y1, fun c => lb_0_0_1 K G S R F q c, fun c => lb_0_1_1 K G S R F q c, fun c => lb_0_0_2 K G S R F q c, fun c => lb_0_1_2 K G S R F q c, fun c => lb_0_0_3 K G S R F q c, fun c => lb_0_1_3 K G S R F q c, fun c => lb_0_0_4 K G S R F q c, fun c => lb_0_1_4 K G S R F q c⟩
theorem leaf_1 : LeafOk prog w kt a b 1 :=
  ⟨⟨48, 48, 48, 49, 0, 0, 0, 1, a, (a + b), a, (a + (a + b)), a, (a + (a + (a + b))), (a + (a + (a + (a + b)))), (a + (a + (a + b)))⟩, fun n h => ⟨h, rfl, rfl, rfl, rfl, s_0, s_0, s_0, s_1, l2_0, l2_0, l2_0, l2_1⟩, rfl, rfl, rfl, rfl, lbc_1 K Z C H q.x0 q.y0 q.x1 q.y1, fun c => lb_1_0_1 K G S R F q c, fun c => lb_1_1_1 K G S R F q c, fun c => lb_1_0_2 K G S R F q c, fun c => lb_1_1_2 K G S R F q c, fun c => lb_1_0_3 K G S R F q c, fun c => lb_1_1_3 K G S R F q c, fun c => lb_1_0_4 K G S R F q c, fun c => lb_1_1_4 K G S R F q c⟩
theorem leaf_2 : LeafOk prog w kt a b 2 :=
  ⟨⟨48, 48, 49, 48, 0, 0, 1, 0, a, (a + b), a, (a + (a + b)), (a + (a + (a + b))), (a + (a + b)), (a + (a + (a + b))), ((a + (a + (a + b))) + (a + (a + b)))⟩, fun n h => ⟨h, rfl, rfl, rfl, rfl, s_0, s_0, s_1, s_0, l2_0, l2_0, l2_1, l2_0⟩, rfl, rfl, rfl, rfl, lbc_2 K Z C H q.x0 q.y0 q.x1 q.y1, fun c => lb_2_0_1 K G S R F q c, fun c => lb_2_1_1 K G S R F q c, fun c => lb_2_0_2 K G S R F q c, fun c => lb_2_1_2 K G S R F q c, fun c => lb_2_0_3 K G S R F q c, fun c => lb_2_1_3 K G S R F q c, fun c => lb_2_0_4 K G S R F q c, fun c => lb_2_1_4 K G S R F q c⟩
theorem leaf_3 : LeafOk prog w kt a b 3 :=
  ⟨⟨48, 48, 49, 49, 0, 0, 1, 1, a, (a + b), a, (a + (a + b)), (a + (a + (a + b))), (a + (a + b)), ((a + (a + (a + b))) + (a + (a + b))), (a + (a + b))⟩, fun n h => ⟨h, rfl, rfl, rfl, rfl, s_0, s_0, s_1, s_1, l2_0, l2_0, l2_1, l2_1⟩, rfl, rfl, rfl, rfl, lbc_3 K Z C H q.x0 q.y0 q.x1 q.y1, fun c => lb_3_0_1 K G S R F q c, fun c => lb_3_1_1 K G S R F q c, fun c => lb_3_0_2 K G S R F q c, fun c => lb_3_1_2 K G S R F q c, fun c => lb_3_0_3 K G S R F q c, fun c => lb_3_1_3 K G S R F q c, fun c => lb_3_0_4 K G S R F q c, fun c => lb_3_1_4 K G S R F q c⟩
theorem leaf_4 : LeafOk prog w kt a b 4 :=
  ⟨⟨48, 49, 48, 48, 0, 1, 0, 0, a, (a + b), (a + (a + b)), (a + b), (a + (a + b)), ((a + (a + b)) + (a + b)), (a + (a + b)), ((a + (a + b)) + ((a + (a + b)) + (a + b)))⟩, fun n h => ⟨h, rfl, rfl, rfl, rfl, s_0, s_1, s_0, s_0, l2_0, l2_1, l2_0, l2_0⟩, rfl, rfl, rfl, rfl, lbc_4 K Z C H q.x0 q.y0 q.x1 q.y1, fun c => lb_4_0_1 K G S R F q c, fun c => lb_4_1_1 K G S R F q c, fun c => lb_4_0_2 K G S R F q c, fun c => lb_4_1_2 K G S R F q c, fun c => lb_4_0_3 K G S R F q c, fun c => lb_4_1_3 K G S R F q c, fun c => lb_4_0_4 K G S R F q c, fun c => lb_4_1_4 K G S R F q c⟩
theorem leaf_5 : LeafOk prog w kt a b 5 :=
  ⟨⟨48, 49, 48, 49, 0, 1, 0, 1, a, (a + b), (a + (a + b)), (a + b), (a + (a + b)), ((a + (a + b)) + (a + b)), ((a + (a + b)) + ((a + (a + b)) + (a + b))), ((a + (a + b)) + (a + b))⟩, fun n h => ⟨h, rfl, rfl, rfl, rfl, s_0, s_1, s_0, s_1, l2_0, l2_1, l2_0, l2_1⟩, rfl, rfl, rfl, rfl, lbc_5 K Z C H q.x0 q.y0 q.x1 q.y1, fun c => lb_5_0_1 K G S R F q c, fun c => lb_5_1_1 K G S R F q c, fun c => lb_5_0_2 K G S R F q c, fun c => lb_5_1_2 K G S R F q c, fun c => lb_5_0_3 K G S R F q c, fun c => lb_5_1_3 K G S R F q c, fun c => lb_5_0_4 K G S R F q c, fun c => lb_5_1_4 K G S R F q c⟩
theorem leaf_6 : LeafOk prog w kt a b 6 :=
  ⟨⟨48, 49, 49, 48, 0, 1, 1, 0, a, (a + b), (a + (a + b)), (a + b), ((a + (a + b)) + (a + b)), (a + b), ((a + (a + b)) + (a + b)), (((a + (a + b)) + (a + b)) + (a + b))⟩, fun n h => ⟨h, rfl, rfl, rfl, rfl, s_0, s_1, s_1, s_0, l2_0, l2_1, l2_1, l2_0⟩, rfl, rfl, rfl, rfl, lbc_6 K Z C H q.x0 q.y0 q.x1 q.y1, fun c => lb_6_0_1 K G S R F q c, fun c => lb_6_1_1 K G S R F q c, fun c => lb_6_0_2 K G S R F q c, fun c => lb_6_1_2 K G S R F q c, fun c => lb_6_0_3 K G S R F q c, fun c => lb_6_1_3 K G S R F q c, fun c => lb_6_0_4 K G S R F q c, fun c => lb_6_1_4 K G S R F q c⟩
theorem leaf_7 : LeafOk prog w kt a b 7 :=
  ⟨⟨48, 49, 49, 49, 0, 1, 1, 1, a, (a + b), (a + (a + b)), (a + b), ((a + (a + b)) + (a + b)), (a + b), (((a + (a + b)) + (a + b)) + (a + b)), (a + b)⟩, fun n h => ⟨h, rfl, rfl, rfl, rfl, s_0, s_1, s_1, s_1, l2_0, l2_1, l2_1, l2_1⟩, rfl, rfl, rfl, rfl, lbc_7 K Z C H q.x0 q.y0 q.x1 q.y1, fun c => lb_7_0_1 K G S R F q c, fun c => lb_7_1_1 K G S R F q c, fun c => lb_7_0_2 K G S R F q c, fun c => lb_7_1_2 K G S R F q c, fun c => lb_7_0_3 K G S R F q c, fun c => lb_7_1_3 K G S R F q c, fun c => lb_7_0_4 K G S R F q c, fun c => lb_7_1_4 K G S R F q c⟩
theorem leaf_8 : LeafOk prog w kt a b 8 :=
  ⟨⟨49, 48, 48, 48, 1, 0, 0, 0, (a + b), b, (a + b), ((a + b) + b), (a + b), ((a + b) + ((a + b) + b)), (a + b), ((a + b) + ((a + b) + ((a + b) + b)))⟩, fun n h => ⟨h, rfl, rfl, rfl, rfl, s_1, s_0, s_0, s_0, l2_1, l2_0, l2_0, l2_0⟩, rfl, rfl, rfl, rfl, lbc_8 K Z C H q.x0 q.y0 q.x1 q.y1, fun c => lb_8_0_1 K G S R F q c, fun c => lb_8_1_1 K G S R F q c, fun c => lb_8_0_2 K G S R F q c, fun c => lb_8_1_2 K G S R F q c, fun c => lb_8_0_3 K G S R F q c, fun c => lb_8_1_3 K G S R F q c, fun c => lb_8_0_4 K G S R F q c, fun c => lb_8_1_4 K G S R F q c⟩
theorem leaf_9 : LeafOk prog w kt a b 9 :=
  ⟨⟨49, 48, 48, 49, 1, 0, 0, 1, (a + b), b, (a + b), ((a + b) + b), (a + b), ((a + b) + ((a + b) + b)), ((a + b) + ((a + b) + ((a + b) + b))), ((a + b) + ((a + b) + b))⟩, fun n h => ⟨h, rfl, rfl, rfl, rfl, s_1, s_0, s_0, s_1, l2_1, l2_0, l2_0, l2_1⟩, rfl, rfl, rfl, rfl, lbc_9 K Z C H q.x0 q.y0 q.x1 q.y1, fun c => lb_9_0_1 K G S R F q c, fun c => lb_9_1_1 K G S R F q c, fun c => lb_9_0_2 K G S R F q c, fun c => lb_9_1_2 K G S R F q c, fun c => lb_9_0_3 K G S R F q c, fun c => lb_9_1_3 K G S R F q c, fun c => lb_9_0_4 K G S R F q c, fun c => lb_9_1_4 K G S R F q c⟩
theorem leaf_10 : LeafOk prog w kt a b 10 :=
  ⟨⟨49, 48, 49, 48, 1, 0, 1, 0, (a + b), b, (a + b), ((a + b) + b), ((a + b) + ((a + b) + b)), ((a + b) + b), ((a + b) + ((a + b) + b)), (((a + b) + ((a + b) + b)) + ((a + b) + b))⟩, fun n h => ⟨h, rfl, rfl, rfl, rfl, s_1, s_0, s_1, s_0, l2_1, l2_0, l2_1, l2_0⟩, rfl, rfl, rfl, rfl, lbc_10 K Z C H q.x0 q.y0 q.x1 q.y1, fun c => lb_10_0_1 K G S R F q c, fun c => lb_10_1_1 K G S R F q c, fun c => lb_10_0_2 K G S R F q c, fun c => lb_10_1_2 K G S R F q c, fun c => lb_10_0_3 K G S R F q c, fun c => lb_10_1_3 K G S R F q c, fun c => lb_10_0_4 K G S R F q c, fun c => lb_10_1_4 K G S R F q c⟩
theorem leaf_11 : LeafOk prog w kt a b 11 :=
  ⟨⟨49, 48, 49, 49, 1, 0, 1, 1, (a + b), b, (a + b), ((a + b) + b), ((a + b) + ((a + b) + b)), ((a + b) + b), (((a + b) + ((a + b) + b)) + ((a + b) + b)), ((a + b) + b)⟩, fun n h => ⟨h, rfl, rfl, rfl, rfl, s_1, s_0, s_1, s_1, l2_1, l2_0, l2_1, l2_1⟩, rfl, rfl, rfl, rfl, lbc_11 K Z C H q.x0 q.y0 q.x1 q.y1, fun c => lb_11_0_1 K G S R F q c, fun c => lb_11_1_1 K G S R F q c, fun c => lb_11_0_2 K G S R F q c, fun c => lb_11_1_2 K G S R F q c, fun c => lb_11_0_3 K G S R F q c, fun c => lb_11_1_3 K G S R F q c, fun c => lb_11_0_4 K G S R F q c, fun c => lb_11_1_4 K G S R F q c⟩
theorem leaf_12 : LeafOk prog w kt a b 12 :=
  ⟨⟨49, 49, 48, 48, 1, 1, 0, 0, (a + b), b, ((a + b) + b), b, ((a + b) + b), (((a + b) + b) + b), ((a + b) + b), (((a + b) + b) + (((a + b) + b) + b))⟩, fun n h => ⟨h, rfl, rfl, rfl, rfl, s_1, s_1, s_0, s_0, l2_1, l2_1, l2_0, l2_0⟩, rfl, rfl, rfl, rfl, lbc_12 K Z C H q.x0 q.y0 q.x1 q.y1, fun c => lb_12_0_1 K G S R F q c, fun c => lb_12_1_1 K G S R F q c, fun c => lb_12_0_2 K G S R F q c, fun c => lb_12_1_2 K G S R F q c, fun c => lb_12_0_3 K G S R F q c, fun c => lb_12_1_3 K G S R F q c, fun c => lb_12_0_4 K G S R F q c, fun c => lb_12_1_4 K G S R F q c⟩
theorem leaf_13 : LeafOk prog w kt a b 13 :=
  ⟨⟨49, 49, 48, 49, 1, 1, 0, 1, (a + b), b, ((a + b) + b), b, ((a + b) + b), (((a + b) + b) + b), (((a + b) + b) + (((a + b) + b) + b)), (((a + b) + b) + b)⟩, fun n h => ⟨h, rfl, rfl, rfl, rfl, s_1, s_1, s_0, s_1, l2_1, l2_1, l2_0, l2_1⟩, rfl, rfl, rfl, rfl, lbc_13 K Z C H q.x0 q.y0 q.x1 q.y1, fun c => lb_13_0_1 K G S R F q c, fun c => lb_13_1_1 K G S R F q c, fun c => lb_13_0_2 K G S R F q c, fun c => lb_13_1_2 K G S R F q c, fun c => lb_13_0_3 K G S R F q c, fun c => lb_13_1_3 K G S R F q c, fun c => lb_13_0_4 K G S R F q c, fun c => lb_13_1_4 K G S R F q c⟩
theorem leaf_14 : LeafOk prog w kt a b 14 :=
  ⟨⟨49, 49, 49, 48, 1, 1, 1, 0, (a + b), b, ((a + b) + b), b, (((a + b) + b) + b), b, (((a + b) + b) + b), ((((a + b) + b) + b) + b)⟩, fun n h => ⟨h, rfl, rfl, rfl, rfl, s_1, s_1, s_1, s_0, l2_1, l2_1, l2_1, l2_0⟩, rfl, rfl, rfl, rfl, lbc_14 K Z C H q.x0 q.y0 q.x1 q.y1, fun c => lb_14_0_1 K G S R F q c, fun c => lb_14_1_1 K G S R F q c, fun c => lb_14_0_2 K G S R F q c, fun c => lb_14_1_2 K G S R F q c, fun c => lb_14_0_3 K G S R F q c, fun c => lb_14_1_3 K G S R F q c, fun c => lb_14_0_4 K G S R F q c, fun c => lb_14_1_4 K G S R F q c⟩
theorem leaf_15 : LeafOk prog w kt a b 15 :=
  ⟨⟨49, 49, 49, 49, 1, 1, 1, 1, (a + b), b, ((a + b) + b), b, (((a + b) + b) + b), b, ((((a + b) + b) + b) + b), b⟩, fun n h => ⟨h, rfl, rfl, rfl, rfl, s_1, s_1, s_1, s_1, l2_1, l2_1, l2_1, l2_1⟩, rfl, rfl, rfl, rfl, lbc_15 K Z C H q.x0 q.y0 q.x1 q.y1, fun c => lb_15_0_1 K G S R F q c, fun c => lb_15_1_1 K G S R F q c, fun c => lb_15_0_2 K G S R F q c, fun c => lb_15_1_2 K G S R F q c, fun c => lb_15_0_3 K G S R F q c, fun c => lb_15_1_3 K G S R F q c, fun c => lb_15_0_4 K G S R F q c, fun c => lb_15_1_4 K G S R F q c⟩
theorem leafOk : ∀ L, L < 16 → LeafOk prog w kt a b L
  | 0, _ => leaf_0 K G S R F Z C H q
  | 1, _ => leaf_1 K G S R F Z C H q
  | 2, _ => leaf_2 K G S R F Z C H q
  | 3, _ => leaf_3 K G S R F Z C H q
  | 4, _ => leaf_4 K G S R F Z C H q
  | 5, _ => leaf_5 K G S R F Z C H q
  | 6, _ => leaf_6 K G S R F Z C H q
  | 7, _ => leaf_7 K G S R F Z C H q
  | 8, _ => leaf_8 K G S R F Z C H q
  | 9, _ => leaf_9 K G S R F Z C H q
  | 10, _ => leaf_10 K G S R F Z C H q
  | 11, _ => leaf_11 K G S R F Z C H q
  | 12, _ => leaf_12 K G S R F Z C H q
  | 13, _ => leaf_13 K G S R F Z C H q
  | 14, _ => leaf_14 K G S R F Z C H q
  | 15, _ => leaf_15 K G S R F Z C H q
  | n + 16, h => absurd h (by omega)
end
end
section
open PySem PySem.Spec PySem.Calls PyProof.Rows PySem.W PySem.W.X
section
variable {prog : Program} {w : World} {kt : KT}
structure Good3 (kt : KT) (h : Heap) : Prop where
  top : N0 ≤ h.objs.size
  lim : h.NoLimit
  stat : Stat kt h
theorem Good3.next {h h' : Heap} {keys : List Addr} (g : Good3 kt h) (hi : ∀ a ∈ keys, N0 ≤ a ∨ exB a = true) (K : KeptBut keys h h') : Good3 kt h' := by
  have no : ∀ a, a < N0 → exB a = false → a ∉ keys := by
    intro a ha he hm
    rcases hi a hm with h1 | h1
    · omega
    · rw [he] at h1; cases h1
  refine ⟨Nat.le_trans g.top K.size, Heap.NoLimit.at g.lim fun o e => K.keep cStatics o e (no cStatics (by decide) (by decide)), fun a o ha e he => K.keep a o (g.stat a o ha e he) (no a ha he)⟩
theorem keep_b {h h' : Heap} {rd L' : List (Addr × Obj)} {ex : List Addr} (hF : Facts h rd) (hF' : Facts h' L') (hK : KeptBut (rd.map Prod.fst) h h') (hs : ∀ q ∈ rd, q.1 ∉ ex → q ∈ L') {b : Addr} {o : Obj} (hb : h.get? b = some o) (hn : b ∉ ex) : h'.get? b = some o := by
  by_cases hm : b ∈ rd.map Prod.fst
  · obtain ⟨q, hq, rfl⟩ := List.mem_map.mp hm
    have h1 := hF q hq
    have h2 := hF' q (hs q hq hn)
    rw [hb] at h1
    rw [h2, h1]
  · exact hK.keep b o hb hm
theorem Facts.cons {h : Heap} {a : Addr} {o : Obj} {l : List (Addr × Obj)} (e : h.get? a = some o) (F : Facts h l) : Facts h ((a, o) :: l) := fun q hq => by
  rcases List.mem_cons.mp hq with rfl | hq
  · exact e
  · exact F q hq
theorem Facts.nil {h : Heap} : Facts h [] := fun _ z => nomatch z
theorem Facts.map {h h' : Heap} {l : List (Addr × Obj)} (F : Facts h l) (k : ∀ q ∈ l, h.get? q.1 = some q.2 → h'.get? q.1 = some q.2) : Facts h' l := fun q hq => k q hq (F q hq)
theorem keep3 {h h' : Heap} {x0 x1 x2 y0 y1 y2 : Addr × Obj} {rr : List (Addr × Obj)} (hF : Facts h (x0 :: x1 :: x2 :: rr)) (hF' : Facts h' (y0 :: y1 :: y2 :: rr)) (hK : KeptBut ((x0 :: x1 :: x2 :: rr).map Prod.fst) h h') {b : Addr} {o : Obj} (hb : h.get? b = some o) (hn : b ∉ [x0.1, x1.1, x2.1]) : h'.get? b = some o := by
  refine keep_b (ex := [x0.1, x1.1, x2.1]) hF hF' hK (fun q hq hn => ?_) hb hn
  rcases List.mem_cons.mp hq with rfl | hq
  · exact absurd (.head _) hn
  rcases List.mem_cons.mp hq with rfl | hq
  · exact absurd (.tail _ (.head _)) hn
  rcases List.mem_cons.mp hq with rfl | hq
  · exact absurd (.tail _ (.tail _ (.head _))) hn
  exact .tail _ (.tail _ (.tail _ hq))
theorem keep4 {h h' : Heap} {x0 x1 x2 y0 y1 y2 z z' : Addr × Obj} {rr : List (Addr × Obj)} (hF : Facts h (x0 :: x1 :: x2 :: (rr ++ [z]))) (hF' : Facts h' (y0 :: y1 :: y2 :: (rr ++ [z']))) (hK : KeptBut ((x0 :: x1 :: x2 :: (rr ++ [z])).map Prod.fst) h h') {b : Addr} {o : Obj} (hb : h.get? b = some o) (hn : b ∉ [x0.1, x1.1, x2.1, z.1]) : h'.get? b = some o := by
  refine keep_b (ex := [x0.1, x1.1, x2.1, z.1]) hF hF' hK (fun q hq hn => ?_) hb hn
  rcases List.mem_cons.mp hq with rfl | hq
  · exact absurd (.head _) hn
  rcases List.mem_cons.mp hq with rfl | hq
  · exact absurd (.tail _ (.head _)) hn
  rcases List.mem_cons.mp hq with rfl | hq
  · exact absurd (.tail _ (.tail _ (.head _))) hn
  refine .tail _ (.tail _ (.tail _ ?_))
  rcases List.mem_append.mp hq with hq | hq
  · exact List.mem_append_left _ hq
  · rcases List.mem_cons.mp hq with rfl | hq
    · exact absurd (.tail _ (.tail _ (.tail _ (.head _)))) hn
    · cases hq
theorem nodupW : ∀ L, L < 16 → ([5, 6, 7, 8, 9, 1 + L / 8 + 11, 3 + L / 4 + 11, 7 + L / 2 + 11, 15 + L + 11, 10, 0, 1, 2, 3, 4] : List Nat).Nodup ∧ ∀ i ∈ ([5, 6, 7, 8, 9, 1 + L / 8 + 11, 3 + L / 4 + 11, 7 + L / 2 + 11, 15 + L + 11, 10, 0, 1, 2, 3, 4] : List Nat), i < 42 := by decide
theorem nodupC : ∀ L, L < 16 → ([2, 3, 4, 5, 6, 1 + L / 8 + 8, 3 + L / 4 + 8, 7 + L / 2 + 8, 15 + L + 8, 7, 0, 1] : List Nat).Nodup ∧ ∀ i ∈ ([2, 3, 4, 5, 6, 1 + L / 8 + 8, 3 + L / 4 + 8, 7 + L / 2 + 8, 15 + L + 8, 7, 0, 1] : List Nat), i < 39 := by decide
theorem nthN_mem : ∀ (l : List Nat) (i : Nat), i < l.length → nthN l i ∈ l
  | [], _, h => nomatch h
  | x :: r, 0, _ => .head _
  | x :: r, i + 1, h => .tail _ (nthN_mem r i (Nat.lt_of_succ_lt_succ h))
theorem nthN_inj : ∀ (l : List Nat), l.Nodup → ∀ i j, i < l.length → j < l.length → nthN l i = nthN l j → i = j
  | [], _, _, _, h, _, _ => nomatch h
  | x :: r, hn, 0, 0, _, _, _ => rfl
  | x :: r, hn, 0, j + 1, _, hj, e => absurd (show x ∈ r by have := nthN_mem r j (Nat.lt_of_succ_lt_succ hj); rw [show x = nthN r j from e]; exact this) (List.nodup_cons.mp hn).1
  | x :: r, hn, i + 1, 0, hi, _, e => absurd (show x ∈ r by have := nthN_mem r i (Nat.lt_of_succ_lt_succ hi); rw [show x = nthN r i from e.symm]; exact this) (List.nodup_cons.mp hn).1
  | x :: r, hn, i + 1, j + 1, hi, hj, e => congrArg (· + 1) (nthN_inj r (List.nodup_cons.mp hn).2 i j (Nat.lt_of_succ_lt_succ hi) (Nat.lt_of_succ_lt_succ hj) e)
theorem not3 {bs : List Nat} (hbs : bs.Nodup) {i j k l : Nat} (hi : i < bs.length) (hj : j < bs.length) (hk : k < bs.length) (hl : l < bs.length) (h1 : i ≠ j) (h2 : i ≠ k) (h3 : i ≠ l) : nthN bs i ∉ [nthN bs j, nthN bs k, nthN bs l] := by
  intro hm
  rcases List.mem_cons.mp hm with e | hm
  · exact h1 (nthN_inj bs hbs i j hi hj e)
  rcases List.mem_cons.mp hm with e | hm
  · exact h2 (nthN_inj bs hbs i k hi hk e)
  rcases List.mem_cons.mp hm with e | hm
  · exact h3 (nthN_inj bs hbs i l hi hl e)
  · cases hm
theorem not4 {bs : List Nat} (hbs : bs.Nodup) {i j k l m : Nat} (hi : i < bs.length) (hj : j < bs.length) (hk : k < bs.length) (hl : l < bs.length) (hm' : m < bs.length) (h1 : i ≠ j) (h2 : i ≠ k) (h3 : i ≠ l) (h4 : i ≠ m) : nthN bs i ∉ [nthN bs j, nthN bs k, nthN bs l, nthN bs m] := by
  intro hm
  rcases List.mem_cons.mp hm with e | hm
  · exact h1 (nthN_inj bs hbs i j hi hj e)
  · rcases List.mem_cons.mp hm with e | hm
    · exact h2 (nthN_inj bs hbs i k hi hk e)
    rcases List.mem_cons.mp hm with e | hm
    · exact h3 (nthN_inj bs hbs i l hi hl e)
    rcases List.mem_cons.mp hm with e | hm
    · exact h4 (nthN_inj bs hbs i m hi hm' e)
    · cases hm
theorem hiOf {bs l : List Nat} (e : bs = 110 :: 86 :: l) (hhi : ∀ z ∈ l, N0 ≤ z) {is : List Nat} (hb : ∀ i ∈ is, i < bs.length) : ∀ a ∈ is.map (nthN bs), N0 ≤ a ∨ exB a = true := by
  intro a ha
  obtain ⟨i, hi, rfl⟩ := List.mem_map.mp ha
  have hi := hb i hi
  subst e
  match i, hi with
  | 0, _ => exact .inr rfl
  | 1, _ => exact .inr rfl
  | i + 2, hi => exact .inl (hhi _ (nthN_mem l i (by simpa using hi)))
theorem keptOf {h h' : Heap} {bs l : List Nat} (e : bs = 110 :: 86 :: l) {is : List Nat} (hb : ∀ i ∈ is, i < bs.length) (K : KeptBut (is.map (nthN bs)) h h') : ∀ b o, h.get? b = some o → b ≠ 110 → b ≠ 86 → b ∉ l → h'.get? b = some o := by
  intro b o ho h1 h2 hd
  refine K.keep b o ho fun hm => ?_
  obtain ⟨i, hi, rfl⟩ := List.mem_map.mp hm
  have hi := hb i hi
  subst e
  match i, hi with
  | 0, _ => exact h1 rfl
  | 1, _ => exact h2 rfl
  | i + 2, hi => exact hd (nthN_mem l i (by simpa using hi))
theorem nodup_pick {l : List Nat} (hn : l.Nodup) : ∀ (is : List Nat), is.Nodup → (∀ i ∈ is, i < l.length) → (is.map (nthN l)).Nodup
  | [], _, _ => List.nodup_nil
  | i :: is, h, hb => by
    obtain ⟨h1, h2⟩ := List.nodup_cons.mp h
    rw [List.map_cons, List.nodup_cons]
    refine ⟨fun hm => ?_, nodup_pick hn is h2 fun j hj => hb j (.tail _ hj)⟩
    obtain ⟨j, hj, e⟩ := List.mem_map.mp hm
    have := nthN_inj l hn j i (hb j (.tail _ hj)) (hb i (.head _)) e
    subst this
    exact h1 hj
theorem mapN_get {α : Type} (f : Nat → α) : ∀ (l : List Nat) (i : Nat), i < l.length → (mapN f l)[i]? = some (f (nthN l i))
  | [], _, h => nomatch h
  | x :: r, 0, _ => rfl
  | x :: r, i + 1, h => by
    show (mapN f r)[i]? = _
    exact mapN_get f r i (Nat.lt_of_succ_lt_succ h)
structure Kp (h0 h : Heap) : Prop where
  size : h0.objs.size ≤ h.objs.size
  keep : ∀ b o, h0.get? b = some o → b ≠ 79 → b ≠ 86 → h.get? b = some o
  t79 : ∃ vs, h.get? 79 = some (tableObj vs)
  t86 : ∃ vs, h.get? 86 = some (tableObj vs)
theorem Kp.turn {h0 h h' : Heap} {zs : List Addr} (K : Kp h0 h) (hz : ∀ z ∈ zs, h0.objs.size ≤ z) (h00 : N0 ≤ h0.objs.size) (t0 : h.get? 110 = some (tableObj #[])) (t1 : h'.get? 110 = some (tableObj #[])) (sz : h.objs.size ≤ h'.objs.size) (t86 : ∃ vs, h'.get? 86 = some (tableObj vs))
    (k : ∀ b o, h.get? b = some o → b ≠ 110 → b ≠ 86 → b ∉ zs → h'.get? b = some o) : Kp h0 h' := by
  have no : ∀ b o, h0.get? b = some o → b ∉ zs := fun b o e hm => by
    exact Nat.lt_irrefl _ (Nat.lt_of_lt_of_le (Heap.lt_size e) (hz b hm))
  refine ⟨Nat.le_trans K.size sz, fun b o e h79 h86 => ?_, ?_, t86⟩
  · by_cases hb : b = 110
    · subst hb
      have := K.keep 110 o e h79 h86
      rw [t0] at this
      rw [t1, this]
    · exact k b o (K.keep b o e h79 h86) hb h86 (no b o e)
  · obtain ⟨vs, hv⟩ := K.t79
    exact ⟨vs, k 79 _ hv (by decide) (by decide) (fun hm => by have := hz 79 hm; have : 114 ≤ h0.objs.size := h00; omega)⟩
structure LSt (h : Heap) (q : LF) (pas : List Nat) (A B : Int) (ls : List Value) (ix : Nat) : Prop where
  it : h.get? q.it = some (lit q.ls (ix : Nat))
  ls : h.get? q.ls = some (listO ls 0)
  pl : h.get? q.pl = some (listO (mapN Value.ref pas) 31)
  tup : ∀ (j : Nat) (x y : Int), (trV A B)[j]? = some (x, y) → ∃ t u, h.get? (nthN pas j) = some (tupO [.int x t, .int y u])
  ro : ∃ t u, h.get? q.ro = some (tupO [.int A t, .int B u])
  tab : h.get? 110 = some (tableObj #[])
noncomputable def bsC (q : LF) (pas : List Nat) : List Nat := 110 :: 86 :: q.fr :: q.cl :: q.it :: q.ls :: q.pl :: q.ro :: pas
noncomputable def bsW (c : WC) (q : LF) (pas : List Nat) : List Nat := 110 :: 86 :: c.sc :: c.st :: c.lc :: q.fr :: q.cl :: q.it :: q.ls :: q.pl :: q.ro :: pas
theorem fd8 : ∀ L, L < 16 → Int.fdiv ((L : Nat) : Int) 8 = ((L / 8 : Nat) : Int) := by decide
theorem fd4 : ∀ L, L < 16 → Int.fdiv ((L : Nat) : Int) 4 = ((L / 4 : Nat) : Int) := by decide
theorem fd2 : ∀ L, L < 16 → Int.fdiv ((L : Nat) : Int) 2 = ((L / 2 : Nat) : Int) := by decide
theorem fd1 : ∀ L, L < 16 → Int.fdiv ((L : Nat) : Int) 1 = ((L / 1 : Nat) : Int) := by decide
theorem pick_of {pas : List Nat} {L a b : Nat} (hp : pas.length = 31) (hd : Int.fdiv ((L : Nat) : Int) (a : Nat) = ((L / a : Nat) : Int)) {j : Nat} (hj : j < 31) (e : b + L / a = j + 1) : Pick (mapN Value.ref pas) ((L : Nat) : Int) (a : Nat) (b : Nat) ((L / a : Nat) : Int) (nthN pas j) := by
  refine ⟨hd, by omega, by omega, ?_⟩
  rw [show (((b : Nat) : Int) + ((L / a : Nat) : Int) - 1).toNat = j by omega]
  exact mapN_get Value.ref pas j (by omega)
theorem wOut (W : RunsW prog w kt) {A0 : Around} {h : Heap} {g : Array GenState} {d : Drawn} {tk : Nat} {os : OsState} {R : Result → Shared → Prop} (a1 : A0.depth ≤ 330) (a2 : A0.units ≤ 1500) (a3 : A0.handled = none) (G3 : Good3 kt h)
    {c : WC} {e1 e2 e3 e4 e5 : Value} {q : LF} {pas : List Nat} {A B : Int} {ls : List Value} {ix : Nat} (S : LSt h q pas A B ls ix) (hp : pas.length = 31) (hbs : (bsW c q pas).Nodup) (hhi : ∀ z ∈ (bsW c q pas).drop 2, N0 ≤ z)
    (hfr : h.get? q.fr = some (lfr1 q e1 e2 e3 e4)) (hcl : h.get? q.cl = some (cellO e5)) (hwc : Facts h (wcG c)) {nn : Int} {un : Nat} (hx : ls[ix]? = some (.int nn un)) {L : Nat} (hL16 : L < 16) (hL : Int.fmod nn 16 = (L : Int)) (D : LeafOk prog w kt A B L)
    (hR : ∀ h' tk' e1' e2' e3' e4' e5', h.objs.size ≤ h'.objs.size → (∀ b o, h.get? b = some o → b ≠ 110 → b ≠ 86 → b ∉ (bsW c q pas).drop 2 → h'.get? b = some o) → Good3 kt h' → LSt h' q pas A B ls (ix + 1) → h'.get? q.fr = some (lfr1 q e1' e2' e3' e4') → h'.get? q.cl = some (cellO e5') → Facts h' (wcG c) → codeAny (model prog w) A0 (cLw kt q.it q.fr q.cl) R ⟨h', g, d, tk', os⟩) :
    codeAny (model prog w) A0 (cLw kt q.it q.fr q.cl) R ⟨h, g, d, tk, os⟩ := by
  obtain ⟨⟨c0, c1, c2, c3, b0, b1, b2, b3, x1, y1, x2, y2, x3, y3, x4, y4⟩, ⟨Bi, v1, v2, v3, v4, Hc, H10, H11, H20, H21, H30, H31, H40, H41⟩⟩ := D
  dsimp only at Bi v1 v2 v3 v4 Hc H10 H11 H20 H21 H30 H31 H40 H41
  obtain ⟨t1, u1, T1⟩ := S.tup _ _ _ v1
  obtain ⟨t2, u2, T2⟩ := S.tup _ _ _ v2
  obtain ⟨t3, u3, T3⟩ := S.tup _ _ _ v3
  obtain ⟨t4, u4, T4⟩ := S.tup _ _ _ v4
  obtain ⟨tA, uB, TR⟩ := S.ro
  have P1 := pick_of (a := 8) (b := 2) hp (fd8 L hL16) (j := 1 + L / 8) (by omega) (by omega)
  have P2 := pick_of (a := 4) (b := 4) hp (fd4 L hL16) (j := 3 + L / 4) (by omega) (by omega)
  have P3 := pick_of (a := 2) (b := 8) hp (fd2 L hL16) (j := 7 + L / 2) (by omega) (by omega)
  have P4 := pick_of (a := 1) (b := 16) hp (fd1 L hL16) (j := 15 + L) (by omega) (by omega)
  have run := W.w1 c e1 e2 e3 e4 e5 q (mapN Value.ref pas) ls ix nn un hx (L : Int) c0 c1 c2 c3 b0 b1 b2 b3 (Bi nn hL) _ _ _ _ _ _ _ _ P1 P2 P3 P4 x1 y1 x2 y2 x3 y3 x4 y4 A B (nthN [tA, uB, t1, u1, t2, u2, t3, u3, t4, u4])
    (H10 c) (H11 c) (H20 c) (H21 c) (H30 c) (H31 c) (H40 c) (H41 c)
  have hlen : (bsW c q pas).length = 42 := by unfold bsW; simp [hp]
  obtain ⟨nd, hb⟩ := nodupW L hL16
  have hb : ∀ i ∈ ([5, 6, 7, 8, 9, 1 + L / 8 + 11, 3 + L / 4 + 11, 7 + L / 2 + 11, 15 + L + 11, 10, 0, 1, 2, 3, 4] : List Nat), i < (bsW c q pas).length := by rw [hlen]; exact hb
  have hFrd : Facts h ((q.fr, lfr1 q e1 e2 e3 e4) :: (q.cl, cellO e5) :: (q.it, lit q.ls (ix : Nat)) :: (q.ls, listO ls 0) :: (q.pl, listO (mapN Value.ref pas) 31) :: pairG (nthN pas (1 + L / 8)) x1 t1 y1 u1 :: pairG (nthN pas (3 + L / 4)) x2 t2 y2 u2 :: pairG (nthN pas (7 + L / 2)) x3 t3 y3 u3 :: pairG (nthN pas (15 + L)) x4 t4 y4 u4 :: pairG q.ro A tA B uB :: (110, tableObj #[]) :: wcG c) :=
    .cons hfr (.cons hcl (.cons S.it (.cons S.ls (.cons S.pl (.cons T1 (.cons T2 (.cons T3 (.cons T4 (.cons TR (.cons S.tab hwc))))))))))
  have hhi2 := hiOf (bs := bsW c q pas) rfl hhi hb
  refine run A0 ⟨h, g, d, tk, os⟩ R a1 a2 a3 G3.top G3.lim G3.stat hFrd (nodup_pick hbs _ nd hb) (fun p hp' => hhi2 p.1 (List.mem_map_of_mem (f := Prod.fst) hp')) fun as ts h' tk' la lt F f1 f2 K => ?_
  have kb : ∀ (b : Addr) (o : Obj), h.get? b = some o → b ∉ [q.fr, q.cl, q.it] → h'.get? b = some o := fun b o e hn => keep3 hFrd f2 K e hn
  have no : ∀ i, i < 42 → i ≠ 5 → i ≠ 6 → i ≠ 7 → nthN (bsW c q pas) i ∉ [q.fr, q.cl, q.it] := fun i hi h5 h6 h7 => not3 hbs (j := 5) (k := 6) (l := 7) (by omega) (by omega) (by omega) (by omega) h5 h6 h7
  refine hR h' tk' _ _ _ _ _ K.size (keptOf rfl hb K) (G3.next hhi2 K) ⟨f2 _ (.tail _ (.tail _ (.head _))), kb _ _ S.ls (no 8 (by decide) (by decide) (by decide) (by decide)), kb _ _ S.pl (no 9 (by decide) (by decide) (by decide) (by decide)), fun j x y hv => ?_, ⟨tA, uB, kb _ _ TR (no 10 (by decide) (by decide) (by decide) (by decide))⟩, kb _ _ S.tab (no 0 (by decide) (by decide) (by decide) (by decide))⟩ (f2 _ (.head _)) (f2 _ (.tail _ (.head _)))
    (.cons (kb _ _ (hwc _ (.head _)) (no 1 (by decide) (by decide) (by decide) (by decide))) (.cons (kb _ _ (hwc _ (.tail _ (.head _))) (no 2 (by decide) (by decide) (by decide) (by decide))) (.cons (kb _ _ (hwc _ (.tail _ (.tail _ (.head _)))) (no 3 (by decide) (by decide) (by decide) (by decide))) (.cons (kb _ _ (hwc _ (.tail _ (.tail _ (.tail _ (.head _))))) (no 4 (by decide) (by decide) (by decide) (by decide))) .nil))))
  obtain ⟨t, u, hT⟩ := S.tup j x y hv
  have hj : j < 31 := (List.getElem?_eq_some_iff.mp hv).1
  exact ⟨t, u, kb _ _ hT (no (j + 11) (by omega) (by omega) (by omega) (by omega))⟩
end
end
section
open PySem PySem.Spec PySem.Calls PyProof.Rows PySem.W PySem.W.X
section
variable {prog : Program} {w : World} {kt : KT}
theorem cOut (W : RunsW prog w kt) {A0 : Around} {h : Heap} {g : Array GenState} {d : Drawn} {tk : Nat} {os : OsState} {R : Result → Shared → Prop} (a1 : A0.depth ≤ 330) (a2 : A0.units ≤ 1500) (a3 : A0.handled = none) (G3 : Good3 kt h)
    {q : LF} {pas : List Nat} {A B : Int} {ls : List Value} (S : LSt h q pas A B ls 0) (hp : pas.length = 31) (hbs : (bsC q pas).Nodup) (hhi : ∀ z ∈ (bsC q pas).drop 2, N0 ≤ z) (hlt : ∀ z ∈ bsC q pas, z < h.objs.size)
    (hfr : h.get? q.fr = some (lfr0 q)) (hcl : h.get? q.cl = some cellN) (hwc : h.get? 86 = some (tableObj #[])) {nn : Int} {un : Nat} (hx : ls[0]? = some (.int nn un)) {L : Nat} (hL16 : L < 16) (hL : Int.fmod nn 16 = (L : Int)) (D : LeafOk prog w kt A B L)
    (hR : ∀ h' tk' c q' e1' e2' e3' e4' e5', h.objs.size ≤ h'.objs.size → (∀ b o, h.get? b = some o → b ≠ 110 → b ≠ 86 → b ∉ (bsC q pas).drop 2 → h'.get? b = some o) → (∀ z ∈ (bsW c q' pas).drop 2, z ∈ (bsC q pas).drop 2 ∨ h.objs.size ≤ z) → q'.fr = q.fr → q'.it = q.it → q'.cl = q.cl → Good3 kt h' → LSt h' q' pas A B ls 1 → h'.get? q'.fr = some (lfr1 q' e1' e2' e3' e4') → h'.get? q'.cl = some (cellO e5') → Facts h' (wcG c) → (bsW c q' pas).Nodup → codeAny (model prog w) A0 (cLw kt q.it q.fr q.cl) R ⟨h', g, d, tk', os⟩) :
    codeAny (model prog w) A0 (cLw kt q.it q.fr q.cl) R ⟨h, g, d, tk, os⟩ := by
  obtain ⟨⟨c0, c1, c2, c3, b0, b1, b2, b3, x1, y1, x2, y2, x3, y3, x4, y4⟩, ⟨Bi, v1, v2, v3, v4, Hc, H10, H11, H20, H21, H30, H31, H40, H41⟩⟩ := D
  dsimp only at Bi v1 v2 v3 v4 Hc H10 H11 H20 H21 H30 H31 H40 H41
  obtain ⟨t1, u1, T1⟩ := S.tup _ _ _ v1
  obtain ⟨t2, u2, T2⟩ := S.tup _ _ _ v2
  obtain ⟨t3, u3, T3⟩ := S.tup _ _ _ v3
  obtain ⟨t4, u4, T4⟩ := S.tup _ _ _ v4
  obtain ⟨tA, uB, TR⟩ := S.ro
  have P1 := pick_of (a := 8) (b := 2) hp (fd8 L hL16) (j := 1 + L / 8) (by omega) (by omega)
  have P2 := pick_of (a := 4) (b := 4) hp (fd4 L hL16) (j := 3 + L / 4) (by omega) (by omega)
  have P3 := pick_of (a := 2) (b := 8) hp (fd2 L hL16) (j := 7 + L / 2) (by omega) (by omega)
  have P4 := pick_of (a := 1) (b := 16) hp (fd1 L hL16) (j := 15 + L) (by omega) (by omega)
  have run := W.w0 q (mapN Value.ref pas) ls nn un hx (L : Int) c0 c1 c2 c3 b0 b1 b2 b3 (Bi nn hL) _ _ _ _ _ _ _ _ P1 P2 P3 P4 x1 y1 x2 y2 x3 y3 x4 y4 A B (nthN [tA, uB, t1, u1, t2, u2, t3, u3, t4, u4])
    Hc H11 H20 H21 H30 H31 H40 H41
  have hlen : (bsC q pas).length = 39 := by unfold bsC; simp [hp]
  obtain ⟨nd, hb⟩ := nodupC L hL16
  have hb : ∀ i ∈ ([2, 3, 4, 5, 6, 1 + L / 8 + 8, 3 + L / 4 + 8, 7 + L / 2 + 8, 15 + L + 8, 7, 0, 1] : List Nat), i < (bsC q pas).length := by rw [hlen]; exact hb
  have hFrd : Facts h ((q.fr, lfr0 q) :: (q.cl, cellN) :: (q.it, lit q.ls ((0 : Nat) : Int)) :: ([(q.ls, listO ls 0), (q.pl, listO (mapN Value.ref pas) 31), pairG (nthN pas (1 + L / 8)) x1 t1 y1 u1, pairG (nthN pas (3 + L / 4)) x2 t2 y2 u2, pairG (nthN pas (7 + L / 2)) x3 t3 y3 u3, pairG (nthN pas (15 + L)) x4 t4 y4 u4, pairG q.ro A tA B uB, (110, tableObj #[])] ++ [(86, tableObj #[])])) :=
    .cons hfr (.cons hcl (.cons S.it (.cons S.ls (.cons S.pl (.cons T1 (.cons T2 (.cons T3 (.cons T4 (.cons TR (.cons S.tab (.cons hwc .nil)))))))))))
  have hhi2 := hiOf (bs := bsC q pas) rfl hhi hb
  refine run A0 ⟨h, g, d, tk, os⟩ R a1 a2 a3 G3.top G3.lim G3.stat hFrd (nodup_pick hbs _ nd hb) (fun p hp' => hhi2 p.1 (List.mem_map_of_mem (f := Prod.fst) hp')) fun as ts h' tk' la lt F f1 f2 K => ?_
  obtain ⟨z0, z1, z2, rfl⟩ := three la
  have kb : ∀ (b : Addr) (o : Obj), h.get? b = some o → b ∉ [q.fr, q.cl, q.it, 86] → h'.get? b = some o := fun b o e hn => keep4 (z' := (86, tabO 93 4 z0)) hFrd f2 K e hn
  have no : ∀ i, i < 39 → i ≠ 2 → i ≠ 3 → i ≠ 4 → i ≠ 1 → nthN (bsC q pas) i ∉ [q.fr, q.cl, q.it, 86] := fun i hi h5 h6 h7 h1 => not4 hbs (j := 2) (k := 3) (l := 4) (m := 1) (by omega) (by omega) (by omega) (by omega) (by omega) h5 h6 h7 h1
  have hz : ∀ z ∈ [z0, z1, z2], z ∉ bsC q pas := fun z hz hm => Nat.lt_irrefl _ (Nat.lt_of_lt_of_le (hlt z hm) (F.lo z hz).1)
  refine hR h' tk' (wcOf [z0, z1, z2] ts) (lqx w q ts) _ _ _ _ _ K.size (keptOf rfl hb K) (fun z hz' => ?_) rfl rfl rfl (G3.next hhi2 K) ⟨f2 _ (.tail _ (.tail _ (.head _))), kb _ _ S.ls (no 5 (by decide) (by decide) (by decide) (by decide) (by decide)), kb _ _ S.pl (no 6 (by decide) (by decide) (by decide) (by decide) (by decide)), fun j x y hv => ?_, ⟨tA, uB, kb _ _ TR (no 7 (by decide) (by decide) (by decide) (by decide) (by decide))⟩, kb _ _ S.tab (no 0 (by decide) (by decide) (by decide) (by decide) (by decide))⟩ (f2 _ (.head _)) (f2 _ (.tail _ (.head _)))
    (.cons (f2 _ (.tail _ (.tail _ (.tail _ (.tail _ (.tail _ (.tail _ (.tail _ (.tail _ (.tail _ (.tail _ (.tail _ (.head _))))))))))))) (.cons (f1 _ (.head _)) (.cons (f1 _ (.tail _ (.head _))) (.cons (f1 _ (.tail _ (.tail _ (.head _)))) .nil)))) ?_
  · rcases List.mem_cons.mp hz' with rfl | hz'
    · exact .inr (F.lo _ (.head _)).1
    rcases List.mem_cons.mp hz' with rfl | hz'
    · exact .inr (F.lo _ (.tail _ (.head _))).1
    rcases List.mem_cons.mp hz' with rfl | hz'
    · exact .inr (F.lo _ (.tail _ (.tail _ (.head _)))).1
    · exact .inl hz'
  · obtain ⟨t, u, hT⟩ := S.tup j x y hv
    have hj : j < 31 := (List.getElem?_eq_some_iff.mp hv).1
    exact ⟨t, u, kb _ _ hT (no (j + 8) (by omega) (by omega) (by omega) (by omega) (by omega))⟩
  · have pm : (z0 :: z1 :: z2 :: bsC q pas).Nodup := List.nodup_append.mpr ⟨F.nd, hbs, fun a ha b hb e => hz a ha (e ▸ hb)⟩
    have pr : (bsW (wcOf [z0, z1, z2] ts) (lqx w q ts) pas).Perm (z0 :: z1 :: z2 :: bsC q pas) := by
      show (110 :: 86 :: z0 :: z1 :: z2 :: (bsC q pas).drop 2).Perm (z0 :: z1 :: z2 :: 110 :: 86 :: (bsC q pas).drop 2)
      exact (List.perm_append_comm (l₁ := [110, 86]) (l₂ := [z0, z1, z2])).append_right ((bsC q pas).drop 2)
    exact pr.nodup_iff.mpr pm
theorem loop_warm (W : RunsW prog w kt) {A0 : Around} {g : Array GenState} {d : Drawn} {os : OsState} {R : Result → Shared → Prop} (a1 : A0.depth ≤ 330) (a2 : A0.units ≤ 1500) (a3 : A0.handled = none) {c : WC} {q : LF} {pas : List Nat} {A B : Int} {ls : List Value}
    (hp : pas.length = 31) (hbs : (bsW c q pas).Nodup) {h0 : Heap} (h00 : N0 ≤ h0.objs.size) (hM : ∀ z ∈ (bsW c q pas).drop 2, h0.objs.size ≤ z) (hls : ∀ x ∈ ls, ∃ n t, x = Value.int n t) (D : ∀ L, L < 16 → LeafOk prog w kt A B L)
    (hE : ∀ h' tk', N0 ≤ h'.objs.size → h'.NoLimit → Stat kt h' → Kp h0 h' → R (.ok .next) ⟨h', g, d, tk', os⟩) :
    ∀ (n ix : Nat) (h : Heap) (tk : Nat) (e1 e2 e3 e4 e5 : Value), Kp h0 h → ix + n = ls.length → Good3 kt h → LSt h q pas A B ls ix → h.get? q.fr = some (lfr1 q e1 e2 e3 e4) → h.get? q.cl = some (cellO e5) → Facts h (wcG c) →
    codeAny (model prog w) A0 (cLw kt q.it q.fr q.cl) R ⟨h, g, d, tk, os⟩
  | 0, ix, h, tk, e1, e2, e3, e4, e5, hk, hn, G3, S, hfr, hcl, hwc => by
    have hhi : ∀ z ∈ (bsW c q pas).drop 2, N0 ≤ z := fun z hz => Nat.le_trans h00 (hM z hz)
    have hx : ls[ix]? = none := List.getElem?_eq_none (by omega)
    have hlen : (bsW c q pas).length = 42 := by unfold bsW; simp [hp]
    have h78 : q.it ≠ q.ls := fun e => absurd (nthN_inj _ hbs 7 8 (by omega) (by omega) e) (by decide)
    have hi2 : ∀ a ∈ [q.it, q.ls], N0 ≤ a ∨ exB a = true := by
      intro a ha
      rcases List.mem_cons.mp ha with rfl | ha
      · exact .inl (hhi _ (nthN_mem ((bsW c q pas).drop 2) 5 (by rw [List.length_drop, hlen]; decide)))
      rcases List.mem_cons.mp ha with rfl | ha
      · exact .inl (hhi _ (nthN_mem ((bsW c q pas).drop 2) 6 (by rw [List.length_drop, hlen]; decide)))
      · cases ha
    refine (W.we q ls ix hx) A0 ⟨h, g, d, tk, os⟩ R a1 a2 a3 G3.top G3.lim G3.stat (fun p hp' => ?_) (by simp [h78]) (fun p hp' => hi2 p.1 (List.mem_map_of_mem (f := Prod.fst) hp')) (fun as ts h' tk' la lt F f1 f2 K => ?_)
    · rcases List.mem_cons.mp hp' with rfl | hp'
      · exact S.it
      rcases List.mem_cons.mp hp' with rfl | hp'
      · exact S.ls
      · cases hp'
    · have G' := G3.next hi2 K
      have nk : ∀ b, b ∉ (bsW c q pas).drop 2 → b ∉ [q.it, q.ls] := by
        intro b hb hm
        refine hb ?_
        rcases List.mem_cons.mp hm with rfl | hm
        · exact nthN_mem ((bsW c q pas).drop 2) 5 (by rw [List.length_drop, hlen]; decide)
        rcases List.mem_cons.mp hm with rfl | hm
        · exact nthN_mem ((bsW c q pas).drop 2) 6 (by rw [List.length_drop, hlen]; decide)
        · cases hm
      have n114 : ∀ b, b < 114 → b ∉ (bsW c q pas).drop 2 := fun b hb hm => by
        have h1 := hhi b hm
        have h2 : 114 ≤ b := h1
        omega
      refine hE h' tk' G'.top G'.lim G'.stat (hk.turn hM h00 S.tab (K.keep 110 _ S.tab (nk _ (n114 _ (by decide)))) K.size ⟨_, K.keep 86 _ (hwc _ (.head _)) (nk _ (n114 _ (by decide)))⟩ fun b o hb _ _ hd => K.keep b o hb (nk b hd))
  | n + 1, ix, h, tk, e1, e2, e3, e4, e5, hk, hn, G3, S, hfr, hcl, hwc => by
    have hlt : ix < ls.length := by omega
    obtain ⟨nn, un, hxx⟩ := hls ls[ix] (List.getElem_mem hlt)
    have hx : ls[ix]? = some (.int nn un) := by rw [List.getElem?_eq_getElem hlt, hxx]
    have hm0 : 0 ≤ Int.fmod nn 16 := Int.fmod_nonneg_of_pos _ (by decide)
    have hm1 : Int.fmod nn 16 < 16 := Int.fmod_lt_of_pos _ (by decide)
    obtain ⟨L, hL⟩ := Int.eq_ofNat_of_zero_le hm0
    have hL16 : L < 16 := by omega
    exact wOut W a1 a2 a3 G3 S hp hbs (fun z hz => Nat.le_trans h00 (hM z hz)) hfr hcl hwc hx hL16 hL (D L hL16) fun h' tk' e1' e2' e3' e4' e5' sz kk G' S' hfr' hcl' hwc' =>
      loop_warm W a1 a2 a3 hp hbs h00 hM hls D hE n (ix + 1) h' tk' e1' e2' e3' e4' e5' (hk.turn hM h00 S.tab S'.tab sz ⟨_, hwc' _ (.head _)⟩ kk) (by omega) G' S' hfr' hcl' hwc'
theorem loop_all (W : RunsW prog w kt) {A0 : Around} {h : Heap} {g : Array GenState} {d : Drawn} {tk : Nat} {os : OsState} {R : Result → Shared → Prop} (a1 : A0.depth ≤ 330) (a2 : A0.units ≤ 1500) (a3 : A0.handled = none) (G3 : Good3 kt h)
    {q : LF} {pas : List Nat} {A B : Int} {ls : List Value} (S : LSt h q pas A B ls 0) (hp : pas.length = 31) (hbs : (bsC q pas).Nodup) {h0 : Heap} (h00 : N0 ≤ h0.objs.size) (hM : ∀ z ∈ (bsC q pas).drop 2, h0.objs.size ≤ z) (hk : Kp h0 h) (hlt : ∀ z ∈ bsC q pas, z < h.objs.size)
    (hfr : h.get? q.fr = some (lfr0 q)) (hcl : h.get? q.cl = some cellN) (hwc : h.get? 86 = some (tableObj #[])) (hne : 0 < ls.length) (hls : ∀ x ∈ ls, ∃ n t, x = Value.int n t) (D : ∀ L, L < 16 → LeafOk prog w kt A B L)
    (hE : ∀ h' tk', N0 ≤ h'.objs.size → h'.NoLimit → Stat kt h' → Kp h0 h' → R (.ok .next) ⟨h', g, d, tk', os⟩) :
    codeAny (model prog w) A0 (cLw kt q.it q.fr q.cl) R ⟨h, g, d, tk, os⟩ := by
  obtain ⟨nn, un, hxx⟩ := hls ls[0] (List.getElem_mem hne)
  have hx : ls[0]? = some (.int nn un) := by rw [List.getElem?_eq_getElem hne, hxx]
  have hm0 : 0 ≤ Int.fmod nn 16 := Int.fmod_nonneg_of_pos _ (by decide)
  have hm1 : Int.fmod nn 16 < 16 := Int.fmod_lt_of_pos _ (by decide)
  obtain ⟨L, hL⟩ := Int.eq_ofNat_of_zero_le hm0
  have hL16 : L < 16 := by omega
  refine cOut W a1 a2 a3 G3 S hp hbs (fun z hz => Nat.le_trans h00 (hM z hz)) hlt hfr hcl hwc hx hL16 hL (D L hL16) fun h' tk' c q' e1' e2' e3' e4' e5' sz kk hz' efr eit ecl G' S' hfr' hcl' hwc' hbs' => ?_
  rw [← efr, ← eit, ← ecl]
  exact loop_warm W a1 a2 a3 hp hbs' h00 (fun z hz => (hz' z hz).elim (hM z) fun hl => Nat.le_trans hk.size hl) hls D hE (ls.length - 1) 1 h' tk' e1' e2' e3' e4' e5' (hk.turn hM h00 S.tab S'.tab sz ⟨_, hwc' _ (.head _)⟩ kk) (by omega) G' S' hfr' hcl' hwc'
end
end
section
open PySem PySem.Spec PySem.Calls PyProof.Rows PySem.W PySem.W.X
section
variable {prog : Program} {w : World} {kt : KT}
structure Runs (prog : Program) (w : World) (kt : KT) : Prop where
  rc : RunsRC prog w kt
  rf : RunsRF prog w kt
  lex : RunsLex prog w kt
  piece : RunsPiece prog w kt
  pc : RunsPc prog w kt
  glc : RunsGlc prog w kt
  tree : RunsTree prog w kt
  due : RunsDue prog w kt
  s : RunsS prog w kt
  r : RunsR prog w kt
  k : RunsK prog w kt
  g : RunsG prog w kt
  f : RunsF prog w kt
  c : RunsC prog w kt
  ck : RunsCK prog w kt
  cf : RunsCF prog w kt
  h : RunsH prog w kt
  w : RunsW prog w kt
  k35 : ∃ (fo : Obj) (fd : FuncData), kt.get 35 = some fo ∧ fo.data = .func fd
theorem numbers_of : ∀ {vs : List Value} {ns : List Int}, IntsAre vs ns → ∃ (n0 n1 : Int) (tf : Nat → Nat → Nat → Nat → Nat → Nat) (rest : Nat → Nat → Nat → Nat → List Value),
    (∀ u1 u2 u3 u4, (app vs (([.int 2 u1, .int 6 u2, .int 11 u3, .int 4 u4] : List Value).drop vs.length)).take 5 = .int n0 (tf 0 u1 u2 u3 u4) :: .int n1 (tf 1 u1 u2 u3 u4) :: rest u1 u2 u3 u4) ∧
    (∀ u1 u2 u3 u4, (rest u1 u2 u3 u4).length ≤ 3 ∧ 0 < (rest u1 u2 u3 u4).length ∧ ∀ x ∈ rest u1 u2 u3 u4, ∃ n t, x = Value.int n t) := by
  intro vs ns H
  cases H with
  | nil => exact ⟨2, 6, fun i u1 u2 u3 u4 => match i with | 0 => u1 | _ => u2, fun u1 u2 u3 u4 => [.int 11 u3, .int 4 u4], fun u1 u2 u3 u4 => rfl, fun u1 u2 u3 u4 => ⟨by simp, by simp, by simp⟩⟩
  | cons a ta H =>
    cases H with
    | nil => exact ⟨a, 6, fun i u1 u2 u3 u4 => match i with | 0 => ta | _ => u2, fun u1 u2 u3 u4 => [.int 11 u3, .int 4 u4], fun u1 u2 u3 u4 => rfl, fun u1 u2 u3 u4 => ⟨by simp, by simp, by simp⟩⟩
    | cons b tb H =>
      cases H with
      | nil => exact ⟨a, b, fun i u1 u2 u3 u4 => match i with | 0 => ta | _ => tb, fun u1 u2 u3 u4 => [.int 11 u3, .int 4 u4], fun u1 u2 u3 u4 => rfl, fun u1 u2 u3 u4 => ⟨by simp, by simp, by simp⟩⟩
      | cons c tc H =>
        cases H with
        | nil => exact ⟨a, b, fun i u1 u2 u3 u4 => match i with | 0 => ta | _ => tb, fun u1 u2 u3 u4 => [.int c tc, .int 4 u4], fun u1 u2 u3 u4 => rfl, fun u1 u2 u3 u4 => ⟨by simp, by simp, by simp⟩⟩
        | cons d td H =>
          cases H with
          | nil => exact ⟨a, b, fun i u1 u2 u3 u4 => match i with | 0 => ta | _ => tb, fun u1 u2 u3 u4 => [.int c tc, .int d td], fun u1 u2 u3 u4 => rfl, fun u1 u2 u3 u4 => ⟨by simp, by simp, by simp⟩⟩
          | cons e te H => exact ⟨a, b, fun i u1 u2 u3 u4 => match i with | 0 => ta | _ => tb, fun u1 u2 u3 u4 => [.int c tc, .int d td, .int e te], fun u1 u2 u3 u4 => rfl, fun u1 u2 u3 u4 => ⟨by simp, by simp, by simp⟩⟩
theorem szq {n m : Nat} (h : n ≤ m) (hm : m ≤ 2000) : n ≤ sizeLine := Nat.le_trans h (Nat.le_trans hm (by decide))
theorem lapp {x y : Str} {m n : Nat} (hx : x.length ≤ m) (hy : y.length ≤ n) : (x ++ y).length ≤ m + n := by rw [len_app]; exact Nat.add_le_add hx hy
theorem lfs {x y : Str} (h : x.length + y.length ≤ 1000) : (x ++ y).length ≤ 1000 := by rw [len_app]; exact h
theorem lz (l : List Nat) : (St l).length ≤ l.length := Nat.le_refl _
theorem lnA {vs : List Value} {a b c d : Value} (h : vs.length ≤ 1000) : vs.length + (([a, b, c, d] : List Value).drop vs.length).length ≤ sizeLine := by
  rw [List.length_drop]
  exact szq (m := 1000 + 4) (Nat.add_le_add h (Nat.sub_le _ _)) (by decide)
theorem lnB {vs : List Value} {a b c d : Value} (h : vs.length ≤ 1000) : (app vs (([a, b, c, d] : List Value).drop vs.length)).length ≤ sizeLine := by
  rw [app_eqv, List.length_append]
  exact lnA h
theorem lnC {a b c d : Value} : ([a, b, c, d] : List Value).length ≤ sizeLine := Nat.le_of_ble_eq_true rfl
theorem lnD {a b : Value} {l : List Value} (h : l.length ≤ 3) : (a :: b :: l).length ≤ sizeLine := szq (m := 3 + 1 + 1) (Nat.add_le_add_right (Nat.add_le_add_right h 1) 1) (by decide)
theorem fm {n : Int} {m : Nat} (hm : 0 < m) : ∃ k : Nat, Int.fmod n (m : Nat) = (k : Nat) ∧ k < m := by
  have h0 : 0 ≤ Int.fmod n (m : Nat) := Int.fmod_nonneg_of_pos _ (by omega)
  have h1 : Int.fmod n (m : Nat) < (m : Nat) := Int.fmod_lt_of_pos _ (by omega)
  obtain ⟨k, hk⟩ := Int.eq_ofNat_of_zero_le h0
  exact ⟨k, hk, by omega⟩
theorem tups_at : ∀ (V : List (Int × Int)) (as ts : List Nat) (h : Heap), Facts h (as.zip (tupsOf V ts)) → as.length = V.length → ∀ (j : Nat) (x y : Int), V[j]? = some (x, y) → ∃ t u, h.get? (nthN as j) = some (tupO [.int x t, .int y u])
  | [], _, _, _, _, _, j, x, y, hv => by simp at hv
  | q :: V, [], _, _, _, hl, _, _, _, _ => by cases hl
  | q :: V, a :: as, ts, h, H, hl, 0, x, y, hv => by
    have e : q = (x, y) := by simpa using hv
    subst e
    exact ⟨_, _, H _ (.head _)⟩
  | q :: V, a :: as, ts, h, H, hl, j + 1, x, y, hv => tups_at V as _ h (fun p hp => H p (.tail _ hp)) (Nat.succ.inj hl) j x y (by simpa using hv)
end
end
section
open PySem PySem.Spec PySem.Calls PyProof.Rows PySem.W PySem.W.X
section
variable {prog : Program} {w : World} {kt : KT}
theorem leaves (X : Runs prog w kt) {a b : Int} (ha : 0 < a) (hb : 0 < b) (ha1 : a ≤ 1000) (hb1 : b ≤ 1000) : ∀ L, L < 16 → LeafOk prog w kt a b L := leafOk X.k X.g X.s X.r X.f X.ck X.c X.cf ⟨ha, ha1, hb, hb1⟩
theorem after_head (X : Runs prog w kt) {a b total : Int} (ha : 0 < a) (hb : 0 < b) (ha1 : a ≤ 1000) (hb1 : b ≤ 1000) {two one word other first text : Str} {ls : List Value} {as ts : List Nat} (la : as.length = 37) {h0 h : Heap} (h00 : N0 ≤ h0.objs.size) (F : Fresh h0 h as)
    (f1 : Facts h (as.zip (lwNw (lwQ w total two one word other first text as ts) a b ls as ts))) (hk : Kp h0 h) (h86 : h.get? 86 = some (tableObj #[])) (h110 : h.get? 110 = some (tableObj #[])) (hne : 0 < ls.length) (hls : ∀ x ∈ ls, ∃ n t, x = Value.int n t)
    {A' : Around} {R' : Result → Shared → Prop} {g : Array GenState} {d : Drawn} {tk : Nat} {os : OsState} (a1 : A'.depth ≤ 330) (a2 : A'.units ≤ 1500) (a3 : A'.handled = none) (G3 : Good3 kt h)
    (hE : ∀ h' tk', N0 ≤ h'.objs.size → h'.NoLimit → Stat kt h' → Kp h0 h' → R' (.ok .next) ⟨h', g, d, tk', os⟩) : codeAny (model prog w) A' (cLw kt (nthN as 4) (nthN as 0) (nthN as 1)) R' ⟨h, g, d, tk, os⟩ := by
  match as, la with
  | z0 :: z1 :: z2 :: z3 :: z4 :: z5 :: pas, la =>
    have hp : pas.length = 31 := by simpa using la
    have hlo0 : ∀ z ∈ z0 :: z1 :: z2 :: z3 :: z4 :: z5 :: pas, h0.objs.size ≤ z := fun z hz => (F.lo z hz).1
    have hlo : ∀ z ∈ z0 :: z1 :: z2 :: z3 :: z4 :: z5 :: pas, N0 ≤ z := fun z hz => Nat.le_trans h00 (F.lo z hz).1
    have hup : ∀ z ∈ z0 :: z1 :: z2 :: z3 :: z4 :: z5 :: pas, z < h.objs.size := fun z hz => (F.lo z hz).2
    have pr : (z0 :: z1 :: z4 :: z3 :: z5 :: z2 :: pas).Perm (z0 :: z1 :: z2 :: z3 :: z4 :: z5 :: pas) := by
      refine .cons _ (.cons _ ?_)
      have : ([z4, z3, z5, z2] : List Nat).Perm [z2, z3, z4, z5] := by
        refine (List.Perm.swap z3 z4 _).trans ?_
        refine (List.Perm.cons z3 ((List.perm_append_comm (l₁ := [z4, z5]) (l₂ := [z2])))).trans ?_
        exact List.Perm.swap z2 z3 _
      exact this.append_right pas
    have hmem : ∀ z ∈ z0 :: z1 :: z4 :: z3 :: z5 :: z2 :: pas, z ∈ z0 :: z1 :: z2 :: z3 :: z4 :: z5 :: pas := fun z hz => pr.mem_iff.mp hz
    have no : ∀ z ∈ z0 :: z1 :: z4 :: z3 :: z5 :: z2 :: pas, z ≠ 110 ∧ z ≠ 86 := by
      intro z hz
      have := hlo z (hmem z hz)
      have : 114 ≤ z := this
      omega
    refine loop_all X.w (q := lwQ w total two one word other first text (z0 :: z1 :: z2 :: z3 :: z4 :: z5 :: pas) ts) (pas := pas) (A := a) (B := b) (ls := ls) a1 a2 a3 G3 ⟨?_, ?_, ?_, ?_, ?_, ?_⟩ hp ?_ h00 ?_ hk ?_ ?_ ?_ h86 hne hls (leaves X ha hb ha1 hb1) hE
    · exact f1 _ (.tail _ (.tail _ (.tail _ (.tail _ (.head _)))))
    · exact f1 _ (.tail _ (.tail _ (.tail _ (.head _))))
    · exact f1 _ (.tail _ (.tail _ (.tail _ (.tail _ (.tail _ (.head _))))))
    · exact tups_at (trV a b) pas (dropN 38 ts) h (fun p hp => f1 p (.tail _ (.tail _ (.tail _ (.tail _ (.tail _ (.tail _ hp))))))) hp
    · exact ⟨_, _, f1 _ (.tail _ (.tail _ (.head _)))⟩
    · exact h110
    · show (110 :: 86 :: z0 :: z1 :: z4 :: z3 :: z5 :: z2 :: pas).Nodup
      refine List.nodup_cons.mpr ⟨fun hm => ?_, List.nodup_cons.mpr ⟨fun hm => (no _ hm).2 rfl, pr.nodup_iff.mpr F.nd⟩⟩
      rcases List.mem_cons.mp hm with e | hm
      · exact absurd e (by decide)
      · exact (no _ hm).1 rfl
    · exact fun z hz => hlo0 z (hmem z hz)
    · intro z hz
      have h114 : 114 ≤ h.objs.size := G3.top
      rcases List.mem_cons.mp hz with rfl | hz
      · omega
      rcases List.mem_cons.mp hz with rfl | hz
      · omega
      · exact hup z (hmem z hz)
    · exact f1 _ (.head _)
    · exact f1 _ (.tail _ (.head _))
theorem Kp.after {h0 h h' : Heap} (k : Kp h0 h) (K : KeptBut [] h h') : Kp h0 h' :=
  ⟨Nat.le_trans k.size K.size, fun b o e h1 h2 => K.keep b o (k.keep b o e h1 h2) (fun z => nomatch z), let ⟨vs, e⟩ := k.t79; ⟨vs, K.keep _ _ e (fun z => nomatch z)⟩, let ⟨vs, e⟩ := k.t86; ⟨vs, K.keep _ _ e (fun z => nomatch z)⟩⟩
theorem kp_head {h0 h : Heap} {vs : List Value} {n a : Nat} (h114 : h0.get? 114 = some (listO vs n)) (K : KeptBut (([(114, listO vs n), (86, tableObj #[]), (79, tableObj #[])] : List (Addr × Obj)).map Prod.fst) h0 h)
    (f : Facts h ((([(114, listO vs n), (86, tableObj #[]), (79, tableObj #[])] : List (Addr × Obj)).map Prod.fst).zip [listO vs n, tableObj #[], tabO 82 4 a])) : Kp h0 h := by
  refine ⟨K.size, fun b o e h1 h2 => ?_, ⟨_, f _ (.tail _ (.tail _ (.head _)))⟩, ⟨_, f _ (.tail _ (.head _))⟩⟩
  by_cases hb : b = 114
  · subst hb
    rw [h114] at e
    rw [← e]
    exact f _ (.head _)
  · exact K.keep b o e (by simp [hb, h1, h2])
theorem law_ok (X : Runs prog w kt) {vs : List Value} {ns : List Int} {n : Nat} (hi : IntsAre vs ns) (hl2 : vs.length ≤ 1000) : ∀ (A : Around) (s : Shared) (R : Result → Shared → Prop), A.depth ≤ 310 → A.units ≤ 1000 → A.handled = none → N0 ≤ s.heap.objs.size → s.heap.NoLimit → Stat kt s.heap →
    s.heap.get? 114 = some (listO vs n) → s.heap.get? 86 = some (tableObj #[]) → s.heap.get? 79 = some (tableObj #[]) → s.heap.get? 110 = some (tableObj #[]) →
    (∀ h' tk', Kp s.heap h' → R (.ok (.ret (.bool true))) ⟨h', s.gens, s.drawn, tk', s.os⟩) → codeAny (model prog w) A (.call (.ref 113) ⟨[.ref 114], []⟩) R s := by
  intro A s R a1 a2 a3 a4 a5 a6 h114 h86 h79 h110 hR
  obtain ⟨fo, fd, k35, k35f⟩ := X.k35
  obtain ⟨n0, n1, tf, rest, hn, hr⟩ := numbers_of hi
  obtain ⟨ra, hra, ra1⟩ := fm (n := n0) (m := 1000) (by decide)
  obtain ⟨rb, hrb, rb1⟩ := fm (n := n1) (m := 1000) (by decide)
  obtain ⟨k, hke, hk⟩ := fm (n := n0 + n1) (m := 3) (by decide)
  obtain ⟨par, hpar, hpar2⟩ := fm (n := n0 + n1) (m := 2) (by decide)
  obtain ⟨m1, hm1, hm14⟩ := fm (n := Int.fmod (Int.fdiv n0 2) 64) (m := 4) (by decide)
  obtain ⟨q1, hq1, hq14⟩ := fm (n := Int.fdiv (Int.fmod (Int.fdiv n0 2) 64) 4) (m := 4) (by decide)
  obtain ⟨r1, hr1, hr14⟩ := fm (n := Int.fdiv (Int.fmod (Int.fdiv n0 2) 64) 16) (m := 4) (by decide)
  obtain ⟨m2, hm2, hm24⟩ := fm (n := Int.fmod (Int.fdiv n1 2) 64) (m := 4) (by decide)
  obtain ⟨q2, hq2, hq24⟩ := fm (n := Int.fdiv (Int.fmod (Int.fdiv n1 2) 64) 4) (m := 4) (by decide)
  obtain ⟨r2, hr2, hr24⟩ := fm (n := Int.fdiv (Int.fmod (Int.fdiv n1 2) 64) 16) (m := 4) (by decide)
  have A0 : (0 : Int) < (ra : Int) + 1 := by omega
  have B0 : (0 : Int) < (rb : Int) + 1 := by omega
  have A1 : (ra : Int) + 1 ≤ 1000 := by omega
  have B1 : (rb : Int) + 1 ≤ 1000 := by omega
  have A2 : (ra : Int) + 1 < 10 ^ 10 := by omega
  have B2 : (rb : Int) + 1 < 10 ^ 10 := by omega
  have hw := word_st ((ra : Int) + 1) ((rb : Int) + 1) k
  have hwg : GoodW (wordL ((ra : Int) + 1) ((rb : Int) + 1) k) := word_good (by omega) (by omega) k
  have hwl := word_len (a := (ra : Int) + 1) (b := (rb : Int) + 1) (by omega) A2 (by omega) B2 k
  have hw0 := word_ne (a := (ra : Int) + 1) (b := (rb : Int) + 1) k
  have P1 := pieceOk (w := w) X.piece X.pc (wd := wordL ((ra : Int) + 1) ((rb : Int) + 1) k) hw0 (by omega) hm1 hm14 hq1 hq14 hr1 hr14
  rw [← hw] at P1
  have P2 := pieceOk (w := w) X.piece X.pc (wd := othL) (by decide) (by decide) hm2 hm24 hq2 hq24 hr2 hr24
  have l1 := piece_len (wd := wordL ((ra : Int) + 1) ((rb : Int) + 1) k) (q := q1) (r := r1) hm14
  have l2 := piece_len (wd := othL) (q := q2) (r := r2) hm24
  have g1 := piece_pos (wd := wordL ((ra : Int) + 1) ((rb : Int) + 1) k) (q := q1) hw0 hm14
  have g2 := piece_pos (wd := othL) (q := q2) (by decide) hm24
  have c1 := piece_cut (wordL ((ra : Int) + 1) ((rb : Int) + 1) k) m1 q1 r1 hm14
  have c2 := piece_cut othL m2 q2 r2 hm24
  generalize hf1 : pieceL (wordL ((ra : Int) + 1) ((rb : Int) + 1) k) m1 q1 r1 = F1 at *
  generalize hf2 : pieceL othL m2 q2 r2 = F2 at *
  have ho6 : othL.length = 6 := rfl
  have lF1 : F1.length ≤ 64 ∧ 2 ≤ F1.length := by rw [c1]; simp; omega
  have lF2 : F2.length ≤ 16 ∧ 2 ≤ F2.length := by rw [c2]; simp; omega
  have T := treeOk (w := w) X.glc X.tree (word := wordOf ((ra : Int) + 1) ((rb : Int) + 1) k) (a := (ra : Int) + 1) (b := (rb : Int) + 1) (by omega) (by omega) A1 B1 (wd_word (by omega) A2 (by omega) B2 k) (fun x y h0 h1 h2 h3 => wd_dot h0 h1 h2 h3)
  have Du := dueOk X.due ((ra : Int) + 1) ((rb : Int) + 1)
  have hvl : ((vs.length : Nat) : Int) < 2 ^ 62 := by omega
  have hFacts : Facts s.heap [(114, listO vs n), (86, tableObj #[]), (79, tableObj #[])] := by
    intro p hp
    rcases List.mem_cons.mp hp with rfl | hp
    · exact h114
    rcases List.mem_cons.mp hp with rfl | hp
    · exact h86
    rcases List.mem_cons.mp hp with rfl | hp
    · exact h79
    · cases hp
  have hHi : ∀ p ∈ ([(114, listO vs n), (86, tableObj #[]), (79, tableObj #[])] : List (Addr × Obj)), N0 ≤ p.1 ∨ exB p.1 = true := by
    intro p hp
    rcases List.mem_cons.mp hp with rfl | hp
    · exact .inl (Nat.le_refl _)
    rcases List.mem_cons.mp hp with rfl | hp
    · exact .inr rfl
    rcases List.mem_cons.mp hp with rfl | hp
    · exact .inr rfl
    · cases hp
  have hsz : (St F1).length + (St F2).length ≤ 1000 := by rw [st_len, st_len]; omega
  have hla : (strI ((ra : Int) + 1)).length ≤ 10 := strI_len (by omega) A2
  have hlb : (strI ((rb : Int) + 1)).length ≤ 10 := strI_len (by omega) B2
  have hga := log_ok (n := (ra : Int) + 1) (by omega) A2
  have hgb := log_ok (n := (rb : Int) + 1) (by omega) B2
  have n1eq : (((St F1).length : Nat) : Int) = (F1.length : Nat) := rfl
  rcases (show par = 0 ∨ par = 1 by omega) with rfl | rfl
  · -- the whole text
    have hT : St F1 ++ St F2 = St (F1 ++ F2) := st_app _ _
    have h2 : ∀ p : LP, p.text = St F1 ++ St F2 → 2 ≤ p.text.length := fun p e => by rw [e, hT, st_len, List.length_append]; omega
    have G1 : ∀ (p : LP) (s : LS) (ep : Nat), p.text = St F1 ++ St F2 → s.i = 0 → s.l = 1 → GTOk prog w kt p s ep (F1.length : Nat) (1 + (nl F1 : Nat)) (wordOf ((ra : Int) + 1) ((rb : Int) + 1) k) := by
      intro p s ep e ei el
      have := gt_piece X.rc X.rf X.lex k35 k35f (h2 p e) (s := s) (ep := ep) hw0 hwg (by omega) (q := q1) (r := r1) hm14 false [] F2 [endC m1 r1] rfl (by rw [e, hT, c1]; simp) (by rw [ei]; rfl)
      rw [← c1, ei, el, Int.zero_add, ← hw] at this
      exact this
    have G2 : ∀ (p : LP) (s : LS) (ep : Nat), p.text = St F1 ++ St F2 → s.i = (F1.length : Nat) → s.l = 1 + (nl F1 : Nat) → GTOk prog w kt p s ep ((F1 ++ F2).length : Nat) (1 + (nl (F1 ++ F2) : Nat)) (⟨#[35, 32, 34, 92, 110, 32]⟩ : Str) := by
      intro p s ep e ei el
      have := gt_piece X.rc X.rf X.lex k35 k35f (h2 p e) (s := s) (ep := ep) (wd := othL) (by decide) oth_good (by decide) (q := q2) (r := r2) hm24 false F1 [] [endC m2 r2] rfl (by rw [e, hT, c2]; simp) ei
      rw [← c2, ei, el] at this
      rw [List.length_append, nl_app, show (((F1.length + F2.length : Nat)) : Int) = (F1.length : Nat) + (F2.length : Nat) by omega, show (1 : Int) + ((nl F1 + nl F2 : Nat) : Int) = 1 + (nl F1 : Nat) + (nl F2 : Nat) by omega]
      exact this
    have G3 : ∀ (p : LP) (s : LS) (ep : Nat), p.text = St F1 ++ St F2 → s.i = ((F1 ++ F2).length : Nat) → s.l = 1 + (nl (F1 ++ F2) : Nat) → GTOk prog w kt p s ep ((F1 ++ F2).length : Nat) (1 + (nl (F1 ++ F2) : Nat)) ⟨#[]⟩ := by
      intro p s ep e ei el
      have := gt_end X.rc X.rf X.lex (h2 p e) (s := s) (ep := ep) k35 k35f (by rw [e, hT]; exact ei)
      rw [ei, el] at this
      exact this
    have run := X.h.lh0 vs n hvl hl2 n0 n1 tf rest (fun u1 u2 u3 u4 => (hr u1 u2 u3 u4).1) hn ra rb hra hrb hla hlb hga hgb k hk hke _ _ rfl rfl (St F1) (St F2) P1 P2 hsz hpar _ _ _ _ G1 G2 G3 T Du (nl F1) (nl (F1 ++ F2)) (cnt_nl F1) (by rw [hT]; exact cnt_nl (F1 ++ F2)) rfl rfl (by rw [hT]; rfl) rfl
    refine run (Kp s.heap) A s R a1 a2 a3 a4 a5 a6 hFacts (by simp) hHi ?_ (fun h1 h2 tk' k1 k2 => hR h2 tk' (k1.after k2))
    intro as ts h' tk' A' R' la lt F f1 f2 K b1 b2 b3 b4 b5 b6 hE
    exact after_head X A0 B0 A1 B1 la a4 F f1 (kp_head h114 K f2) (f2 _ (.tail _ (.head _))) (K.keep 110 _ h110 (by simp)) (hr _ _ _ _).2.1 (hr _ _ _ _).2.2 b1 b2 b3 ⟨b4, b5, b6⟩ hE
  · -- the text without its end
    have hT : St F1 ++ St F2 = St (F1 ++ F2) := st_app _ _
    have hT2 : F1 ++ F2 = (F1 ++ pieceC othL m2 q2) ++ [endC m2 r2] := by rw [c2]; simp
    generalize hC : pieceC othL m2 q2 = C2 at *
    have h2 : ∀ p : LP, p.text = St (F1 ++ C2) → 2 ≤ p.text.length := fun p e => by rw [e, st_len, List.length_append]; omega
    have G1 : ∀ (p : LP) (s : LS) (ep : Nat), p.text = St (F1 ++ C2) → s.i = 0 → s.l = 1 → GTOk prog w kt p s ep (F1.length : Nat) (1 + (nl F1 : Nat)) (wordOf ((ra : Int) + 1) ((rb : Int) + 1) k) := by
      intro p s ep e ei el
      have := gt_piece X.rc X.rf X.lex k35 k35f (h2 p e) (s := s) (ep := ep) hw0 hwg (by omega) (q := q1) (r := r1) hm14 false [] C2 [endC m1 r1] rfl (by rw [e, c1]; simp) (by rw [ei]; rfl)
      rw [← c1, ei, el, Int.zero_add, ← hw] at this
      exact this
    have G2 : ∀ (p : LP) (s : LS) (ep : Nat), p.text = St (F1 ++ C2) → s.i = (F1.length : Nat) → s.l = 1 + (nl F1 : Nat) → GTOk prog w kt p s ep ((F1 ++ C2).length : Nat) (1 + (nl (F1 ++ C2) : Nat)) (⟨#[35, 32, 34, 92, 110, 32]⟩ : Str) := by
      intro p s ep e ei el
      have := gt_piece X.rc X.rf X.lex k35 k35f (h2 p e) (s := s) (ep := ep) (wd := othL) (by decide) oth_good (by decide) (q := q2) (r := r2) hm24 true F1 [] [] ⟨rfl, rfl⟩ (by rw [e, hC]; simp) ei
      rw [hC, List.append_nil, ei, el] at this
      rw [List.length_append, nl_app, show (((F1.length + C2.length : Nat)) : Int) = (F1.length : Nat) + (C2.length : Nat) by omega, show (1 : Int) + ((nl F1 + nl C2 : Nat) : Int) = 1 + (nl F1 : Nat) + (nl C2 : Nat) by omega]
      exact this
    have G3 : ∀ (p : LP) (s : LS) (ep : Nat), p.text = St (F1 ++ C2) → s.i = ((F1 ++ C2).length : Nat) → s.l = 1 + (nl (F1 ++ C2) : Nat) → GTOk prog w kt p s ep ((F1 ++ C2).length : Nat) (1 + (nl (F1 ++ C2) : Nat)) ⟨#[]⟩ := by
      intro p s ep e ei el
      have := gt_end X.rc X.rf X.lex (h2 p e) (s := s) (ep := ep) k35 k35f (by rw [e]; exact ei)
      rw [ei, el] at this
      exact this
    have htx : ∀ t u, sliceMade (St F1 ++ St F2) t none (some (-1, u)) none = .str (St (F1 ++ C2)) := by
      intro t u
      rw [hT, hT2]
      exact cut_last _ _ t u
    have run := X.h.lh1 vs n hvl hl2 n0 n1 tf rest (fun u1 u2 u3 u4 => (hr u1 u2 u3 u4).1) hn ra rb hra hrb hla hlb hga hgb k hk hke _ _ rfl rfl (St F1) (St F2) P1 P2 hsz hpar (St (F1 ++ C2)) htx (by rw [st_len, List.length_append]; omega) _ _ _ _ G1 G2 G3 T Du (nl F1) (nl (F1 ++ C2)) (cnt_nl F1) (cnt_nl (F1 ++ C2)) rfl rfl rfl rfl
    refine run (Kp s.heap) A s R a1 a2 a3 a4 a5 a6 hFacts (by simp) hHi ?_ (fun h1 h2 tk' k1 k2 => hR h2 tk' (k1.after k2))
    intro as ts h' tk' A' R' la lt F f1 f2 K b1 b2 b3 b4 b5 b6 hE
    exact after_head X A0 B0 A1 B1 la a4 F f1 (kp_head h114 K f2) (f2 _ (.tail _ (.head _))) (K.keep 110 _ h110 (by simp)) (hr _ _ _ _).2.1 (hr _ _ _ _).2.2 b1 b2 b3 ⟨b4, b5, b6⟩ hE
end
end
section
open PySem PySem.Spec PySem.Calls PyProof.Rows PySem.W PySem.W.X
theorem kpOld {h0 h : Heap} (k : Kp h0 h) (t79 : h0.get? 79 = some (tableObj #[])) (t86 : h0.get? 86 = some (tableObj #[])) (c79 : isCodeTable h0 79) (c86 : isCodeTable h0 86) : OldK h0 h := by
  refine ⟨fun b o e => ?_, fun b o e => ?_⟩
  · by_cases h1 : b = 79
    · subst h1
      rw [t79] at e
      cases e
      obtain ⟨vs, hv⟩ := k.t79
      exact .inr (.inl ⟨c79, rfl, #[], vs, rfl, by rw [hv]; simp [tableObj]⟩)
    · by_cases h2 : b = 86
      · subst h2
        rw [t86] at e
        cases e
        obtain ⟨vs, hv⟩ := k.t86
        exact .inr (.inl ⟨c86, rfl, #[], vs, rfl, by rw [hv]; simp [tableObj]⟩)
      · exact .inl (k.keep b o e h1 h2)
  · by_cases h1 : b = 79
    · subst h1
      obtain ⟨vs, hv⟩ := k.t79
      exact ⟨_, hv⟩
    · by_cases h2 : b = 86
      · subst h2
        obtain ⟨vs, hv⟩ := k.t86
        exact ⟨_, hv⟩
      · exact ⟨o, k.keep b o e h1 h2⟩
noncomputable def oAt (kt : KT) (a : Nat) : Obj := (kt.get a).getD default
noncomputable def fAt (kt : KT) (a : Nat) : Array Value := match (oAt kt a).data with
  | .fields vs => vs
  | _ => #[]
structure CodeT (kt : KT) (a b : Nat) : Prop where
  o : kt.get a = some (oAt kt a)
  c : (oAt kt a).cls = .type "code"
  d : (oAt kt a).data = .fields (fAt kt a)
  t : (fAt kt a)[11]? = some (.ref b)
theorem law_end {c : ClaimW} {cl : Str → Option Addr} {mean : ExcName → Option Value} {args : List WData} {s₁ : Shared} {kt : KT} {prog : Program} {w : World} {vs : List Value} {ns : List Int} (X : Runs prog w kt)
    (ZH : KT.Holds s₁.heap 1 0 kt) (hlim : s₁.heap.NoLimit) (hL : s₁.heap.get? 114 = some { cls := .type "list", data := .seq vs.toArray }) (hi : IntsAre vs ns) (hlen : vs.length ≤ 1000) (hsz : s₁.heap.objs.size = 114 + 1) (hg : s₁.gens = #[])
    (k79 : kt.get 79 = some (tableObj #[])) (k86 : kt.get 86 = some (tableObj #[])) (k110 : kt.get 110 = some (tableObj #[]))
    (c83 : CodeT kt 83 79) (c88 : CodeT kt 88 86)
    (hr : ∀ cls, c.raises args cls = false) (hp : c.post args (.bool true) args = true) :
    wpAny (model prog w) callerA (call (.ref 113) [.ref 114]) (fun v s' => GoodWG c cl mean args s₁ (.ok (.ret v)) s') (fun e s' => GoodWG c cl mean args s₁ (.error e) s') s₁ := by
  have G : ∀ {j o}, kt.get j = some o → s₁.heap.get? j = some o := fun e => by
    have := ZH.get e
    simpa using this
  have cd : ∀ {a b : Nat}, CodeT kt a b → isCodeTable s₁.heap b := fun c => ⟨_, _, _, G c.o, c.c, c.d, c.t⟩
  refine wpAny_call (law_ok X (n := 0) hi hlen callerA s₁ _ (by decide) (by decide) rfl (by rw [hsz]; decide) hlim (fun a o _ e _ => G e) ?_ (G k86) (G k79) (G k110) fun h' tk' k => ?_)
  · rw [list_obj]; exact hL
  · refine ⟨.inl ⟨_, _, [], rfl, hr, ReadsW.bool true, hp, fun _ => ⟨List.nodup_nil, fun _ hm => (nomatch hm)⟩⟩, kpOld k (G k79) (G k86) (cd c83) (cd c88), rfl, ?_⟩
    show AllBare s₁.gens
    rw [hg]
    exact AllBare.empty
end
end
end Mine
abbrev Mine.P0 := PySem.Challenge.pw_pk0039_01
open PySem PySem.W PySem.W.X PyProof.Rows
theorem PySem.Challenge.cw_pk0039_01_holds : PySem.Challenge.rw_pk0039_01.Holds := by
  refine ⟨by decide +kernel, ?_⟩
  z_head
  (case hw => w_witness2)
  have X : ∀ w : World, Mine.Runs Mine.P0 w (PySem.Challenge.cw_pk0039_01_holds.ktop_219 w.params) := by
    intro w
    constructor
    · constructor
      · open Mine PySem.Calls PySem.Spec PySem.Challenge.cw_pk0039_01_holds in grind only [show E_crC P0 w (ktop_219 w.params) from fun p mt s c h1 h2 => ckP (unq [6,16,17,10,18,1,8,15,12,5] [0x2822222800ef155600df9900bf14411141114111411141114009f177111711173133611007f,0x3a002f333652222228511222228556a003f52222] [.p [12] (fun al tau => pSlice p.text p.tt (al 2) s.i s.it (s.i + 1) (tau 7) ⟨#[c]⟩ (h1.sl s.it (tau 7)) (len1 c)), .p [] (fun al tau => pEqS (St [c]) (tau 8) (St [10]) (tau 16) false (eq_list1 h2))]) [] [13, 8]]
      · open Mine PySem.Calls PySem.Spec PySem.Challenge.cw_pk0039_01_holds in grind only [show E_crN P0 w (ktop_219 w.params) from fun p mt s h1 => ckP (unq [6,16,8,17,10,18,1,9,15,12] [0x2922222900ef166700dfaa00bf155111511151115111511158133111311134144711007f,0x7131113131311138133111311134002f444762222229611222229667005f003f62222,0x4888] [.p [12] (fun al tau => pSlice p.text p.tt (al 2) s.i s.it (s.i + 1) (tau 7) ⟨#[10]⟩ (h1.sl s.it (tau 7)) (len1 10))]) [] [13, 19, 8]]
      · open Mine PySem.Calls PySem.Spec PySem.Challenge.cw_pk0039_01_holds in grind only [show E_crE P0 w (ktop_219 w.params) from fun p mt s h1 => ckP (unq [6,16,17,10,18,1,8,15,12] [0x2822222800ef155600df9900bf14411141114111411141114009f177111711173133611007f,0x3002f333652222228511222228556005f003f52222] [.p [12] (fun al tau => pSlice p.text p.tt (al 2) s.i s.it (s.i + 1) (tau 7) ⟨#[]⟩ (h1.sl s.it (tau 7)) (by decide))]) [] [13, 8]]
    · constructor
      · open Mine PySem.Calls PySem.Spec PySem.Challenge.cw_pk0039_01_holds in grind only [show E_cfC P0 w (ktop_219 w.params) from fun p s c h1 h2 => ckP (unq [6,15,16,9,17,1,7,14,11,5] [0x22822222800df155600cf9900af14411141114111411141114008f177111711173133611,0x3a002f333652222228511222228556a003f5222] [.p [11] (fun al tau => pSlice p.text p.tt (al 2) s.i s.it (s.i + 1) (tau 7) ⟨#[c]⟩ (h1.sl s.it (tau 7)) (len1 c)), .p [] (fun al tau => pEqS (St [c]) (tau 8) (St [10]) (tau 16) false (eq_list1 h2))]) [] [13, 8]]
      · open Mine PySem.Calls PySem.Spec PySem.Challenge.cw_pk0039_01_holds in grind only [show E_cfN P0 w (ktop_219 w.params) from fun p s h1 => ckP (unq [6,15,7,16,9,17,1,8,14,11] [0x22922222900df166700cfaa00af155111511151115111511158133111311134144711,0x87131113131311138133111311134002f444762222229611222229667005f003f6222,0x488] [.p [11] (fun al tau => pSlice p.text p.tt (al 2) s.i s.it (s.i + 1) (tau 7) ⟨#[10]⟩ (h1.sl s.it (tau 7)) (len1 10))]) [] [13, 19, 8]]
      · open Mine PySem.Calls PySem.Spec PySem.Challenge.cw_pk0039_01_holds in grind only [show E_cfE P0 w (ktop_219 w.params) from fun p s h1 => ckP (unq [6,15,16,9,17,1,7,14,11] [0x22822222800df155600cf9900af14411141114111411141114008f177111711173133611,0x3002f333652222228511222228556005f003f5222] [.p [11] (fun al tau => pSlice p.text p.tt (al 2) s.i s.it (s.i + 1) (tau 7) ⟨#[]⟩ (h1.sl s.it (tau 7)) (by decide))]) [] [13, 8]]
    · constructor
      · open Mine PySem.Calls PySem.Spec PySem.Challenge.cw_pk0039_01_holds in grind only [show E_uC P0 w (ktop_219 w.params) from fun X Y p s x tok tt ch ct r c l hr h1 h2 h4 H => ckP (unq [7,6,8,5,10,2,1] [0x4117411461400bf2552225222511117463342009f3333] [.p [2, 3, 4, 5, 6, 7, 8, 9, 10, 11] (fun al tau => rcK X p x.mt s ⟨#[c+1]⟩ l hr), .p [] (fun al tau => pEqS (St []) x.st (St [c+1]) (tau 2) false (by first | rfl | exact eq_list1 h2)), .p [] (fun al tau => pInS (St [10, 9, 13, 32]) p.wt (St [c+1]) (tau 2) false (notWs h1)), .p [] (fun al tau => pEqS (St [c+1]) (tau 2) (St [92]) (tau 5) false (by first | rfl | exact eq_list1 h2)), .p [] (fun al tau => pAdd tok tt (St [c+1]) (tau 2) h4), .a [0, 1, 2, 3, 4, 5, 6, 7, 8, 9, 10, 11] (fun al tau => lK (H (tau 0) (tau 1) (tau 6) (tau 2)))]) [] [8, 9, 10, 11]]
      · open Mine PySem.Calls PySem.Spec PySem.Challenge.cw_pk0039_01_holds in grind only [show E_uB P0 w (ktop_219 w.params) from fun X Y p s x tok tt ch ct r d l h0 hr h4 H => ckP (unq [6,7,10,8,5,1,2,11] [0x5226522226518311113111311132728133111311132222674451009f4444] [.p [2, 3, 4, 5, 6, 7, 8, 9, 10, 11] (fun al tau => rcK X p x.mt s ⟨#[92]⟩ s.l h0), .p [3, 4, 5, 6, 7, 8, 9, 10, 11] (fun al tau => rfK Y p ⟨s.i + (⟨#[92]⟩ : Str).length, s.l, (tau 0), (tau 1)⟩ ⟨#[d+1]⟩ l hr), .p [] (fun al tau => pAdd tok tt (St [d+1]) (tau 8) h4), .a [0, 1, 2, 3, 4, 5, 6, 7, 8, 9, 10, 11] (fun al tau => lK (H (tau 6) (tau 7) (tau 10) (tau 8)))]) [] [12, 13, 14, 15]]
      · open Mine PySem.Calls PySem.Spec PySem.Challenge.cw_pk0039_01_holds in grind only [show E_uW P0 w (ktop_219 w.params) from fun X Y p s x tok tt ch ct c l hr h1 => ckP (unq [6,8,7,10,5] [0x3500bf144111411143333001f5002f2251009f2222] [.p [2, 3, 4, 5, 6, 7, 8, 9, 10, 11] (fun al tau => rcK X p x.mt s ⟨#[c+1]⟩ l hr), .p [] (fun al tau => pEqS (St []) x.st (St [c+1]) (tau 2) false rfl), .p [] (fun al tau => pInS (St [10, 9, 13, 32]) p.wt (St [c+1]) (tau 2) true (isWs h1))]) [] [0, 1, 2]]
      · open Mine PySem.Calls PySem.Spec PySem.Challenge.cw_pk0039_01_holds in grind only [show E_uE P0 w (ktop_219 w.params) from fun X Y p s x tok tt ch ct hr fo fd k35 k35f => ckP (unq [] [0x14f005f008f] [.p [1, 2, 3, 4, 5, 6, 7, 8, 9, 10, 11] (fun al tau => nxE X p s x.fi x.mt x.st hr k35 k35f)]) [] [0, 1]]
      · open Mine PySem.Calls PySem.Spec PySem.Challenge.cw_pk0039_01_holds in grind only [show E_qC P0 w (ktop_219 w.params) from fun X Y p s x tok tt ch ct r c l hr h1 h2 h4 H => ckP (unq [7,8,5,2,1] [0x311531134134111534223006f009f2222] [.p [2, 3, 4, 5, 6, 7, 8, 9, 10, 11] (fun al tau => rcK X p x.mt s ⟨#[c+1]⟩ l hr), .p [] (fun al tau => pEqS (St []) x.st (St [c+1]) (tau 2) false (by first | rfl | exact eq_list1 h1 | exact eq_list1 h2)), .p [] (fun al tau => pEqS (St [c+1]) (tau 2) (St [34]) (tau 4) false (by first | rfl | exact eq_list1 h1 | exact eq_list1 h2)), .p [] (fun al tau => pEqS (St [c+1]) (tau 2) (St [92]) (tau 5) false (by first | rfl | exact eq_list1 h1 | exact eq_list1 h2)), .p [] (fun al tau => pAdd tok tt (St [c+1]) (tau 2) h4), .a [0, 1, 2, 3, 4, 5, 6, 7, 8, 9, 10, 11] (fun al tau => lK (H (tau 0) (tau 1) (tau 6) (tau 2)))]) [] [8, 9, 10, 11]]
      · open Mine PySem.Calls PySem.Spec PySem.Challenge.cw_pk0039_01_holds in grind only [show E_qB P0 w (ktop_219 w.params) from fun X Y p s x tok tt ch ct r d l h0 hr h4 H => ckP (unq [6,7,8,5,10,2,1] [0x42274222274100bf511115111511152626222763341009f3333] [.p [2, 3, 4, 5, 6, 7, 8, 9, 10, 11] (fun al tau => rcK X p x.mt s ⟨#[92]⟩ s.l h0), .p [3, 4, 5, 6, 7, 8, 9, 10, 11] (fun al tau => rfK Y p ⟨s.i + (⟨#[92]⟩ : Str).length, s.l, (tau 0), (tau 1)⟩ ⟨#[d+1]⟩ l hr), .p [] (fun al tau => pAdd tok tt (St [d+1]) (tau 8) h4), .a [0, 1, 2, 3, 4, 5, 6, 7, 8, 9, 10, 11] (fun al tau => lK (H (tau 6) (tau 7) (tau 10) (tau 8)))]) [] [12, 13, 14, 15]]
      · open Mine PySem.Calls PySem.Spec PySem.Challenge.cw_pk0039_01_holds in grind only [show E_qW P0 w (ktop_219 w.params) from fun X Y p s x tok tt ch ct hr => ckP (unq [8,7,2] [0x23222001f311005f006f009f1111] [.p [2, 3, 4, 5, 6, 7, 8, 9, 10, 11] (fun al tau => rcK X p x.mt s ⟨#[34]⟩ s.l hr)]) [] [0, 1, 2]]
      · open Mine PySem.Calls PySem.Spec PySem.Challenge.cw_pk0039_01_holds in grind only [show E_qE P0 w (ktop_219 w.params) from fun X Y p s x tok tt ch ct hr fo fd k35 k35f => ckP (unq [] [0x14f005f008f] [.p [1, 2, 3, 4, 5, 6, 7, 8, 9, 10, 11] (fun al tau => nxE X p s x.fi x.mt x.st hr k35 k35f)]) [] [0, 1]]
      · open Mine PySem.Calls PySem.Spec PySem.Challenge.cw_pk0039_01_holds in grind only [show E_oW0 P0 w (ktop_219 w.params) from fun X Y p s x tt r c l hr h1 H => ckP (unq [6,8,5,7,10] [0x3300bf155111511154444001f3002f2231009f2222] [.p [2, 3, 4, 5, 6, 7, 8, 9, 10, 11] (fun al tau => rcK X p x.mt s ⟨#[c+1]⟩ l hr), .p [] (fun al tau => pEqS (St []) x.st (St [c+1]) (tau 2) false rfl), .p [] (fun al tau => pInS (St [10, 9, 13, 32]) p.wt (St [c+1]) (tau 2) true (isWs h1)), .a [0, 1, 2, 3, 4, 5, 6, 7, 8, 9, 10, 11] (fun al tau => oK1 (H (tau 3) (tau 0) (tau 1) (tau 2)))]) [] [5, 6, 7, 8, 9]]
      · open Mine PySem.Calls PySem.Spec PySem.Challenge.cw_pk0039_01_holds in grind only [show E_oQr0 P0 w (ktop_219 w.params) from fun X Y p s x tt n l2 tok ch2 hr H => ckP (unq [8,6,7,10,2,5] [0x61151135300bf244222422243333001f51162009f1111] [.p [2, 3, 4, 5, 6, 7, 8, 9, 10, 11] (fun al tau => rcK X p x.mt s ⟨#[34]⟩ s.l hr), .p [0, 1, 2, 3, 4, 5, 6, 7, 8, 9, 10, 11] (fun al tau => lK (H (hS w n_ch, (tau 3)) (tau 0) (tau 1) (tau 2)))]) [] [6, 7, 8, 9, 3]]
      · open Mine PySem.Calls PySem.Spec PySem.Challenge.cw_pk0039_01_holds in grind only [show E_oPr0 P0 w (ktop_219 w.params) from fun X Y p s x tt n l2 tok ch2 c l hr h1 h2 h3 H => ckP (unq [7,8,6,5,2,10,1] [0x4225221117411451451400bf3663336333611117452243009f2222] [.p [2, 3, 4, 5, 6, 7, 8, 9, 10, 11] (fun al tau => rcK X p x.mt s ⟨#[c+1]⟩ l hr), .p [] (fun al tau => pEqS (St []) x.st (St [c+1]) (tau 2) false (by first | rfl | exact eq_list1 h2 | exact eq_list1 h3)), .p [] (fun al tau => pInS (St [10, 9, 13, 32]) p.wt (St [c+1]) (tau 2) false (notWs h1)), .p [] (fun al tau => pEqS (St [c+1]) (tau 2) (St [34]) (tau 5) false (by first | rfl | exact eq_list1 h2 | exact eq_list1 h3)), .p [] (fun al tau => pEqS (St [c+1]) (tau 2) (St [92]) (tau 6) false (by first | rfl | exact eq_list1 h2 | exact eq_list1 h3)), .p [] (fun al tau => pAdd (St []) tt (St [c+1]) (tau 2) (len1 (c+1))), .p [0, 1, 2, 3, 4, 5, 6, 7, 8, 9, 10, 11] (fun al tau => lK (H (hS w n_ch, (tau 3)) (tau 0) (tau 1) (tau 7) (tau 2)))]) [] [9, 10, 11, 12, 3]]
      · open Mine PySem.Calls PySem.Spec PySem.Challenge.cw_pk0039_01_holds in grind only [show E_oBr0 P0 w (ktop_219 w.params) from fun X Y p s x tt n l2 tok ch2 d l h0 hr H => ckP (unq [6,7,8,10,5,2,1,11] [0x3222752222751841111411141114262628144111411142222763351009f3333,0x53363] [.p [2, 3, 4, 5, 6, 7, 8, 9, 10, 11] (fun al tau => rcK X p x.mt s ⟨#[92]⟩ s.l h0), .p [3, 4, 5, 6, 7, 8, 9, 10, 11] (fun al tau => rfK Y p ⟨s.i + (⟨#[92]⟩ : Str).length, s.l, (tau 0), (tau 1)⟩ ⟨#[d+1]⟩ l hr), .p [] (fun al tau => pAdd (St []) tt (St [d+1]) (tau 9) (len1 (d+1))), .p [0, 1, 2, 3, 4, 5, 6, 7, 8, 9, 10, 11] (fun al tau => lK (H (hS w n_ch, (tau 3)) (tau 7) (tau 8) (tau 11) (tau 9)))]) [] [13, 14, 15, 16, 3]]
      · open Mine PySem.Calls PySem.Spec PySem.Challenge.cw_pk0039_01_holds in grind only [show E_oQe0 P0 w (ktop_219 w.params) from fun X Y p s x tt n l2 tok ch2 hr H => ckP (unq [8,6,7,10,2,5] [0x14f11161151135300bf244222422243333001f51162009f1111] [.p [2, 3, 4, 5, 6, 7, 8, 9, 10, 11] (fun al tau => rcK X p x.mt s ⟨#[34]⟩ s.l hr), .p [0, 1, 2, 3, 4, 5, 6, 7, 8, 9, 10, 11] (fun al tau => lK (H (hS w n_ch, (tau 3)) (tau 0) (tau 1) (tau 2)))]) [] [6, 7, 8, 9, 3]]
      · open Mine PySem.Calls PySem.Spec PySem.Challenge.cw_pk0039_01_holds in grind only [show E_oPe0 P0 w (ktop_219 w.params) from fun X Y p s x tt n l2 tok ch2 c l hr h1 h2 h3 H => ckP (unq [8,7,6,5,2,10,1] [0x14f1114115112227422452452400bf3663336333622227451143009f1111] [.p [2, 3, 4, 5, 6, 7, 8, 9, 10, 11] (fun al tau => rcK X p x.mt s ⟨#[c+1]⟩ l hr), .p [] (fun al tau => pEqS (St []) x.st (St [c+1]) (tau 2) false (by first | rfl | exact eq_list1 h2 | exact eq_list1 h3)), .p [] (fun al tau => pInS (St [10, 9, 13, 32]) p.wt (St [c+1]) (tau 2) false (notWs h1)), .p [] (fun al tau => pEqS (St [c+1]) (tau 2) (St [34]) (tau 5) false (by first | rfl | exact eq_list1 h2 | exact eq_list1 h3)), .p [] (fun al tau => pEqS (St [c+1]) (tau 2) (St [92]) (tau 6) false (by first | rfl | exact eq_list1 h2 | exact eq_list1 h3)), .p [] (fun al tau => pAdd (St []) tt (St [c+1]) (tau 2) (len1 (c+1))), .p [0, 1, 2, 3, 4, 5, 6, 7, 8, 9, 10, 11] (fun al tau => lK (H (hS w n_ch, (tau 3)) (tau 0) (tau 1) (tau 7) (tau 2)))]) [] [9, 10, 11, 12, 3]]
      · open Mine PySem.Calls PySem.Spec PySem.Challenge.cw_pk0039_01_holds in grind only [show E_oBe0 P0 w (ktop_219 w.params) from fun X Y p s x tt n l2 tok ch2 d l h0 hr H => ckP (unq [6,7,8,10,5,2,1,11] [0x3222752222751841111411141114262628144111411142222763351009f3333,0x14f33353363] [.p [2, 3, 4, 5, 6, 7, 8, 9, 10, 11] (fun al tau => rcK X p x.mt s ⟨#[92]⟩ s.l h0), .p [3, 4, 5, 6, 7, 8, 9, 10, 11] (fun al tau => rfK Y p ⟨s.i + (⟨#[92]⟩ : Str).length, s.l, (tau 0), (tau 1)⟩ ⟨#[d+1]⟩ l hr), .p [] (fun al tau => pAdd (St []) tt (St [d+1]) (tau 9) (len1 (d+1))), .p [0, 1, 2, 3, 4, 5, 6, 7, 8, 9, 10, 11] (fun al tau => lK (H (hS w n_ch, (tau 3)) (tau 7) (tau 8) (tau 11) (tau 9)))]) [] [13, 14, 15, 16, 3]]
      · open Mine PySem.Calls PySem.Spec PySem.Challenge.cw_pk0039_01_holds in grind only [show E_oW1 P0 w (ktop_219 w.params) from fun X Y p s x tt ch ct r c l hr h1 H => ckP (unq [6,8,5,7,10] [0x3300bf155111511154444001f3002f2231009f2222] [.p [2, 3, 4, 5, 6, 7, 8, 9, 10, 11] (fun al tau => rcK X p x.mt s ⟨#[c+1]⟩ l hr), .p [] (fun al tau => pEqS (St []) x.st (St [c+1]) (tau 2) false rfl), .p [] (fun al tau => pInS (St [10, 9, 13, 32]) p.wt (St [c+1]) (tau 2) true (isWs h1)), .a [0, 1, 2, 3, 4, 5, 6, 7, 8, 9, 10, 11] (fun al tau => oK1 (H (tau 0) (tau 1) (tau 2)))]) [] [5, 6, 7, 8, 9]]
      · open Mine PySem.Calls PySem.Spec PySem.Challenge.cw_pk0039_01_holds in grind only [show E_oQr1 P0 w (ktop_219 w.params) from fun X Y p s x tt ch ct n l2 tok ch2 hr H => ckP (unq [8,6,7,10,2,5] [0x61151135300bf244222422243333001f51162009f1111] [.p [2, 3, 4, 5, 6, 7, 8, 9, 10, 11] (fun al tau => rcK X p x.mt s ⟨#[34]⟩ s.l hr), .p [0, 1, 2, 3, 4, 5, 6, 7, 8, 9, 10, 11] (fun al tau => lK (H (tau 0) (tau 1) (tau 2)))]) [] [6, 7, 8, 9]]
      · open Mine PySem.Calls PySem.Spec PySem.Challenge.cw_pk0039_01_holds in grind only [show E_oPr1 P0 w (ktop_219 w.params) from fun X Y p s x tt ch ct n l2 tok ch2 c l hr h1 h2 h3 H => ckP (unq [7,8,6,5,2,10,1] [0x4225221117411451451400bf3663336333611117452243009f2222] [.p [2, 3, 4, 5, 6, 7, 8, 9, 10, 11] (fun al tau => rcK X p x.mt s ⟨#[c+1]⟩ l hr), .p [] (fun al tau => pEqS (St []) x.st (St [c+1]) (tau 2) false (by first | rfl | exact eq_list1 h2 | exact eq_list1 h3)), .p [] (fun al tau => pInS (St [10, 9, 13, 32]) p.wt (St [c+1]) (tau 2) false (notWs h1)), .p [] (fun al tau => pEqS (St [c+1]) (tau 2) (St [34]) (tau 5) false (by first | rfl | exact eq_list1 h2 | exact eq_list1 h3)), .p [] (fun al tau => pEqS (St [c+1]) (tau 2) (St [92]) (tau 6) false (by first | rfl | exact eq_list1 h2 | exact eq_list1 h3)), .p [] (fun al tau => pAdd (St []) tt (St [c+1]) (tau 2) (len1 (c+1))), .p [0, 1, 2, 3, 4, 5, 6, 7, 8, 9, 10, 11] (fun al tau => lK (H (tau 0) (tau 1) (tau 7) (tau 2)))]) [] [9, 10, 11, 12]]
      · open Mine PySem.Calls PySem.Spec PySem.Challenge.cw_pk0039_01_holds in grind only [show E_oBr1 P0 w (ktop_219 w.params) from fun X Y p s x tt ch ct n l2 tok ch2 d l h0 hr H => ckP (unq [6,7,8,10,5,2,1,11] [0x3222752222751841111411141114262628144111411142222763351009f3333,0x53363] [.p [2, 3, 4, 5, 6, 7, 8, 9, 10, 11] (fun al tau => rcK X p x.mt s ⟨#[92]⟩ s.l h0), .p [3, 4, 5, 6, 7, 8, 9, 10, 11] (fun al tau => rfK Y p ⟨s.i + (⟨#[92]⟩ : Str).length, s.l, (tau 0), (tau 1)⟩ ⟨#[d+1]⟩ l hr), .p [] (fun al tau => pAdd (St []) tt (St [d+1]) (tau 9) (len1 (d+1))), .p [0, 1, 2, 3, 4, 5, 6, 7, 8, 9, 10, 11] (fun al tau => lK (H (tau 7) (tau 8) (tau 11) (tau 9)))]) [] [13, 14, 15, 16]]
      · open Mine PySem.Calls PySem.Spec PySem.Challenge.cw_pk0039_01_holds in grind only [show E_oQe1 P0 w (ktop_219 w.params) from fun X Y p s x tt ch ct n l2 tok ch2 hr H => ckP (unq [8,6,7,10,2,5] [0x14f11161151135300bf244222422243333001f51162009f1111] [.p [2, 3, 4, 5, 6, 7, 8, 9, 10, 11] (fun al tau => rcK X p x.mt s ⟨#[34]⟩ s.l hr), .p [0, 1, 2, 3, 4, 5, 6, 7, 8, 9, 10, 11] (fun al tau => lK (H (tau 0) (tau 1) (tau 2)))]) [] [6, 7, 8, 9]]
      · open Mine PySem.Calls PySem.Spec PySem.Challenge.cw_pk0039_01_holds in grind only [show E_oPe1 P0 w (ktop_219 w.params) from fun X Y p s x tt ch ct n l2 tok ch2 c l hr h1 h2 h3 H => ckP (unq [8,7,6,5,2,10,1] [0x14f1114115112227422452452400bf3663336333622227451143009f1111] [.p [2, 3, 4, 5, 6, 7, 8, 9, 10, 11] (fun al tau => rcK X p x.mt s ⟨#[c+1]⟩ l hr), .p [] (fun al tau => pEqS (St []) x.st (St [c+1]) (tau 2) false (by first | rfl | exact eq_list1 h2 | exact eq_list1 h3)), .p [] (fun al tau => pInS (St [10, 9, 13, 32]) p.wt (St [c+1]) (tau 2) false (notWs h1)), .p [] (fun al tau => pEqS (St [c+1]) (tau 2) (St [34]) (tau 5) false (by first | rfl | exact eq_list1 h2 | exact eq_list1 h3)), .p [] (fun al tau => pEqS (St [c+1]) (tau 2) (St [92]) (tau 6) false (by first | rfl | exact eq_list1 h2 | exact eq_list1 h3)), .p [] (fun al tau => pAdd (St []) tt (St [c+1]) (tau 2) (len1 (c+1))), .p [0, 1, 2, 3, 4, 5, 6, 7, 8, 9, 10, 11] (fun al tau => lK (H (tau 0) (tau 1) (tau 7) (tau 2)))]) [] [9, 10, 11, 12]]
      · open Mine PySem.Calls PySem.Spec PySem.Challenge.cw_pk0039_01_holds in grind only [show E_oBe1 P0 w (ktop_219 w.params) from fun X Y p s x tt ch ct n l2 tok ch2 d l h0 hr H => ckP (unq [6,7,8,10,5,2,1,11] [0x3222752222751841111411141114262628144111411142222763351009f3333,0x14f33353363] [.p [2, 3, 4, 5, 6, 7, 8, 9, 10, 11] (fun al tau => rcK X p x.mt s ⟨#[92]⟩ s.l h0), .p [3, 4, 5, 6, 7, 8, 9, 10, 11] (fun al tau => rfK Y p ⟨s.i + (⟨#[92]⟩ : Str).length, s.l, (tau 0), (tau 1)⟩ ⟨#[d+1]⟩ l hr), .p [] (fun al tau => pAdd (St []) tt (St [d+1]) (tau 9) (len1 (d+1))), .p [0, 1, 2, 3, 4, 5, 6, 7, 8, 9, 10, 11] (fun al tau => lK (H (tau 7) (tau 8) (tau 11) (tau 9)))]) [] [13, 14, 15, 16]]
      · open Mine PySem.Calls PySem.Spec PySem.Challenge.cw_pk0039_01_holds in grind only [show E_oE0 P0 w (ktop_219 w.params) from fun X Y p s x tt hr fo fd k35 k35f => ckP (unq [] [0x14f005f008f] [.p [1, 2, 3, 4, 5, 6, 7, 8, 9, 10, 11] (fun al tau => nxE X p s x.fi x.mt x.st hr k35 k35f)]) [] [0, 1]]
      · open Mine PySem.Calls PySem.Spec PySem.Challenge.cw_pk0039_01_holds in grind only [show E_gtr P0 w (ktop_219 w.params) from fun p s ep n l tok ch H => ckP (unq [6,17,8,7,19,1,9] [0x5f55002f552226012f1111713311111131113211226444447133111311132122611] [.p [10, 12, 11, 1, 2, 3, 4, 5, 6, 7, 8, 9] (fun al tau => oK0 (H (gtX w (al 0) (al 2) (al 1) (tau 0) (tau 5) (tau 8) (tau 7)) (tau 4)))]) [] [9, 10, 11]]
      · open Mine PySem.Calls PySem.Spec PySem.Challenge.cw_pk0039_01_holds in grind only [show E_gte P0 w (ktop_219 w.params) from fun p s ep n l tok ch H => ckP (unq [6,17,8,7,19,1,9] [0x5f55002f552226012f1111713311111131113211226444447133111311132122611,0x2] [.p [10, 12, 11, 1, 2, 3, 4, 5, 6, 7, 8, 9] (fun al tau => oK0 (H (gtX w (al 0) (al 2) (al 1) (tau 0) (tau 5) (tau 8) (tau 7)) (tau 4)))]) [] [9, 10, 11]]
      · open Mine PySem.Calls PySem.Spec PySem.Challenge.cw_pk0039_01_holds in grind only [show E_gt0 P0 w (ktop_219 w.params) from fun p s ep n l H => ckP (unq [6,17,8,7,19,1,9] [0x5f55002f552226012f1111713311111131113211226444447133111311132122611,0x2] [.p [10, 12, 11, 1, 2, 3, 4, 5, 6, 7, 8, 9] (fun al tau => oK0 (H (gtX w (al 0) (al 2) (al 1) (tau 0) (tau 5) (tau 8) (tau 7)) (tau 4)))]) [] [9, 10, 11]]
    · constructor
      · open Mine PySem.Calls PySem.Spec PySem.Challenge.cw_pk0039_01_holds in grind only [show E_p00b P0 w (ktop_219 w.params) from fun x word wt way yt body bt l z hl hm hb hr hc H => ckP (unq [7,5,1,2] [0x211322111113211421113142111342114211132008f] [.p [1] (fun al tau => pRangeNext x.it 0 l 1 hl), .p [] (fun al tau => pMod way yt 4 (tau 2) 0 rfl hm), .p [] (fun al tau => pStrI word wt 0 (tau 0) 92 hr hc), .p [] (fun al tau => pMod way yt 4 (tau 8) 0 rfl hm), .p [] (fun al tau => pMod way yt 4 (tau 12) 0 rfl hm), .p [] (fun al tau => pAdd body bt (St [92]) (tau 15) (by first | exact sz1 _ hb | exact sz2 _ _ hb)), .p [] (fun al tau => pStrI word wt 0 (tau 0) 92 hr hc), .p [] (fun al tau => pAdd (body ++ St [92]) (tau 16) (St [92]) (tau 18) (by first | exact sz1 _ hb | exact sz2 _ _ hb)), .a [0, 1] (fun al tau => pcK (H (tau 1) (tau 7) (tau 19) (tau 0)))]) [] [21, 22, 1, 7]]
      · open Mine PySem.Calls PySem.Spec PySem.Challenge.cw_pk0039_01_holds in grind only [show E_p00q P0 w (ktop_219 w.params) from fun x word wt way yt body bt l z hl hm hb hr hc H => ckP (unq [7,5,1,2] [0x211322111113211421113242111421113242114211132008f] [.p [1] (fun al tau => pRangeNext x.it 0 l 1 hl), .p [] (fun al tau => pMod way yt 4 (tau 2) 0 rfl hm), .p [] (fun al tau => pStrI word wt 0 (tau 0) 34 hr hc), .p [] (fun al tau => pEqS (St [34]) (tau 5) (St [92]) (tau 6) false rfl), .p [] (fun al tau => pMod way yt 4 (tau 8) 0 rfl hm), .p [] (fun al tau => pStrI word wt 0 (tau 0) 34 hr hc), .p [] (fun al tau => pEqS (St [34]) (tau 11) (St [34]) (tau 12) true rfl), .p [] (fun al tau => pMod way yt 4 (tau 14) 0 rfl hm), .p [] (fun al tau => pAdd body bt (St [92]) (tau 17) (by first | exact sz1 _ hb | exact sz2 _ _ hb)), .p [] (fun al tau => pStrI word wt 0 (tau 0) 34 hr hc), .p [] (fun al tau => pAdd (body ++ St [92]) (tau 18) (St [34]) (tau 20) (by first | exact sz1 _ hb | exact sz2 _ _ hb)), .a [0, 1] (fun al tau => pcK (H (tau 1) (tau 7) (tau 21) (tau 0)))]) [] [23, 24, 1, 7]]
      · open Mine PySem.Calls PySem.Spec PySem.Challenge.cw_pk0039_01_holds in grind only [show E_p00o P0 w (ktop_219 w.params) from fun x word wt way yt body bt l z hl hm hb c hr hc h1 h2 H => ckP (unq [7,5,2,1] [0x2114221111321114232111321114232113211142008f] [.p [1] (fun al tau => pRangeNext x.it 0 l 1 hl), .p [] (fun al tau => pMod way yt 4 (tau 2) 0 rfl hm), .p [] (fun al tau => pStrI word wt 0 (tau 0) c hr hc), .p [] (fun al tau => pEqS (St [c]) (tau 5) (St [92]) (tau 6) false (by first | exact eq_list1 h1 | exact eq_list1 h2)), .p [] (fun al tau => pMod way yt 4 (tau 8) 0 rfl hm), .p [] (fun al tau => pStrI word wt 0 (tau 0) c hr hc), .p [] (fun al tau => pEqS (St [c]) (tau 11) (St [34]) (tau 12) false (by first | exact eq_list1 h1 | exact eq_list1 h2)), .p [] (fun al tau => pMod way yt 4 (tau 14) 0 rfl hm), .p [] (fun al tau => pStrI word wt 0 (tau 0) c hr hc), .p [] (fun al tau => pAdd body bt (St [c]) (tau 17) (by first | exact sz1 _ hb | exact sz2 _ _ hb)), .a [0, 1] (fun al tau => pcK (H (tau 1) (tau 7) (tau 18) (tau 0)))]) [] [20, 21, 1, 7]]
      · open Mine PySem.Calls PySem.Spec PySem.Challenge.cw_pk0039_01_holds in grind only [show E_p01b P0 w (ktop_219 w.params) from fun x word wt way yt body bt l z hl hm hb hr hc H => ckP (unq [7,5,1,2] [0x211322111113211113142111314142111342114211132008f] [.p [1] (fun al tau => pRangeNext x.it 0 l 1 hl), .p [] (fun al tau => pMod way yt 4 (tau 2) 1 rfl hm), .p [] (fun al tau => pStrI word wt 0 (tau 0) 92 hr hc), .p [] (fun al tau => pMod way yt 4 (tau 8) 1 rfl hm), .p [] (fun al tau => pMod way yt 4 (tau 13) 1 rfl hm), .p [] (fun al tau => pAdd body bt (St [92]) (tau 17) (by first | exact sz1 _ hb | exact sz2 _ _ hb)), .p [] (fun al tau => pStrI word wt 0 (tau 0) 92 hr hc), .p [] (fun al tau => pAdd (body ++ St [92]) (tau 18) (St [92]) (tau 20) (by first | exact sz1 _ hb | exact sz2 _ _ hb)), .a [0, 1] (fun al tau => pcK (H (tau 1) (tau 7) (tau 21) (tau 0)))]) [] [23, 24, 1, 7]]
      · open Mine PySem.Calls PySem.Spec PySem.Challenge.cw_pk0039_01_holds in grind only [show E_p01q P0 w (ktop_219 w.params) from fun x word wt way yt body bt l z hl hm hb hr hc H => ckP (unq [7,5,1,2] [0x211322111113211113142111324211141421113242114211132008f] [.p [1] (fun al tau => pRangeNext x.it 0 l 1 hl), .p [] (fun al tau => pMod way yt 4 (tau 2) 1 rfl hm), .p [] (fun al tau => pStrI word wt 0 (tau 0) 34 hr hc), .p [] (fun al tau => pEqS (St [34]) (tau 5) (St [92]) (tau 6) false rfl), .p [] (fun al tau => pMod way yt 4 (tau 8) 1 rfl hm), .p [] (fun al tau => pStrI word wt 0 (tau 0) 34 hr hc), .p [] (fun al tau => pEqS (St [34]) (tau 12) (St [34]) (tau 13) true rfl), .p [] (fun al tau => pMod way yt 4 (tau 15) 1 rfl hm), .p [] (fun al tau => pAdd body bt (St [92]) (tau 19) (by first | exact sz1 _ hb | exact sz2 _ _ hb)), .p [] (fun al tau => pStrI word wt 0 (tau 0) 34 hr hc), .p [] (fun al tau => pAdd (body ++ St [92]) (tau 20) (St [34]) (tau 22) (by first | exact sz1 _ hb | exact sz2 _ _ hb)), .a [0, 1] (fun al tau => pcK (H (tau 1) (tau 7) (tau 23) (tau 0)))]) [] [25, 26, 1, 7]]
      · open Mine PySem.Calls PySem.Spec PySem.Challenge.cw_pk0039_01_holds in grind only [show E_p01w P0 w (ktop_219 w.params) from fun x word wt way yt body bt l z hl hm hb c hr hc h1 h2 h3 H => ckP (unq [7,5,1,2] [0x2113221111132111132211142111324211141421113242114211132008f] [.p [1] (fun al tau => pRangeNext x.it 0 l 1 hl), .p [] (fun al tau => pMod way yt 4 (tau 2) 1 rfl hm), .p [] (fun al tau => pStrI word wt 0 (tau 0) c hr hc), .p [] (fun al tau => pEqS (St [c]) (tau 5) (St [92]) (tau 6) false (by first | exact eq_list1 h1 | exact eq_list1 h2)), .p [] (fun al tau => pMod way yt 4 (tau 8) 1 rfl hm), .p [] (fun al tau => pStrI word wt 0 (tau 0) c hr hc), .p [] (fun al tau => pEqS (St [c]) (tau 12) (St [34]) (tau 13) false (by first | exact eq_list1 h1 | exact eq_list1 h2)), .p [] (fun al tau => pMod way yt 4 (tau 15) 1 rfl hm), .p [] (fun al tau => pStrI word wt 0 (tau 0) c hr hc), .p [] (fun al tau => pInS (St [32, 10]) (tau 19) (St [c]) (tau 18) true (in2 h3)), .p [] (fun al tau => pAdd body bt (St [92]) (tau 21) (by first | exact sz1 _ hb | exact sz2 _ _ hb)), .p [] (fun al tau => pStrI word wt 0 (tau 0) c hr hc), .p [] (fun al tau => pAdd (body ++ St [92]) (tau 22) (St [c]) (tau 24) (by first | exact sz1 _ hb | exact sz2 _ _ hb)), .a [0, 1] (fun al tau => pcK (H (tau 1) (tau 7) (tau 25) (tau 0)))]) [] [27, 28, 1, 7]]
      · open Mine PySem.Calls PySem.Spec PySem.Challenge.cw_pk0039_01_holds in grind only [show E_p01o P0 w (ktop_219 w.params) from fun x word wt way yt body bt l z hl hm hb c hr hc h1 h2 h3 H => ckP (unq [7,5,2,1] [0x21142211111142211132111423211131321114232113211142008f] [.p [1] (fun al tau => pRangeNext x.it 0 l 1 hl), .p [] (fun al tau => pMod way yt 4 (tau 2) 1 rfl hm), .p [] (fun al tau => pStrI word wt 0 (tau 0) c hr hc), .p [] (fun al tau => pEqS (St [c]) (tau 5) (St [92]) (tau 6) false (by first | exact eq_list1 h1 | exact eq_list1 h2)), .p [] (fun al tau => pMod way yt 4 (tau 8) 1 rfl hm), .p [] (fun al tau => pStrI word wt 0 (tau 0) c hr hc), .p [] (fun al tau => pEqS (St [c]) (tau 12) (St [34]) (tau 13) false (by first | exact eq_list1 h1 | exact eq_list1 h2)), .p [] (fun al tau => pMod way yt 4 (tau 15) 1 rfl hm), .p [] (fun al tau => pStrI word wt 0 (tau 0) c hr hc), .p [] (fun al tau => pInS (St [32, 10]) (tau 19) (St [c]) (tau 18) false (not2 h3)), .p [] (fun al tau => pStrI word wt 0 (tau 0) c hr hc), .p [] (fun al tau => pAdd body bt (St [c]) (tau 21) (by first | exact sz1 _ hb | exact sz2 _ _ hb)), .a [0, 1] (fun al tau => pcK (H (tau 1) (tau 7) (tau 22) (tau 0)))]) [] [24, 25, 1, 7]]
      · open Mine PySem.Calls PySem.Spec PySem.Challenge.cw_pk0039_01_holds in grind only [show E_p02a P0 w (ktop_219 w.params) from fun x word wt way yt body bt l z hl hm hb c hr hc H => ckP (unq [7,5,1,2] [0x2113221111132114211131414211134211132008f] [.p [1] (fun al tau => pRangeNext x.it 0 l 1 hl), .p [] (fun al tau => pMod way yt 4 (tau 2) 2 rfl hm), .p [] (fun al tau => pMod way yt 4 (tau 6) 2 rfl hm), .p [] (fun al tau => pMod way yt 4 (tau 11) 2 rfl hm), .p [] (fun al tau => pAdd body bt (St [92]) (tau 14) (by first | exact sz1 _ hb | exact sz2 _ _ hb)), .p [] (fun al tau => pStrI word wt 0 (tau 0) c hr hc), .p [] (fun al tau => pAdd (body ++ St [92]) (tau 15) (St [c]) (tau 17) (by first | exact sz1 _ hb | exact sz2 _ _ hb)), .a [0, 1] (fun al tau => pcK (H (tau 1) (tau 5) (tau 18) (tau 0)))]) [] [20, 21, 1, 5]]
      · open Mine PySem.Calls PySem.Spec PySem.Challenge.cw_pk0039_01_holds in grind only [show E_p03a P0 w (ktop_219 w.params) from fun x word wt way yt body bt l z hl hm hb c hr hc H => ckP (unq [7,5,1,2] [0x2113221111132114211131414211134211132008f] [.p [1] (fun al tau => pRangeNext x.it 0 l 1 hl), .p [] (fun al tau => pMod way yt 4 (tau 2) 3 rfl hm), .p [] (fun al tau => pMod way yt 4 (tau 6) 3 rfl hm), .p [] (fun al tau => pMod way yt 4 (tau 11) 3 rfl hm), .p [] (fun al tau => pAdd body bt (St [92]) (tau 14) (by first | exact sz1 _ hb | exact sz2 _ _ hb)), .p [] (fun al tau => pStrI word wt 0 (tau 0) c hr hc), .p [] (fun al tau => pAdd (body ++ St [92]) (tau 15) (St [c]) (tau 17) (by first | exact sz1 _ hb | exact sz2 _ _ hb)), .a [0, 1] (fun al tau => pcK (H (tau 1) (tau 5) (tau 18) (tau 0)))]) [] [20, 21, 1, 5]]
      · open Mine PySem.Calls PySem.Spec PySem.Challenge.cw_pk0039_01_holds in grind only [show E_p10b P0 w (ktop_219 w.params) from fun x word wt way yt body bt k kk m i hk l z hl hm hb hr hc H => ckP (unq [7,5,1,2] [0x211322111113211421113142111342114211132008f] [.p [1] (fun al tau => pRangeNext x.it i l 1 hl), .p [] (fun al tau => pMod way yt 4 (tau 2) 0 rfl hm), .p [] (fun al tau => pStrI word wt i (tau 0) 92 hr hc), .p [] (fun al tau => pMod way yt 4 (tau 8) 0 rfl hm), .p [] (fun al tau => pMod way yt 4 (tau 12) 0 rfl hm), .p [] (fun al tau => pAdd body bt (St [92]) (tau 15) (by first | exact sz1 _ hb | exact sz2 _ _ hb)), .p [] (fun al tau => pStrI word wt i (tau 0) 92 hr hc), .p [] (fun al tau => pAdd (body ++ St [92]) (tau 16) (St [92]) (tau 18) (by first | exact sz1 _ hb | exact sz2 _ _ hb)), .a [0, 1] (fun al tau => pcK (H (tau 19) (tau 0)))]) [] [21, 22]]
      · open Mine PySem.Calls PySem.Spec PySem.Challenge.cw_pk0039_01_holds in grind only [show E_p10q P0 w (ktop_219 w.params) from fun x word wt way yt body bt k kk m i hk l z hl hm hb hr hc H => ckP (unq [7,5,1,2] [0x211322111113211421113242111421113242114211132008f] [.p [1] (fun al tau => pRangeNext x.it i l 1 hl), .p [] (fun al tau => pMod way yt 4 (tau 2) 0 rfl hm), .p [] (fun al tau => pStrI word wt i (tau 0) 34 hr hc), .p [] (fun al tau => pEqS (St [34]) (tau 5) (St [92]) (tau 6) false rfl), .p [] (fun al tau => pMod way yt 4 (tau 8) 0 rfl hm), .p [] (fun al tau => pStrI word wt i (tau 0) 34 hr hc), .p [] (fun al tau => pEqS (St [34]) (tau 11) (St [34]) (tau 12) true rfl), .p [] (fun al tau => pMod way yt 4 (tau 14) 0 rfl hm), .p [] (fun al tau => pAdd body bt (St [92]) (tau 17) (by first | exact sz1 _ hb | exact sz2 _ _ hb)), .p [] (fun al tau => pStrI word wt i (tau 0) 34 hr hc), .p [] (fun al tau => pAdd (body ++ St [92]) (tau 18) (St [34]) (tau 20) (by first | exact sz1 _ hb | exact sz2 _ _ hb)), .a [0, 1] (fun al tau => pcK (H (tau 21) (tau 0)))]) [] [23, 24]]
      · open Mine PySem.Calls PySem.Spec PySem.Challenge.cw_pk0039_01_holds in grind only [show E_p10o P0 w (ktop_219 w.params) from fun x word wt way yt body bt k kk m i hk l z hl hm hb c hr hc h1 h2 H => ckP (unq [7,5,2,1] [0x2114221111321114232111321114232113211142008f] [.p [1] (fun al tau => pRangeNext x.it i l 1 hl), .p [] (fun al tau => pMod way yt 4 (tau 2) 0 rfl hm), .p [] (fun al tau => pStrI word wt i (tau 0) c hr hc), .p [] (fun al tau => pEqS (St [c]) (tau 5) (St [92]) (tau 6) false (by first | exact eq_list1 h1 | exact eq_list1 h2)), .p [] (fun al tau => pMod way yt 4 (tau 8) 0 rfl hm), .p [] (fun al tau => pStrI word wt i (tau 0) c hr hc), .p [] (fun al tau => pEqS (St [c]) (tau 11) (St [34]) (tau 12) false (by first | exact eq_list1 h1 | exact eq_list1 h2)), .p [] (fun al tau => pMod way yt 4 (tau 14) 0 rfl hm), .p [] (fun al tau => pStrI word wt i (tau 0) c hr hc), .p [] (fun al tau => pAdd body bt (St [c]) (tau 17) (by first | exact sz1 _ hb | exact sz2 _ _ hb)), .a [0, 1] (fun al tau => pcK (H (tau 18) (tau 0)))]) [] [20, 21]]
      · open Mine PySem.Calls PySem.Spec PySem.Challenge.cw_pk0039_01_holds in grind only [show E_p11b P0 w (ktop_219 w.params) from fun x word wt way yt body bt k kk m i hk l z hl hm hb hr hc H => ckP (unq [7,5,1,2] [0x211322111113211113142124142111342114211132008f] [.p [1] (fun al tau => pRangeNext x.it i l 1 hl), .p [] (fun al tau => pMod way yt 4 (tau 2) 1 rfl hm), .p [] (fun al tau => pStrI word wt i (tau 0) 92 hr hc), .p [] (fun al tau => pMod way yt 4 (tau 8) 1 rfl hm), .p [] (fun al tau => pEqI i (tau 0) 0 (tau 11) false hk), .p [] (fun al tau => pMod way yt 4 (tau 12) 1 rfl hm), .p [] (fun al tau => pAdd body bt (St [92]) (tau 16) (by first | exact sz1 _ hb | exact sz2 _ _ hb)), .p [] (fun al tau => pStrI word wt i (tau 0) 92 hr hc), .p [] (fun al tau => pAdd (body ++ St [92]) (tau 17) (St [92]) (tau 19) (by first | exact sz1 _ hb | exact sz2 _ _ hb)), .a [0, 1] (fun al tau => pcK (H (tau 20) (tau 0)))]) [] [22, 23]]
      · open Mine PySem.Calls PySem.Spec PySem.Challenge.cw_pk0039_01_holds in grind only [show E_p11w P0 w (ktop_219 w.params) from fun x word wt way yt body bt k kk m i hk l z hl hm hb c hr hc h1 h3 H => ckP (unq [7,5,1,2] [0x21132211111321111322111421241421113242114211132008f] [.p [1] (fun al tau => pRangeNext x.it i l 1 hl), .p [] (fun al tau => pMod way yt 4 (tau 2) 1 rfl hm), .p [] (fun al tau => pStrI word wt i (tau 0) c hr hc), .p [] (fun al tau => pEqS (St [c]) (tau 5) (St [92]) (tau 6) false (by first | exact eq_list1 h1)), .p [] (fun al tau => pMod way yt 4 (tau 8) 1 rfl hm), .p [] (fun al tau => pEqI i (tau 0) 0 (tau 11) false hk), .p [] (fun al tau => pMod way yt 4 (tau 12) 1 rfl hm), .p [] (fun al tau => pStrI word wt i (tau 0) c hr hc), .p [] (fun al tau => pInS (St [32, 10]) (tau 16) (St [c]) (tau 15) true (in2 h3)), .p [] (fun al tau => pAdd body bt (St [92]) (tau 18) (by first | exact sz1 _ hb | exact sz2 _ _ hb)), .p [] (fun al tau => pStrI word wt i (tau 0) c hr hc), .p [] (fun al tau => pAdd (body ++ St [92]) (tau 19) (St [c]) (tau 21) (by first | exact sz1 _ hb | exact sz2 _ _ hb)), .a [0, 1] (fun al tau => pcK (H (tau 22) (tau 0)))]) [] [24, 25]]
      · open Mine PySem.Calls PySem.Spec PySem.Challenge.cw_pk0039_01_holds in grind only [show E_p11o P0 w (ktop_219 w.params) from fun x word wt way yt body bt k kk m i hk l z hl hm hb c hr hc h1 h3 H => ckP (unq [7,5,2,1] [0x211422111111422111321231321114232113211142008f] [.p [1] (fun al tau => pRangeNext x.it i l 1 hl), .p [] (fun al tau => pMod way yt 4 (tau 2) 1 rfl hm), .p [] (fun al tau => pStrI word wt i (tau 0) c hr hc), .p [] (fun al tau => pEqS (St [c]) (tau 5) (St [92]) (tau 6) false (by first | exact eq_list1 h1)), .p [] (fun al tau => pMod way yt 4 (tau 8) 1 rfl hm), .p [] (fun al tau => pEqI i (tau 0) 0 (tau 11) false hk), .p [] (fun al tau => pMod way yt 4 (tau 12) 1 rfl hm), .p [] (fun al tau => pStrI word wt i (tau 0) c hr hc), .p [] (fun al tau => pInS (St [32, 10]) (tau 16) (St [c]) (tau 15) false (not2 h3)), .p [] (fun al tau => pStrI word wt i (tau 0) c hr hc), .p [] (fun al tau => pAdd body bt (St [c]) (tau 18) (by first | exact sz1 _ hb | exact sz2 _ _ hb)), .a [0, 1] (fun al tau => pcK (H (tau 19) (tau 0)))]) [] [21, 22]]
      · open Mine PySem.Calls PySem.Spec PySem.Challenge.cw_pk0039_01_holds in grind only [show E_p12a P0 w (ktop_219 w.params) from fun x word wt way yt body bt k kk m i hk l z hl hm hb c hr hc H => ckP (unq [7,5,1,2] [0x2113221111132114212414211134211132008f] [.p [1] (fun al tau => pRangeNext x.it i l 1 hl), .p [] (fun al tau => pMod way yt 4 (tau 2) 2 rfl hm), .p [] (fun al tau => pMod way yt 4 (tau 6) 2 rfl hm), .p [] (fun al tau => pEqI i (tau 0) 0 (tau 9) false hk), .p [] (fun al tau => pMod way yt 4 (tau 10) 2 rfl hm), .p [] (fun al tau => pAdd body bt (St [92]) (tau 13) (by first | exact sz1 _ hb | exact sz2 _ _ hb)), .p [] (fun al tau => pStrI word wt i (tau 0) c hr hc), .p [] (fun al tau => pAdd (body ++ St [92]) (tau 14) (St [c]) (tau 16) (by first | exact sz1 _ hb | exact sz2 _ _ hb)), .a [0, 1] (fun al tau => pcK (H (tau 17) (tau 0)))]) [] [19, 20]]
      · open Mine PySem.Calls PySem.Spec PySem.Challenge.cw_pk0039_01_holds in grind only [show E_p13a P0 w (ktop_219 w.params) from fun x word wt way yt body bt k kk m i hk l z hl hm hb c hr hc H => ckP (unq [7,5,1,2] [0x2113221111132114212414211134211132008f] [.p [1] (fun al tau => pRangeNext x.it i l 1 hl), .p [] (fun al tau => pMod way yt 4 (tau 2) 3 rfl hm), .p [] (fun al tau => pMod way yt 4 (tau 6) 3 rfl hm), .p [] (fun al tau => pEqI i (tau 0) 0 (tau 9) false hk), .p [] (fun al tau => pMod way yt 4 (tau 10) 3 rfl hm), .p [] (fun al tau => pAdd body bt (St [92]) (tau 13) (by first | exact sz1 _ hb | exact sz2 _ _ hb)), .p [] (fun al tau => pStrI word wt i (tau 0) c hr hc), .p [] (fun al tau => pAdd (body ++ St [92]) (tau 14) (St [c]) (tau 16) (by first | exact sz1 _ hb | exact sz2 _ _ hb)), .a [0, 1] (fun al tau => pcK (H (tau 17) (tau 0)))]) [] [19, 20]]
      · open Mine PySem.Calls PySem.Spec PySem.Challenge.cw_pk0039_01_holds in grind only [show E_pE P0 w (ktop_219 w.params) from fun x word wt way yt body bt k kk m i l hl => ckP (unq [] [0xaf005f008f] [.p [1] (fun al tau => pRangeEnd x.it i l 1 hl)]) [] []]
    · constructor
      · open Mine PySem.Calls PySem.Spec PySem.Challenge.cw_pk0039_01_holds in grind only [show E_pc0 P0 w (ktop_219 w.params) from fun word wt way yt hw hm q hq hqe z hz H => ckP (unq [7,5,6,8,1,10,11] [0x221212772111526662212009f2002f444444213333115311511533] [.p [] (fun al tau => pLenS word wt (by omega)), .p [1] (fun al tau => pRangeIter (al 1) (↑word.length) (tau 5) (tau 4) (tau 6) (by omega) (by omega)), .p [0, 2] (fun al tau => pcK0 (H (al 0) (al 2) (tau 0) (tau 1) (tau 3) (tau 2))), .p [] (fun al tau => pFdiv way yt 4 (tau 15) (Int.fdiv way 4) rfl rfl rfl), .p [] (fun al tau => pMod (way.fdiv 4) (tau 16) 4 (tau 17) q rfl hqe), .p [3] (fun al tau => pListI (al 3) [.str ⟨#[]⟩ (tau 11), .str ⟨#[9]⟩ (tau 12), .str ⟨#[10]⟩ (tau 13), .str ⟨#[13, 32]⟩ (tau 14)] 0 ((↑q)) (tau 18) _ (by omega) (by omega) (lead4 (tau 11) (tau 12) (tau 13) (tau 14) q hq)), .p [] (fun al tau => pMod way yt 4 (tau 20) 0 rfl hm), .p [4] (fun al tau => pInL (al 4) [.int 0 (tau 22), .int 3 (tau 23)] 0 [0, 3] rfl ((0)) (tau 21) true rfl), .p [] (fun al tau => pAdd (leadOf q) (nthN [clamp tau 19 11, clamp tau 19 12, clamp tau 19 13, clamp tau 19 14] q) (St [34]) (tau 24) (by first | exact szA q 34 hz | exact szB q 34 hz | exact szC q 34 34 hz | exact szD q hz | exact szE q _ hz)), .p [] (fun al tau => pAdd (leadOf q ++ St [34]) (tau 25) z.r (tau 7) (by first | exact szA q 34 hz | exact szB q 34 hz | exact szC q 34 34 hz | exact szD q hz | exact szE q _ hz)), .p [] (fun al tau => pAdd (leadOf q ++ St [34] ++ z.r) (tau 26) (St [34]) (tau 27) (by first | exact szA q 34 hz | exact szB q 34 hz | exact szC q 34 34 hz | exact szD q hz | exact szE q _ hz))]) [] [28]]
      · open Mine PySem.Calls PySem.Spec PySem.Challenge.cw_pk0039_01_holds in grind only [show E_pc1 P0 w (ktop_219 w.params) from fun word wt way yt hw hm q hq hqe r c hre hr hc z hz H => ckP (unq [7,5,6,8,1,10,11] [0x222212112772111526662212009f2002f444444213333115311511533] [.p [] (fun al tau => pLenS word wt (by omega)), .p [1] (fun al tau => pRangeIter (al 1) (↑word.length) (tau 5) (tau 4) (tau 6) (by omega) (by omega)), .p [0, 2] (fun al tau => pcK0 (H (al 0) (al 2) (tau 0) (tau 1) (tau 3) (tau 2))), .p [] (fun al tau => pFdiv way yt 4 (tau 15) (Int.fdiv way 4) rfl rfl rfl), .p [] (fun al tau => pMod (way.fdiv 4) (tau 16) 4 (tau 17) q rfl hqe), .p [3] (fun al tau => pListI (al 3) [.str ⟨#[]⟩ (tau 11), .str ⟨#[9]⟩ (tau 12), .str ⟨#[10]⟩ (tau 13), .str ⟨#[13, 32]⟩ (tau 14)] 0 ((↑q)) (tau 18) _ (by omega) (by omega) (lead4 (tau 11) (tau 12) (tau 13) (tau 14) q hq)), .p [] (fun al tau => pMod way yt 4 (tau 20) 1 rfl hm), .p [4] (fun al tau => pInL (al 4) [.int 0 (tau 22), .int 3 (tau 23)] 0 [0, 3] rfl ((1)) (tau 21) false rfl), .p [] (fun al tau => pAdd (leadOf q) (nthN [clamp tau 19 11, clamp tau 19 12, clamp tau 19 13, clamp tau 19 14] q) z.r (tau 7) (by first | exact szA q 34 hz | exact szB q 34 hz | exact szC q 34 34 hz | exact szD q hz | exact szE q _ hz)), .p [] (fun al tau => pFdiv way yt 16 (tau 26) (Int.fdiv way 16) rfl rfl rfl), .p [] (fun al tau => pMod (way.fdiv 16) (tau 27) 4 (tau 28) r rfl hre), .p [] (fun al tau => pStrI (St [32, 10, 9, 13]) (tau 25) r (tau 29) c hr hc), .p [] (fun al tau => pAdd (leadOf q ++ z.r) (tau 24) (St [c]) (tau 30) (by first | exact szA q 34 hz | exact szB q 34 hz | exact szC q 34 34 hz | exact szD q hz | exact szE q _ hz))]) [] [31]]
      · open Mine PySem.Calls PySem.Spec PySem.Challenge.cw_pk0039_01_holds in grind only [show E_pc2 P0 w (ktop_219 w.params) from fun word wt way yt hw hm q hq hqe r c hre hr hc z hz H => ckP (unq [7,5,6,8,1,10,11] [0x222212112772111526662212009f2002f444444213333115311511533] [.p [] (fun al tau => pLenS word wt (by omega)), .p [1] (fun al tau => pRangeIter (al 1) (↑word.length) (tau 5) (tau 4) (tau 6) (by omega) (by omega)), .p [0, 2] (fun al tau => pcK0 (H (al 0) (al 2) (tau 0) (tau 1) (tau 3) (tau 2))), .p [] (fun al tau => pFdiv way yt 4 (tau 15) (Int.fdiv way 4) rfl rfl rfl), .p [] (fun al tau => pMod (way.fdiv 4) (tau 16) 4 (tau 17) q rfl hqe), .p [3] (fun al tau => pListI (al 3) [.str ⟨#[]⟩ (tau 11), .str ⟨#[9]⟩ (tau 12), .str ⟨#[10]⟩ (tau 13), .str ⟨#[13, 32]⟩ (tau 14)] 0 ((↑q)) (tau 18) _ (by omega) (by omega) (lead4 (tau 11) (tau 12) (tau 13) (tau 14) q hq)), .p [] (fun al tau => pMod way yt 4 (tau 20) 2 rfl hm), .p [4] (fun al tau => pInL (al 4) [.int 0 (tau 22), .int 3 (tau 23)] 0 [0, 3] rfl ((2)) (tau 21) false rfl), .p [] (fun al tau => pAdd (leadOf q) (nthN [clamp tau 19 11, clamp tau 19 12, clamp tau 19 13, clamp tau 19 14] q) z.r (tau 7) (by first | exact szA q 34 hz | exact szB q 34 hz | exact szC q 34 34 hz | exact szD q hz | exact szE q _ hz)), .p [] (fun al tau => pFdiv way yt 16 (tau 26) (Int.fdiv way 16) rfl rfl rfl), .p [] (fun al tau => pMod (way.fdiv 16) (tau 27) 4 (tau 28) r rfl hre), .p [] (fun al tau => pStrI (St [32, 10, 9, 13]) (tau 25) r (tau 29) c hr hc), .p [] (fun al tau => pAdd (leadOf q ++ z.r) (tau 24) (St [c]) (tau 30) (by first | exact szA q 34 hz | exact szB q 34 hz | exact szC q 34 34 hz | exact szD q hz | exact szE q _ hz))]) [] [31]]
      · open Mine PySem.Calls PySem.Spec PySem.Challenge.cw_pk0039_01_holds in grind only [show E_pc3 P0 w (ktop_219 w.params) from fun word wt way yt hw hm q hq hqe z hz H => ckP (unq [7,5,6,8,1,10,11] [0x221212772111526662212009f2002f444444213333115311511533] [.p [] (fun al tau => pLenS word wt (by omega)), .p [1] (fun al tau => pRangeIter (al 1) (↑word.length) (tau 5) (tau 4) (tau 6) (by omega) (by omega)), .p [0, 2] (fun al tau => pcK0 (H (al 0) (al 2) (tau 0) (tau 1) (tau 3) (tau 2))), .p [] (fun al tau => pFdiv way yt 4 (tau 15) (Int.fdiv way 4) rfl rfl rfl), .p [] (fun al tau => pMod (way.fdiv 4) (tau 16) 4 (tau 17) q rfl hqe), .p [3] (fun al tau => pListI (al 3) [.str ⟨#[]⟩ (tau 11), .str ⟨#[9]⟩ (tau 12), .str ⟨#[10]⟩ (tau 13), .str ⟨#[13, 32]⟩ (tau 14)] 0 ((↑q)) (tau 18) _ (by omega) (by omega) (lead4 (tau 11) (tau 12) (tau 13) (tau 14) q hq)), .p [] (fun al tau => pMod way yt 4 (tau 20) 3 rfl hm), .p [4] (fun al tau => pInL (al 4) [.int 0 (tau 22), .int 3 (tau 23)] 0 [0, 3] rfl ((3)) (tau 21) true rfl), .p [] (fun al tau => pAdd (leadOf q) (nthN [clamp tau 19 11, clamp tau 19 12, clamp tau 19 13, clamp tau 19 14] q) (St [34]) (tau 24) (by first | exact szA q 34 hz | exact szB q 34 hz | exact szC q 34 34 hz | exact szD q hz | exact szE q _ hz)), .p [] (fun al tau => pAdd (leadOf q ++ St [34]) (tau 25) z.r (tau 7) (by first | exact szA q 34 hz | exact szB q 34 hz | exact szC q 34 34 hz | exact szD q hz | exact szE q _ hz)), .p [] (fun al tau => pAdd (leadOf q ++ St [34] ++ z.r) (tau 26) (St [34]) (tau 27) (by first | exact szA q 34 hz | exact szB q 34 hz | exact szC q 34 34 hz | exact szD q hz | exact szE q _ hz))]) [] [28]]
    · constructor
      · open Mine PySem.Calls PySem.Spec PySem.Challenge.cw_pk0039_01_holds in grind only [show E_glc P0 w (ktop_219 w.params) from fun wd wt u v x y H hu hv hx hy => ckP (unq [11,9,7,6,8,1,5,10,2,3] [0x281117a1225222281117a122522228111119111111125955734444433644,0x3333633600df225222] [.p [] (fun al tau => pSplit wd wt (St [46]) (tau 1) u v H), .p [] (fun al tau => pIntT u (tau 2) x hu hx), .p [] (fun al tau => pIntT v (tau 3) y hv hy)]) [7] [4, 5]]
    · constructor
      · open Mine PySem.Calls PySem.Spec PySem.Challenge.cw_pk0039_01_holds in grind only [show E_tree P0 w (ktop_219 w.params) from fun X p l lt ep wd wt a b ha hb ha1 hb1 H0 W => ckP (unq [6,7,8,10,13,11,1,2,9,5,3,16,23,30] [0xef100ef00ef711193111131113111341447555555555500cf00cf00cf00cf800cf00cf00cf00cf00cf00cf11447144711,0xff800ff00ff00ff46666466664447a122222222291331113111300ef22222913311131113,0xa84411aba8411931111311131113484447447012fcc00ffcccccc00ffcccccc00ffccccc,0xaba844119311113111311134842222013f2222913311131113013f1013f013f7013f013f7111ab,0x1131113414475555555552222014f2222913311131113014f1014f014f7014f014f7111aba8411,0x447a1222222222913311131113015f22222913311131113015f1015f015f711193111131,0x111311131113484447447019fdd016fdddddd016fdddddd016fddddd016f8016f016f016f46666466664,0x1131113484222201af222291331113111301af101af01af701af01af7111aba84411aba8411931,0x55555222201bf222291331113111301bf101bf01bf701bf01bf7111aba8411aba8441193111131,0x331113111301cf2222291331113111301cf101cf01cf7111931111311131113414475555,0x47447020fee01dfeeeeee01dfeeeeee01dfeeeee01df801df01df01df46666466664447a122222222291,0x222913311131113021f1021f021f7021f021f7111aba84411aba84119311113111311134844,0x3311131113022f1022f022f7022f022f7111aba8411aba844119311113111311134842222021f2,0x913311131113023f1023f023f7111931111311131113414475555555552222022f222291,0x25f025f025f025f025f025f024f025f025f025f025f025f024f8024f024f024f46666466664447a1222222222913311131113023f22222,0x1028f028f7028f028f7111aba84411aba8411931111311131113484447447027f025f025f024f025f025f025f025f025f025f024f,0x29f7111aba8411aba844119311113111311134842222028f2222913311131113028f,0x7111931111311131113414475555555552222029f2222913311131113029f1029f029f7029f,0x2bf46666466664447a122222222291331113111302af2222291331113111302af102af02af,0x11aba841193111131113111348444744702ef02cf02cf02bf02cf02cf02cf02cf02cf02cf02bf02cf02cf02cf02cf02cf02cf02bf02cf02cf02cf02cf02cf02bf802bf02bf,0x4411931111311131113484222202ff222291331113111302ff102ff02ff702ff02ff7111aba844,0x113414475555555552222030f2222913311131113030f1030f030f7030f030f7111aba8411aba8,0x1222222222913311131113031f22222913311131113031f1031f031f7111931111311131,0x11131113484447447035f033f033f032f033f033f033f033f033f033f032f033f033f033f033f033f033f032f033f033f033f033f033f032f8032f032f032f46666466664447a,0x1134842222036f2222913311131113036f1036f036f7036f036f7111aba84411aba84119311113,0x52222037f2222913311131113037f1037f037f7037f037f7111aba8411aba84411931111311131,0x131113038f22222913311131113038f1038f038f71119311113111311134144755555555,0x703cf03af03af039f03af03af03af03af03af03af039f03af03af03af03af03af03af039f03af03af03af03af03af039f8039f039f039f46666466664447a1222222222913311,0x1331113111303df103df03df703df03df7111aba84411aba841193111131113111348444744,0x13111303ef103ef03ef703ef03ef7111aba8411aba84411931111311131113484222203df22229,0x1113111303ff103ff03ff711193111131113111341447555555555222203ef2222913311,0x41f041f040f041f041f041f041f041f040f8040f040f040f46666466664447a122222222291331113111303ff222229133,0x44f044f7111aba84411aba8411931111311131113484447447043f041f041f040f041f041f041f041f041f041f040f041f041f041f041f,0x1aba8411aba844119311113111311134842222044f2222913311131113044f1044f044f7,0x931111311131113414475555555552222045f2222913311131113045f1045f045f7045f045f711,0x66466664447a1222222222913311131113046f22222913311131113046f1046f046f7111,0xa841193111131113111348444744704af048f048f047f048f048f048f048f048f048f047f048f048f048f048f048f048f047f048f048f048f048f048f047f8047f047f047f466,0x931111311131113484222204bf222291331113111304bf104bf04bf704bf04bf7111aba84411ab,0x1447555555555222204cf222291331113111304cf104cf04cf704cf04cf7111aba8411aba84411,0x22222291331113111304df2222291331113111304df104df04df71119311113111311134,0x1113484447447051f04ff04ff04ef04ff04ff04ff04ff04ff04ff04ef04ff04ff04ff04ff04ff04ff04ef04ff04ff04ff04ff04ff04ef804ef04ef04ef46666466664447a1222,0x842222052f2222913311131113052f1052f052f7052f052f7111aba84411aba841193111131113,0x2053f2222913311131113053f1053f053f7053f053f7111aba8411aba844119311113111311134,0x13054f22222913311131113054f1054f054f711193111131113111341447555555555222,0x55f056f056f056f056f056f056f055f056f056f056f056f056f056f055f056f056f056f056f056f055f8055f055f055f46666466664447a12222222229133111311,0x1131113059f1059f059f7059f059f7111aba84411aba8411931111311131113484447447058f056f056f,0x1305af105af05af705af05af7111aba8411aba844119311113111311134842222059f222291331,0x111305bf105bf05bf711193111131113111341447555555555222205af22229133111311,0x5df05df05df05df05cf805cf05cf05cf46666466664447a122222222291331113111305bf2222291331113,0x11aba84411aba841193111131113111348444744705ff05df05df05cf05df05df05df05df05df05df05cf05df05df05df05df05df05df05cf05df,0x8411aba844119311113111311134842222060f2222913311131113060f1060f060f7060f060f71,0x11311131113414475555555552222061f2222913311131113061f1061f061f7061f061f7111aba,0x6664447a1222222222913311131113062f22222913311131113062f1062f062f71119311,0x1931111311131113484447447066f064f064f063f064f064f064f064f064f064f063f064f064f064f064f064f064f063f064f064f064f064f064f063f8063f063f063f4666646,0x113111311134842222067f2222913311131113067f1067f067f7067f067f7111aba84411aba841,0x5555555552222068f2222913311131113068f1068f068f7068f068f7111aba8411aba844119311,0x22913311131113069f22222913311131113069f1069f069f711193111131113111341447,0x48444744706df06bf06bf06af06bf06bf06bf06bf06bf06bf06af06bf06bf06bf06bf06bf06bf06af06bf06bf06bf06bf06bf06af806af06af06af46666466664447a12222222,0x2206ef222291331113111306ef106ef06ef706ef06ef7111aba84411aba8411931111311131113,0x2291331113111306ff106ff06ff706ff06ff7111aba8411aba8441193111131113111348422,0x2222913311131113070f1070f070f711193111131113111341447555555555222206ff22,0x72f072f072f071f072f072f072f072f072f072f071f072f072f072f072f072f071f8071f071f071f46666466664447a1222222222913311131113070f2,0x113075f1075f075f7075f075f7111aba84411aba8411931111311131113484447447074f072f072f071f072f072f072f,0x76f076f7076f076f7111aba8411aba844119311113111311134842222075f2222913311131,0x77f1077f077f7111931111311131113414475555555552222076f2222913311131113076f1,0x78f8078f078f078f46666466664447a1222222222913311131113077f22222913311131113,0x111131113111341447555555555848444744707bf079f079f078f079f079f079f079f079f079f078f079f079f079f079f079f079f078f079f079f079f079f079f,0x466664447a122222222291331113111307cf2222291331113111307cf107cf07cf711193,0x113414475555555558484447447080f07ef07ef07df07ef07ef07ef07ef07ef07ef07df07ef07ef07ef07ef07ef07ef07df07ef07ef07ef07ef07ef07df807df07df07df46666,0x1222222222913311131113081f22222913311131113081f1081f081f7111931111311131,0x55555558484447447085f083f083f082f083f083f083f083f083f083f082f083f083f083f083f083f083f082f083f083f083f083f083f082f8082f082f082f46666466664447a,0x913311131113086f22222913311131113086f1086f086f71119311113111311134144755,0x444744708af088f088f087f088f088f088f088f088f088f087f088f088f088f088f088f088f087f088f088f088f088f088f087f8087f087f087f46666466664447a1222222222,0x1308bf2222291331113111308bf108bf08bf711193111131113111341447555555555848,0x8cf08df08df08df08df08df08df08cf08df08df08df08df08df08df08cf08df08df08df08df08df08cf808cf08cf08cf46666466664447a12222222229133111311,0x3311131113090f1090f090f711193111131113111341447555555555848444744708ff08df08df,0x92f092f092f092f091f092f092f092f092f092f091f8091f091f091f46666466664447a1222222222913311131113090f2222291,0x95f1095f095f7111931111311131113414475555555558484447447094f092f092f091f092f092f092f092f092f092f091f092f092f,0x96f8096f096f096f46666466664447a1222222222913311131113095f22222913311131113,0x1111311131113414475555555558484447447099f097f097f096f097f097f097f097f097f097f096f097f097f097f097f097f097f096f097f097f097f097f097f,0x466664447a122222222291331113111309af2222291331113111309af109af09af711193,0x11341447555555555848444744709ef09cf09cf09bf09cf09cf09cf09cf09cf09cf09bf09cf09cf09cf09cf09cf09cf09bf09cf09cf09cf09cf09cf09bf809bf09bf09bf46666,0x122222222291331113111309ff2222291331113111309ff109ff09ff7111931111311131,0x555555584844474470a3f0a1f0a1f0a0f0a1f0a1f0a1f0a1f0a1f0a1f0a0f0a1f0a1f0a1f0a1f0a1f0a1f0a0f0a1f0a1f0a1f0a1f0a1f0a0f80a0f0a0f0a0f46666466664447a,0x9133111311130a4f222229133111311130a4f10a4f0a4f71119311113111311134144755,0x44474470a8f0a6f0a6f0a5f0a6f0a6f0a6f0a6f0a6f0a6f0a5f0a6f0a6f0a6f0a6f0a6f0a6f0a5f0a6f0a6f0a6f0a6f0a6f0a5f80a5f0a5f0a5f46666466664447a1222222222,0x130a9f222229133111311130a9f10a9f0a9f711193111131113111341447555555555848,0xaaf0abf0abf0abf0abf0abf0abf0aaf0abf0abf0abf0abf0abf0abf0aaf0abf0abf0abf0abf0abf0aaf80aaf0aaf0aaf46666466664447a12222222229133111311,0x33111311130aef10aef0aef71119311113111311134144755555555584844474470adf0abf0abf,0xb0f0b0f0b0f0b0f0aff0b0f0b0f0b0f0b0f0b0f0aff80aff0aff0aff46666466664447a12222222229133111311130aef2222291,0xb3f10b3f0b3f71119311113111311134144755555555584844474470b2f0b0f0b0f0aff0b0f0b0f0b0f0b0f0b0f0b0f0aff0b0f0b0f,0xb4f80b4f0b4f0b4f46666466664447a12222222229133111311130b3f22222913311131113,0x11113111311134144755555555584844474470b7f0b5f0b5f0b4f0b5f0b5f0b5f0b5f0b5f0b5f0b4f0b5f0b5f0b5f0b5f0b5f0b5f0b4f0b5f0b5f0b5f0b5f0b5f,0x466664447a12222222229133111311130b8f222229133111311130b8f10b8f0b8f711193,0x1134144755555555584844474470bcf0baf0baf0b9f0baf0baf0baf0baf0baf0baf0b9f0baf0baf0baf0baf0baf0baf0b9f0baf0baf0baf0baf0baf0b9f80b9f0b9f0b9f46666,0x12222222229133111311130bdf222229133111311130bdf10bdf0bdf7111931111311131,0x555555584844474470c1f0bff0bff0bef0bff0bff0bff0bff0bff0bff0bef0bff0bff0bff0bff0bff0bff0bef0bff0bff0bff0bff0bff0bef80bef0bef0bef46666466664447a,0x9133111311130c2f222229133111311130c2f10c2f0c2f71119311113111311134144755,0x44474470c6f0c4f0c4f0c3f0c4f0c4f0c4f0c4f0c4f0c4f0c3f0c4f0c4f0c4f0c4f0c4f0c4f0c3f0c4f0c4f0c4f0c4f0c4f0c3f80c3f0c3f0c3f46666466664447a1222222222,0x40c8f55555848] [.p [] (fun al tau => glcK X ((wt)) H0), .p [] (fun al tau => pRepr ((a)) (tau 13) (log_ok (by omega) (by omega)) (len_ok (by omega) (by omega))), .p [] (fun al tau => pAdd ((strI a)) (tau 19) ((St [46])) (tau 20) (by first | exact szw1 (by omega) (by omega) | exact szw2 (by omega) (by omega) (by omega) (by omega))), .p [] (fun al tau => pRepr ((a + b)) (tau 22) (log_ok (by omega) (by omega)) (len_ok (by omega) (by omega))), .p [] (fun al tau => pAdd ((strI a ++ St [46])) (tau 21) ((strI (a + b))) (tau 23) (by first | exact szw1 (by omega) (by omega) | exact szw2 (by omega) (by omega) (by omega) (by omega))), .p [] (fun al tau => pRepr ((a + b)) (tau 29) (log_ok (by omega) (by omega)) (len_ok (by omega) (by omega))), .p [] (fun al tau => pAdd ((strI (a + b))) (tau 30) ((St [46])) (tau 31) (by first | exact szw1 (by omega) (by omega) | exact szw2 (by omega) (by omega) (by omega) (by omega))), .p [] (fun al tau => pRepr ((b)) (tau 14) (log_ok (by omega) (by omega)) (len_ok (by omega) (by omega))), .p [] (fun al tau => pAdd ((strI (a + b) ++ St [46])) (tau 32) ((strI b)) (tau 33) (by first | exact szw1 (by omega) (by omega) | exact szw2 (by omega) (by omega) (by omega) (by omega))), .p [] (fun al tau => glcK X (tau 24) (W a (a + b) (by omega) (by omega) (by omega) (by omega))), .p [] (fun al tau => pRepr ((a)) (tau 46) (log_ok (by omega) (by omega)) (len_ok (by omega) (by omega))), .p [] (fun al tau => pAdd ((strI a)) (tau 52) ((St [46])) (tau 53) (by first | exact szw1 (by omega) (by omega) | exact szw2 (by omega) (by omega) (by omega) (by omega))), .p [] (fun al tau => pRepr ((a + (a + b))) (tau 55) (log_ok (by omega) (by omega)) (len_ok (by omega) (by omega))), .p [] (fun al tau => pAdd ((strI a ++ St [46])) (tau 54) ((strI (a + (a + b)))) (tau 56) (by first | exact szw1 (by omega) (by omega) | exact szw2 (by omega) (by omega) (by omega) (by omega))), .p [] (fun al tau => pRepr ((a + (a + b))) (tau 62) (log_ok (by omega) (by omega)) (len_ok (by omega) (by omega))), .p [] (fun al tau => pAdd ((strI (a + (a + b)))) (tau 63) ((St [46])) (tau 64) (by first | exact szw1 (by omega) (by omega) | exact szw2 (by omega) (by omega) (by omega) (by omega))), .p [] (fun al tau => pRepr ((a + b)) (tau 47) (log_ok (by omega) (by omega)) (len_ok (by omega) (by omega))), .p [] (fun al tau => pAdd ((strI (a + (a + b)) ++ St [46])) (tau 65) ((strI (a + b))) (tau 66) (by first | exact szw1 (by omega) (by omega) | exact szw2 (by omega) (by omega) (by omega) (by omega))), .p [] (fun al tau => glcK X (tau 34) (W (a + b) b (by omega) (by omega) (by omega) (by omega))), .p [] (fun al tau => pRepr ((a + b)) (tau 79) (log_ok (by omega) (by omega)) (len_ok (by omega) (by omega))), .p [] (fun al tau => pAdd ((strI (a + b))) (tau 85) ((St [46])) (tau 86) (by first | exact szw1 (by omega) (by omega) | exact szw2 (by omega) (by omega) (by omega) (by omega))), .p [] (fun al tau => pRepr ((a + b + b)) (tau 88) (log_ok (by omega) (by omega)) (len_ok (by omega) (by omega))), .p [] (fun al tau => pAdd ((strI (a + b) ++ St [46])) (tau 87) ((strI (a + b + b))) (tau 89) (by first | exact szw1 (by omega) (by omega) | exact szw2 (by omega) (by omega) (by omega) (by omega))), .p [] (fun al tau => pRepr ((a + b + b)) (tau 95) (log_ok (by omega) (by omega)) (len_ok (by omega) (by omega))), .p [] (fun al tau => pAdd ((strI (a + b + b))) (tau 96) ((St [46])) (tau 97) (by first | exact szw1 (by omega) (by omega) | exact szw2 (by omega) (by omega) (by omega) (by omega))), .p [] (fun al tau => pRepr ((b)) (tau 80) (log_ok (by omega) (by omega)) (len_ok (by omega) (by omega))), .p [] (fun al tau => pAdd ((strI (a + b + b) ++ St [46])) (tau 98) ((strI b)) (tau 99) (by first | exact szw1 (by omega) (by omega) | exact szw2 (by omega) (by omega) (by omega) (by omega))), .p [] (fun al tau => glcK X (tau 57) (W a (a + (a + b)) (by omega) (by omega) (by omega) (by omega))), .p [] (fun al tau => pRepr ((a)) (tau 112) (log_ok (by omega) (by omega)) (len_ok (by omega) (by omega))), .p [] (fun al tau => pAdd ((strI a)) (tau 118) ((St [46])) (tau 119) (by first | exact szw1 (by omega) (by omega) | exact szw2 (by omega) (by omega) (by omega) (by omega))), .p [] (fun al tau => pRepr ((a + (a + (a + b)))) (tau 121) (log_ok (by omega) (by omega)) (len_ok (by omega) (by omega))), .p [] (fun al tau => pAdd ((strI a ++ St [46])) (tau 120) ((strI (a + (a + (a + b))))) (tau 122) (by first | exact szw1 (by omega) (by omega) | exact szw2 (by omega) (by omega) (by omega) (by omega))), .p [] (fun al tau => pRepr ((a + (a + (a + b)))) (tau 128) (log_ok (by omega) (by omega)) (len_ok (by omega) (by omega))), .p [] (fun al tau => pAdd ((strI (a + (a + (a + b))))) (tau 129) ((St [46])) (tau 130) (by first | exact szw1 (by omega) (by omega) | exact szw2 (by omega) (by omega) (by omega) (by omega))), .p [] (fun al tau => pRepr ((a + (a + b))) (tau 113) (log_ok (by omega) (by omega)) (len_ok (by omega) (by omega))), .p [] (fun al tau => pAdd ((strI (a + (a + (a + b))) ++ St [46])) (tau 131) ((strI (a + (a + b)))) (tau 132) (by first | exact szw1 (by omega) (by omega) | exact szw2 (by omega) (by omega) (by omega) (by omega))), .p [] (fun al tau => glcK X (tau 67) (W (a + (a + b)) (a + b) (by omega) (by omega) (by omega) (by omega))), .p [] (fun al tau => pRepr ((a + (a + b))) (tau 145) (log_ok (by omega) (by omega)) (len_ok (by omega) (by omega))), .p [] (fun al tau => pAdd ((strI (a + (a + b)))) (tau 151) ((St [46])) (tau 152) (by first | exact szw1 (by omega) (by omega) | exact szw2 (by omega) (by omega) (by omega) (by omega))), .p [] (fun al tau => pRepr ((a + (a + b) + (a + b))) (tau 154) (log_ok (by omega) (by omega)) (len_ok (by omega) (by omega))), .p [] (fun al tau => pAdd ((strI (a + (a + b)) ++ St [46])) (tau 153) ((strI (a + (a + b) + (a + b)))) (tau 155) (by first | exact szw1 (by omega) (by omega) | exact szw2 (by omega) (by omega) (by omega) (by omega))), .p [] (fun al tau => pRepr ((a + (a + b) + (a + b))) (tau 161) (log_ok (by omega) (by omega)) (len_ok (by omega) (by omega))), .p [] (fun al tau => pAdd ((strI (a + (a + b) + (a + b)))) (tau 162) ((St [46])) (tau 163) (by first | exact szw1 (by omega) (by omega) | exact szw2 (by omega) (by omega) (by omega) (by omega))), .p [] (fun al tau => pRepr ((a + b)) (tau 146) (log_ok (by omega) (by omega)) (len_ok (by omega) (by omega))), .p [] (fun al tau => pAdd ((strI (a + (a + b) + (a + b)) ++ St [46])) (tau 164) ((strI (a + b))) (tau 165) (by first | exact szw1 (by omega) (by omega) | exact szw2 (by omega) (by omega) (by omega) (by omega))), .p [] (fun al tau => glcK X (tau 90) (W (a + b) ((a + b) + b) (by omega) (by omega) (by omega) (by omega))), .p [] (fun al tau => pRepr ((a + b)) (tau 178) (log_ok (by omega) (by omega)) (len_ok (by omega) (by omega))), .p [] (fun al tau => pAdd ((strI (a + b))) (tau 184) ((St [46])) (tau 185) (by first | exact szw1 (by omega) (by omega) | exact szw2 (by omega) (by omega) (by omega) (by omega))), .p [] (fun al tau => pRepr ((a + b + (a + b + b))) (tau 187) (log_ok (by omega) (by omega)) (len_ok (by omega) (by omega))), .p [] (fun al tau => pAdd ((strI (a + b) ++ St [46])) (tau 186) ((strI (a + b + (a + b + b)))) (tau 188) (by first | exact szw1 (by omega) (by omega) | exact szw2 (by omega) (by omega) (by omega) (by omega))), .p [] (fun al tau => pRepr ((a + b + (a + b + b))) (tau 194) (log_ok (by omega) (by omega)) (len_ok (by omega) (by omega))), .p [] (fun al tau => pAdd ((strI (a + b + (a + b + b)))) (tau 195) ((St [46])) (tau 196) (by first | exact szw1 (by omega) (by omega) | exact szw2 (by omega) (by omega) (by omega) (by omega))), .p [] (fun al tau => pRepr ((a + b + b)) (tau 179) (log_ok (by omega) (by omega)) (len_ok (by omega) (by omega))), .p [] (fun al tau => pAdd ((strI (a + b + (a + b + b)) ++ St [46])) (tau 197) ((strI (a + b + b))) (tau 198) (by first | exact szw1 (by omega) (by omega) | exact szw2 (by omega) (by omega) (by omega) (by omega))), .p [] (fun al tau => glcK X (tau 100) (W ((a + b) + b) b (by omega) (by omega) (by omega) (by omega))), .p [] (fun al tau => pRepr ((a + b + b)) (tau 211) (log_ok (by omega) (by omega)) (len_ok (by omega) (by omega))), .p [] (fun al tau => pAdd ((strI (a + b + b))) (tau 217) ((St [46])) (tau 218) (by first | exact szw1 (by omega) (by omega) | exact szw2 (by omega) (by omega) (by omega) (by omega))), .p [] (fun al tau => pRepr ((a + b + b + b)) (tau 220) (log_ok (by omega) (by omega)) (len_ok (by omega) (by omega))), .p [] (fun al tau => pAdd ((strI (a + b + b) ++ St [46])) (tau 219) ((strI (a + b + b + b))) (tau 221) (by first | exact szw1 (by omega) (by omega) | exact szw2 (by omega) (by omega) (by omega) (by omega))), .p [] (fun al tau => pRepr ((a + b + b + b)) (tau 227) (log_ok (by omega) (by omega)) (len_ok (by omega) (by omega))), .p [] (fun al tau => pAdd ((strI (a + b + b + b))) (tau 228) ((St [46])) (tau 229) (by first | exact szw1 (by omega) (by omega) | exact szw2 (by omega) (by omega) (by omega) (by omega))), .p [] (fun al tau => pRepr ((b)) (tau 212) (log_ok (by omega) (by omega)) (len_ok (by omega) (by omega))), .p [] (fun al tau => pAdd ((strI (a + b + b + b) ++ St [46])) (tau 230) ((strI b)) (tau 231) (by first | exact szw1 (by omega) (by omega) | exact szw2 (by omega) (by omega) (by omega) (by omega))), .p [] (fun al tau => glcK X (tau 123) (W a (a + (a + (a + b))) (by omega) (by omega) (by omega) (by omega))), .p [] (fun al tau => pRepr ((a)) (tau 244) (log_ok (by omega) (by omega)) (len_ok (by omega) (by omega))), .p [] (fun al tau => pAdd ((strI a)) (tau 250) ((St [46])) (tau 251) (by first | exact szw1 (by omega) (by omega) | exact szw2 (by omega) (by omega) (by omega) (by omega))), .p [] (fun al tau => pRepr ((a + (a + (a + (a + b))))) (tau 253) (log_ok (by omega) (by omega)) (len_ok (by omega) (by omega))), .p [] (fun al tau => pAdd ((strI a ++ St [46])) (tau 252) ((strI (a + (a + (a + (a + b)))))) (tau 254) (by first | exact szw1 (by omega) (by omega) | exact szw2 (by omega) (by omega) (by omega) (by omega))), .p [] (fun al tau => pRepr ((a + (a + (a + (a + b))))) (tau 260) (log_ok (by omega) (by omega)) (len_ok (by omega) (by omega))), .p [] (fun al tau => pAdd ((strI (a + (a + (a + (a + b)))))) (tau 261) ((St [46])) (tau 262) (by first | exact szw1 (by omega) (by omega) | exact szw2 (by omega) (by omega) (by omega) (by omega))), .p [] (fun al tau => pRepr ((a + (a + (a + b)))) (tau 245) (log_ok (by omega) (by omega)) (len_ok (by omega) (by omega))), .p [] (fun al tau => pAdd ((strI (a + (a + (a + (a + b)))) ++ St [46])) (tau 263) ((strI (a + (a + (a + b))))) (tau 264) (by first | exact szw1 (by omega) (by omega) | exact szw2 (by omega) (by omega) (by omega) (by omega))), .p [] (fun al tau => glcK X (tau 133) (W (a + (a + (a + b))) (a + (a + b)) (by omega) (by omega) (by omega) (by omega))), .p [] (fun al tau => pRepr ((a + (a + (a + b)))) (tau 277) (log_ok (by omega) (by omega)) (len_ok (by omega) (by omega))), .p [] (fun al tau => pAdd ((strI (a + (a + (a + b))))) (tau 283) ((St [46])) (tau 284) (by first | exact szw1 (by omega) (by omega) | exact szw2 (by omega) (by omega) (by omega) (by omega))), .p [] (fun al tau => pRepr ((a + (a + (a + b)) + (a + (a + b)))) (tau 286) (log_ok (by omega) (by omega)) (len_ok (by omega) (by omega))), .p [] (fun al tau => pAdd ((strI (a + (a + (a + b))) ++ St [46])) (tau 285) ((strI (a + (a + (a + b)) + (a + (a + b))))) (tau 287) (by first | exact szw1 (by omega) (by omega) | exact szw2 (by omega) (by omega) (by omega) (by omega))), .p [] (fun al tau => pRepr ((a + (a + (a + b)) + (a + (a + b)))) (tau 293) (log_ok (by omega) (by omega)) (len_ok (by omega) (by omega))), .p [] (fun al tau => pAdd ((strI (a + (a + (a + b)) + (a + (a + b))))) (tau 294) ((St [46])) (tau 295) (by first | exact szw1 (by omega) (by omega) | exact szw2 (by omega) (by omega) (by omega) (by omega))), .p [] (fun al tau => pRepr ((a + (a + b))) (tau 278) (log_ok (by omega) (by omega)) (len_ok (by omega) (by omega))), .p [] (fun al tau => pAdd ((strI (a + (a + (a + b)) + (a + (a + b))) ++ St [46])) (tau 296) ((strI (a + (a + b)))) (tau 297) (by first | exact szw1 (by omega) (by omega) | exact szw2 (by omega) (by omega) (by omega) (by omega))), .p [] (fun al tau => glcK X (tau 156) (W (a + (a + b)) ((a + (a + b)) + (a + b)) (by omega) (by omega) (by omega) (by omega))), .p [] (fun al tau => pRepr ((a + (a + b))) (tau 310) (log_ok (by omega) (by omega)) (len_ok (by omega) (by omega))), .p [] (fun al tau => pAdd ((strI (a + (a + b)))) (tau 316) ((St [46])) (tau 317) (by first | exact szw1 (by omega) (by omega) | exact szw2 (by omega) (by omega) (by omega) (by omega))), .p [] (fun al tau => pRepr ((a + (a + b) + (a + (a + b) + (a + b)))) (tau 319) (log_ok (by omega) (by omega)) (len_ok (by omega) (by omega))), .p [] (fun al tau => pAdd ((strI (a + (a + b)) ++ St [46])) (tau 318) ((strI (a + (a + b) + (a + (a + b) + (a + b))))) (tau 320) (by first | exact szw1 (by omega) (by omega) | exact szw2 (by omega) (by omega) (by omega) (by omega))), .p [] (fun al tau => pRepr ((a + (a + b) + (a + (a + b) + (a + b)))) (tau 326) (log_ok (by omega) (by omega)) (len_ok (by omega) (by omega))), .p [] (fun al tau => pAdd ((strI (a + (a + b) + (a + (a + b) + (a + b))))) (tau 327) ((St [46])) (tau 328) (by first | exact szw1 (by omega) (by omega) | exact szw2 (by omega) (by omega) (by omega) (by omega))), .p [] (fun al tau => pRepr ((a + (a + b) + (a + b))) (tau 311) (log_ok (by omega) (by omega)) (len_ok (by omega) (by omega))), .p [] (fun al tau => pAdd ((strI (a + (a + b) + (a + (a + b) + (a + b))) ++ St [46])) (tau 329) ((strI (a + (a + b) + (a + b)))) (tau 330) (by first | exact szw1 (by omega) (by omega) | exact szw2 (by omega) (by omega) (by omega) (by omega))), .p [] (fun al tau => glcK X (tau 166) (W ((a + (a + b)) + (a + b)) (a + b) (by omega) (by omega) (by omega) (by omega))), .p [] (fun al tau => pRepr ((a + (a + b) + (a + b))) (tau 343) (log_ok (by omega) (by omega)) (len_ok (by omega) (by omega))), .p [] (fun al tau => pAdd ((strI (a + (a + b) + (a + b)))) (tau 349) ((St [46])) (tau 350) (by first | exact szw1 (by omega) (by omega) | exact szw2 (by omega) (by omega) (by omega) (by omega))), .p [] (fun al tau => pRepr ((a + (a + b) + (a + b) + (a + b))) (tau 352) (log_ok (by omega) (by omega)) (len_ok (by omega) (by omega))), .p [] (fun al tau => pAdd ((strI (a + (a + b) + (a + b)) ++ St [46])) (tau 351) ((strI (a + (a + b) + (a + b) + (a + b)))) (tau 353) (by first | exact szw1 (by omega) (by omega) | exact szw2 (by omega) (by omega) (by omega) (by omega))), .p [] (fun al tau => pRepr ((a + (a + b) + (a + b) + (a + b))) (tau 359) (log_ok (by omega) (by omega)) (len_ok (by omega) (by omega))), .p [] (fun al tau => pAdd ((strI (a + (a + b) + (a + b) + (a + b)))) (tau 360) ((St [46])) (tau 361) (by first | exact szw1 (by omega) (by omega) | exact szw2 (by omega) (by omega) (by omega) (by omega))), .p [] (fun al tau => pRepr ((a + b)) (tau 344) (log_ok (by omega) (by omega)) (len_ok (by omega) (by omega))), .p [] (fun al tau => pAdd ((strI (a + (a + b) + (a + b) + (a + b)) ++ St [46])) (tau 362) ((strI (a + b))) (tau 363) (by first | exact szw1 (by omega) (by omega) | exact szw2 (by omega) (by omega) (by omega) (by omega))), .p [] (fun al tau => glcK X (tau 189) (W (a + b) ((a + b) + ((a + b) + b)) (by omega) (by omega) (by omega) (by omega))), .p [] (fun al tau => pRepr ((a + b)) (tau 376) (log_ok (by omega) (by omega)) (len_ok (by omega) (by omega))), .p [] (fun al tau => pAdd ((strI (a + b))) (tau 382) ((St [46])) (tau 383) (by first | exact szw1 (by omega) (by omega) | exact szw2 (by omega) (by omega) (by omega) (by omega))), .p [] (fun al tau => pRepr ((a + b + (a + b + (a + b + b)))) (tau 385) (log_ok (by omega) (by omega)) (len_ok (by omega) (by omega))), .p [] (fun al tau => pAdd ((strI (a + b) ++ St [46])) (tau 384) ((strI (a + b + (a + b + (a + b + b))))) (tau 386) (by first | exact szw1 (by omega) (by omega) | exact szw2 (by omega) (by omega) (by omega) (by omega))), .p [] (fun al tau => pRepr ((a + b + (a + b + (a + b + b)))) (tau 392) (log_ok (by omega) (by omega)) (len_ok (by omega) (by omega))), .p [] (fun al tau => pAdd ((strI (a + b + (a + b + (a + b + b))))) (tau 393) ((St [46])) (tau 394) (by first | exact szw1 (by omega) (by omega) | exact szw2 (by omega) (by omega) (by omega) (by omega))), .p [] (fun al tau => pRepr ((a + b + (a + b + b))) (tau 377) (log_ok (by omega) (by omega)) (len_ok (by omega) (by omega))), .p [] (fun al tau => pAdd ((strI (a + b + (a + b + (a + b + b))) ++ St [46])) (tau 395) ((strI (a + b + (a + b + b)))) (tau 396) (by first | exact szw1 (by omega) (by omega) | exact szw2 (by omega) (by omega) (by omega) (by omega))), .p [] (fun al tau => glcK X (tau 199) (W ((a + b) + ((a + b) + b)) ((a + b) + b) (by omega) (by omega) (by omega) (by omega))), .p [] (fun al tau => pRepr ((a + b + (a + b + b))) (tau 409) (log_ok (by omega) (by omega)) (len_ok (by omega) (by omega))), .p [] (fun al tau => pAdd ((strI (a + b + (a + b + b)))) (tau 415) ((St [46])) (tau 416) (by first | exact szw1 (by omega) (by omega) | exact szw2 (by omega) (by omega) (by omega) (by omega))), .p [] (fun al tau => pRepr ((a + b + (a + b + b) + (a + b + b))) (tau 418) (log_ok (by omega) (by omega)) (len_ok (by omega) (by omega))), .p [] (fun al tau => pAdd ((strI (a + b + (a + b + b)) ++ St [46])) (tau 417) ((strI (a + b + (a + b + b) + (a + b + b)))) (tau 419) (by first | exact szw1 (by omega) (by omega) | exact szw2 (by omega) (by omega) (by omega) (by omega))), .p [] (fun al tau => pRepr ((a + b + (a + b + b) + (a + b + b))) (tau 425) (log_ok (by omega) (by omega)) (len_ok (by omega) (by omega))), .p [] (fun al tau => pAdd ((strI (a + b + (a + b + b) + (a + b + b)))) (tau 426) ((St [46])) (tau 427) (by first | exact szw1 (by omega) (by omega) | exact szw2 (by omega) (by omega) (by omega) (by omega))), .p [] (fun al tau => pRepr ((a + b + b)) (tau 410) (log_ok (by omega) (by omega)) (len_ok (by omega) (by omega))), .p [] (fun al tau => pAdd ((strI (a + b + (a + b + b) + (a + b + b)) ++ St [46])) (tau 428) ((strI (a + b + b))) (tau 429) (by first | exact szw1 (by omega) (by omega) | exact szw2 (by omega) (by omega) (by omega) (by omega))), .p [] (fun al tau => glcK X (tau 222) (W ((a + b) + b) (((a + b) + b) + b) (by omega) (by omega) (by omega) (by omega))), .p [] (fun al tau => pRepr ((a + b + b)) (tau 442) (log_ok (by omega) (by omega)) (len_ok (by omega) (by omega))), .p [] (fun al tau => pAdd ((strI (a + b + b))) (tau 448) ((St [46])) (tau 449) (by first | exact szw1 (by omega) (by omega) | exact szw2 (by omega) (by omega) (by omega) (by omega))), .p [] (fun al tau => pRepr ((a + b + b + (a + b + b + b))) (tau 451) (log_ok (by omega) (by omega)) (len_ok (by omega) (by omega))), .p [] (fun al tau => pAdd ((strI (a + b + b) ++ St [46])) (tau 450) ((strI (a + b + b + (a + b + b + b)))) (tau 452) (by first | exact szw1 (by omega) (by omega) | exact szw2 (by omega) (by omega) (by omega) (by omega))), .p [] (fun al tau => pRepr ((a + b + b + (a + b + b + b))) (tau 458) (log_ok (by omega) (by omega)) (len_ok (by omega) (by omega))), .p [] (fun al tau => pAdd ((strI (a + b + b + (a + b + b + b)))) (tau 459) ((St [46])) (tau 460) (by first | exact szw1 (by omega) (by omega) | exact szw2 (by omega) (by omega) (by omega) (by omega))), .p [] (fun al tau => pRepr ((a + b + b + b)) (tau 443) (log_ok (by omega) (by omega)) (len_ok (by omega) (by omega))), .p [] (fun al tau => pAdd ((strI (a + b + b + (a + b + b + b)) ++ St [46])) (tau 461) ((strI (a + b + b + b))) (tau 462) (by first | exact szw1 (by omega) (by omega) | exact szw2 (by omega) (by omega) (by omega) (by omega))), .p [] (fun al tau => glcK X (tau 232) (W (((a + b) + b) + b) b (by omega) (by omega) (by omega) (by omega))), .p [] (fun al tau => pRepr ((a + b + b + b)) (tau 475) (log_ok (by omega) (by omega)) (len_ok (by omega) (by omega))), .p [] (fun al tau => pAdd ((strI (a + b + b + b))) (tau 481) ((St [46])) (tau 482) (by first | exact szw1 (by omega) (by omega) | exact szw2 (by omega) (by omega) (by omega) (by omega))), .p [] (fun al tau => pRepr ((a + b + b + b + b)) (tau 484) (log_ok (by omega) (by omega)) (len_ok (by omega) (by omega))), .p [] (fun al tau => pAdd ((strI (a + b + b + b) ++ St [46])) (tau 483) ((strI (a + b + b + b + b))) (tau 485) (by first | exact szw1 (by omega) (by omega) | exact szw2 (by omega) (by omega) (by omega) (by omega))), .p [] (fun al tau => pRepr ((a + b + b + b + b)) (tau 491) (log_ok (by omega) (by omega)) (len_ok (by omega) (by omega))), .p [] (fun al tau => pAdd ((strI (a + b + b + b + b))) (tau 492) ((St [46])) (tau 493) (by first | exact szw1 (by omega) (by omega) | exact szw2 (by omega) (by omega) (by omega) (by omega))), .p [] (fun al tau => pRepr ((b)) (tau 476) (log_ok (by omega) (by omega)) (len_ok (by omega) (by omega))), .p [] (fun al tau => pAdd ((strI (a + b + b + b + b) ++ St [46])) (tau 494) ((strI b)) (tau 495) (by first | exact szw1 (by omega) (by omega) | exact szw2 (by omega) (by omega) (by omega) (by omega))), .p [] (fun al tau => glcK X (tau 255) (W a (a + (a + (a + (a + b)))) (by omega) (by omega) (by omega) (by omega))), .p [] (fun al tau => glcK X (tau 265) (W (a + (a + (a + (a + b)))) (a + (a + (a + b))) (by omega) (by omega) (by omega) (by omega))), .p [] (fun al tau => glcK X (tau 288) (W (a + (a + (a + b))) ((a + (a + (a + b))) + (a + (a + b))) (by omega) (by omega) (by omega) (by omega))), .p [] (fun al tau => glcK X (tau 298) (W ((a + (a + (a + b))) + (a + (a + b))) (a + (a + b)) (by omega) (by omega) (by omega) (by omega))), .p [] (fun al tau => glcK X (tau 321) (W (a + (a + b)) ((a + (a + b)) + ((a + (a + b)) + (a + b))) (by omega) (by omega) (by omega) (by omega))), .p [] (fun al tau => glcK X (tau 331) (W ((a + (a + b)) + ((a + (a + b)) + (a + b))) ((a + (a + b)) + (a + b)) (by omega) (by omega) (by omega) (by omega))), .p [] (fun al tau => glcK X (tau 354) (W ((a + (a + b)) + (a + b)) (((a + (a + b)) + (a + b)) + (a + b)) (by omega) (by omega) (by omega) (by omega))), .p [] (fun al tau => glcK X (tau 364) (W (((a + (a + b)) + (a + b)) + (a + b)) (a + b) (by omega) (by omega) (by omega) (by omega))), .p [] (fun al tau => glcK X (tau 387) (W (a + b) ((a + b) + ((a + b) + ((a + b) + b))) (by omega) (by omega) (by omega) (by omega))), .p [] (fun al tau => glcK X (tau 397) (W ((a + b) + ((a + b) + ((a + b) + b))) ((a + b) + ((a + b) + b)) (by omega) (by omega) (by omega) (by omega))), .p [] (fun al tau => glcK X (tau 420) (W ((a + b) + ((a + b) + b)) (((a + b) + ((a + b) + b)) + ((a + b) + b)) (by omega) (by omega) (by omega) (by omega))), .p [] (fun al tau => glcK X (tau 430) (W (((a + b) + ((a + b) + b)) + ((a + b) + b)) ((a + b) + b) (by omega) (by omega) (by omega) (by omega))), .p [] (fun al tau => glcK X (tau 453) (W ((a + b) + b) (((a + b) + b) + (((a + b) + b) + b)) (by omega) (by omega) (by omega) (by omega))), .p [] (fun al tau => glcK X (tau 463) (W (((a + b) + b) + (((a + b) + b) + b)) (((a + b) + b) + b) (by omega) (by omega) (by omega) (by omega))), .p [] (fun al tau => glcK X (tau 486) (W (((a + b) + b) + b) ((((a + b) + b) + b) + b) (by omega) (by omega) (by omega) (by omega))), .p [] (fun al tau => glcK X (tau 496) (W ((((a + b) + b) + b) + b) b (by omega) (by omega) (by omega) (by omega)))]) [1, 5, 12, 19, 26, 33, 40, 47, 54, 61, 68, 75, 82, 89, 96, 103, 110, 115, 120, 125, 130, 135, 140, 145, 150, 155, 160, 165, 170, 175, 180, 185] [13, 14, 46, 47, 79, 80, 112, 113, 145, 146, 178, 179, 211, 212, 244, 245, 277, 278, 310, 311, 343, 344, 376, 377, 409, 410, 442, 443, 475, 476, 508, 509, 523, 524, 538, 539, 553, 554, 568, 569, 583, 584, 598, 599, 613, 614, 628, 629, 643, 644, 658, 659, 673, 674, 688, 689, 703, 704, 718, 719, 733, 734]]
    · constructor
      · open Mine PySem.Calls PySem.Spec PySem.Challenge.cw_pk0039_01_holds in grind only [show E_due P0 w (ktop_219 w.params) from fun a b ta tb => ckG (unq [197,7,81,82,201,1,80,196,236,5,40,41,9,6] [0x11f011f011f01bf011f010f010f010f010f002f010f010f010f010f010f010fee00ff00ff600df00df00af00df00df00df00df012f00df00af002f00af00af008fdd00cf00cf00bf00cf00cf00cf00cf00cf00bf002f00bf00bf008f008fe226226ee,0x13f011f011f011f011f011f00ef00ef00ef00ef00ffd00ff00ff00ff6011f011f011f011f011f011f011f011f011f00ef00ef00ef00ef00ffd00ff00ff00ff6011f011f011f011f011f011f011f011f011f00ef00ef00ef00ef00ffd00ff00ff00ff6011f011f011f011f011f011f,0x1af01af01af02df01af019f019f019f019f002f019f019f019f019f019f019fee018f018f6016f016f00ef016f016f016f016f024f016f00ef002f00ef00ef008fdd00cf00cf00bf00cf00cf00cf00cf008f008f00ff00ff00ff00ff00ff00ff015f00df00df00af00df00df00df00df,0x1cf01af01af01af01af01af017f017f017f017f018fd018f018f018f601af01af01af01af01af01af01af01af01af017f017f017f017f018fd018f018f018f601af01af01af01af01af01af01af01af01af017f017f017f017f018fd018f018f018f601af01af01af01af01af01af,0x17f018fd018f018f018f601ef01ef01ef01ef01ef01ef01ef01ef01ef017f017f017f017f018fd018f018f018f601ef01ef01ef01ef01ef01ef01ef01ef01ef035f01ef01df01df01df01df002f01df01df01df01df01df01dfee018f018f6016f016f00ef016f016f016f016f,0x22f022f022f022f022f022f022f03df022f021f021f021f021f002f021f021f021f021f021f021fee018f018f6016f016f00ef016f016f016f016f020f01ef01ef01ef01ef01ef017f017f017f017f018fd018f018f018f601ef01ef01ef01ef01ef01ef01ef01ef01ef017f017f017f,0x16f016f016f016f024f022f022f022f022f022f017f017f017f017f018fd018f018f018f6022f022f022f022f022f022f022f022f022f017f017f017f017f018fd018f018f018f6022f022f022f022f022f022f022f022f022f017f017f017f017f018fd018f018f018f6022f022f,0x2bf02bf02bf02bf02bf02bf02bf04ff02bf02af02af02af02af002f02af02af02af02af02af02afeecc6027f027f017f027f027f027f027f046f027f017f002f017f017f008fdd00cf00cf00bf00cf00cf00cf00cf008f008f018f018f018f018f018f018f026f016f016f00ef,0x27f027f027f027f02df02bf02bf02bf02bf02bfbbbbcdccc602bf02bf02bf02bf02bf02bf02bf02bf02bfbbbbcdccc602bf02bf02bf02bf02bf02bf02bf02bf02bfbbbbcdccc602bf02bf,0x2ffbbbbcdccc602ff02ff02ff02ff02ff02ff02ff02ff02ffbbbbcdccc602ff02ff02ff02ff02ff02ff02ff02ff02ff057f02ff02ef02ef02ef02ef002f02ef02ef02ef02ef02ef02efeecc6027f027f017f,0xc6033f033f033f033f033f033f033f033f033f05ff033f032f032f032f032f002f032f032f032f032f032f032feecc6027f027f017f027f027f027f027f031f02ff02ff02ff02ff02ffbbbbcdccc602ff02ff02ff02ff02ff02ff02ff02ff,0x6027f027f017f027f027f027f027f035f033f033f033f033f033fbbbbcdccc6033f033f033f033f033f033f033f033f033fbbbbcdccc6033f033f033f033f033f033f033f033f033fbbbbcdcc,0x37f037f037f037f037fbbbbcdccc6037f037f037f037f037f037f037f037f037fbbbbcdccc6037f037f037f037f037f037f037f037f037f067f037f036f036f036f036f002f036f036f036f036f036f036feecc,0xcdccc603bf03bf03bf03bf03bf03bf03bf03bf03bf06ff03bf03af03af03af03af002f03af03af03af03af03af03afeecc6027f027f017f027f027f027f027f039f037f037f037f037f037fbbbbcdccc6037f037f037f037f,0xeecc6027f027f017f027f027f027f027f03df03bf03bf03bf03bf03bfbbbbcdccc603bf03bf03bf03bf03bf03bf03bf03bf03bfbbbbcdccc603bf03bf03bf03bf03bf03bf03bf03bf03bfbbbb,0x3ff03ff03ff03ff03ff03ff03ff03ff03ffbbbbcdccc603ff03ff03ff03ff03ff03ff03ff03ff03ffbbbbcdccc603ff03ff03ff03ff03ff03ff03ff03ff03ff077f03ff03ef03ef03ef03ef002f03ef03ef03ef03ef03ef03ef,0xbbbbcdccc6043f043f043f043f043f043f043f043f043f07ff043f042f042f042f042f002f042f042f042f042f042f042feecc6027f027f017f027f027f027f027f041f03ff03ff03ff03ff03ffbbbbcdccc6,0x46f046f046f046feecc6027f027f017f027f027f027f027f045f043f043f043f043f043fbbbbcdccc6043f043f043f043f043f043f043f043f043fbbbbcdccc6043f043f043f043f043f043f043f043f043f,0xccc6047f047f047f047f047f047f047f047f047fbbbbcdccc6047f047f047f047f047f047f047f047f047fbbbbcdccc6047f047f047f047f047f047f047f047f047f087f047f046f046f046f046f002f046f046f,0x4bf04bf04bf04bfbbbbcdccc604bf04bf04bf04bf04bf04bf04bf04bf04bf08ff04bf04af04af04af04af002f04af04af04af04af04af04afeecc6027f027f017f027f027f027f027f049f047f047f047f047f047fbbbbcd,0xcf00cf00cf00cf008f008fcccccc04ff027f027f017f027f027f027f027f04df04bf04bf04bf04bf04bfbbbbcdccc604bf04bf04bf04bf04bf04bf04bf04bf04bfbbbbcdccc604bf04bf04bf04bf04bf,0x54f054f054f054f33334d4446054f054f054f054f054f054f054f054f054f0a1f054f053f053f053f053f002f053f053f053f053f053f053fee44677b7777098f7b002fbb008fdd00cf00cf00bf,0x57f002f057f057f057f057f057f057fee44677b7777056f054f054f054f054f054f33334d4446054f054f054f054f054f054f054f054f054f33334d4446054f054f054f054f054f,0x334d4446058f058f058f058f058f058f058f058f058f33334d4446058f058f058f058f058f058f058f058f058f33334d4446058f058f058f058f058f058f058f058f058f0a9f058f057f057f057f,0x5cf05cf05cf05cf05cf05cf05cf05cf33334d444605cf05cf05cf05cf05cf05cf05cf05cf05cf0b1f05cf05bf05bf05bf05bf002f05bf05bf05bf05bf05bf05bfee44677b777705af058f058f058f058f058f33,0x60f05ff05ff05ff05ff002f05ff05ff05ff05ff05ff05ffee44677b777705ef05cf05cf05cf05cf05cf33334d444605cf05cf05cf05cf05cf05cf05cf05cf05cf33334d444605cf,0x60f060f33334d4446060f060f060f060f060f060f060f060f060f33334d4446060f060f060f060f060f060f060f060f060f33334d4446060f060f060f060f060f060f060f060f060f0b9f,0x446064f064f064f064f064f064f064f064f064f33334d4446064f064f064f064f064f064f064f064f064f0c1f064f063f063f063f063f002f063f063f063f063f063f063fee44677b7777062f060f060f060f,0x68f068f068f5068f067f067f067f067f002f067f067f067f067f067f067fee44677b7777066f064f064f064f064f064f33334d4446064f064f064f064f064f064f064f064f064f33334d4,0x6af068f068f068f068f068f33334d4446068f068f068f068f068f068f068f068f068f33334d4446068f068f068f068f068f068f068f068f068f33334d4446068f068f068f068f068f068f,0x34d444606cf06cf06cf06cf06cf06cf06cf06cf06cf33334d444606cf06cf06cf06cf06cf06cf06cf06cf06cf0d1f06cf06bf06bf06bf06bf002f06bf06bf06bf06bf06bf06bfee44677b7777,0x70f070f070f070f070f070f070f0d9f070f06ff06ff06ff06ff002f06ff06ff06ff06ff06ff06ffee44677b777706ef06cf06cf06cf06cf06cf33334d444606cf06cf06cf06cf06cf06cf06cf06cf06cf333,0x7777072f070f070f070f070f070f33334d4446070f070f070f070f070f070f070f070f070f33334d4446070f070f070f070f070f070f070f070f070f33334d4446070f070f,0x74f33334d4446074f074f074f074f074f074f074f074f074f33334d4446074f074f074f074f074f074f074f074f074f0e1f074f073f073f073f073f002f073f073f073f073f073f073fee44677b,0x46078f078f078f078f078f078f078f078f078f0e9f078f077f077f077f077f002f077f077f077f077f077f077fee44677b7777076f074f074f074f074f074f33334d4446074f074f074f074f074f074f074f074f,0x677b777707af078f078f078f078f078f33334d4446078f078f078f078f078f078f078f078f078f33334d4446078f078f078f078f078f078f078f078f078f33334d44,0x7cf07cf07cf07cf07cf33334d444607cf07cf07cf07cf07cf07cf07cf07cf07cf33334d444607cf07cf07cf07cf07cf07cf07cf07cf07cf0f1f07cf07bf07bf07bf07bf002f07bf07bf07bf07bf07bf07bfee44,0x4d4446080f080f080f080f080f080f080f080f080f0f9f080f07ff07ff07ff07ff002f07ff07ff07ff07ff07ff07ffee44677b777707ef07cf07cf07cf07cf07cf33334d444607cf07cf07cf07cf,0xee44677b7777082f080f080f080f080f080f33334d4446080f080f080f080f080f080f080f080f080f33334d4446080f080f080f080f080f080f080f080f080f3333,0x84f084f084f084f084f084f084f084f084f33334d4446084f084f084f084f084f084f084f084f084f33334d4446084f084f084f084f084f084f084f084f084f101f084f083f083f083f083f002f083f083f083f083f083f083f,0x33334d4446088f088f088f088f088f088f088f088f088f109f088f087f087f087f087f002f087f087f087f087f087f087fee44677b7777086f084f084f084f084f084f33334d4446,0x8bf08bf08bf08bfee44677b777708af088f088f088f088f088f33334d4446088f088f088f088f088f088f088f088f088f33334d4446088f088f088f088f088f088f088f088f088f,0x444608cf08cf08cf08cf08cf08cf08cf08cf08cf33334d444608cf08cf08cf08cf08cf08cf08cf08cf08cf33334d444608cf08cf08cf08cf08cf08cf08cf08cf08cf111f08cf08bf08bf08bf08bf002f08bf08bf,0x90f090f090f090f33334d4446090f090f090f090f090f090f090f090f090f119f090f08ff08ff08ff08ff002f08ff08ff08ff08ff08ff08ffee44677b777708ef08cf08cf08cf08cf08cf33334d,0x93f002f093f093f093f093f093f093fee44677b7777092f090f090f090f090f090f33334d4446090f090f090f090f090f090f090f090f090f33334d4446090f090f090f090f090f,0x334d4446094f094f094f094f094f094f094f094f094f33334d4446094f094f094f094f094f094f094f094f094f33334d4446094f094f094f094f094f094f094f094f094f121f094f093f093f093f,0x98f098f098f098f098f098f098f098f33334d4446098f098f098f098f098f098f098f098f098f129f098f097f097f097f097f002f097f097f097f097f097f097fee44677b7777096f094f094f094f094f094f33,0x9cf09bf09bf09bf09bf002f09bf09bf09bf09bf09bf09bfee44677b777709af098f098f098f098f098f33334d4446098f098f098f098f098f098f098f098f098f33334d4446098f,0x9cf09cf33334d444609cf09cf09cf09cf09cf09cf09cf09cf09cf33334d444609cf09cf09cf09cf09cf09cf09cf09cf09cf33334d444609cf09cf09cf09cf09cf09cf09cf09cf09cf131f,0x4460a0f0a0f0a0f0a0f0a0f0a0f0a0f0a0f0a0f33334d44460a0f0a0f0a0f0a0f0a0f0a0f0a0f0a0f0a0f139f0a0f09ff09ff09ff09ff002f09ff09ff09ff09ff09ff09ffee44677b777709ef09cf09cf09cf,0xa4f0a4f0a4f141f0a4f0a3f0a3f0a3f0a3f002f0a3f0a3f0a3f0a3f0a3f0a3fee44677b77770a2f0a0f0a0f0a0f0a0f0a0f33334d44460a0f0a0f0a0f0a0f0a0f0a0f0a0f0a0f0a0f33334d4,0xa6f0a4f0a4f0a4f0a4f0a4f33334d44460a4f0a4f0a4f0a4f0a4f0a4f0a4f0a4f0a4f33334d44460a4f0a4f0a4f0a4f0a4f0a4f0a4f0a4f0a4f33334d44460a4f0a4f0a4f0a4f0a4f0a4f,0x34d44460a8f0a8f0a8f0a8f0a8f0a8f0a8f0a8f0a8f33334d44460a8f0a8f0a8f0a8f0a8f0a8f0a8f0a8f0a8f149f0a8f0a7f0a7f0a7f0a7f002f0a7f0a7f0a7f0a7f0a7f0a7fee44677b7777,0xacf0acf0acf0acf0acf0acf0acf151f0acf0abf0abf0abf0abf002f0abf0abf0abf0abf0abf0abfee44677b77770aaf0a8f0a8f0a8f0a8f0a8f33334d44460a8f0a8f0a8f0a8f0a8f0a8f0a8f0a8f0a8f333,0x77770aef0acf0acf0acf0acf0acf33334d44460acf0acf0acf0acf0acf0acf0acf0acf0acf33334d44460acf0acf0acf0acf0acf0acf0acf0acf0acf33334d44460acf0acf,0xb0f33334d44460b0f0b0f0b0f0b0f0b0f0b0f0b0f0b0f0b0f33334d44460b0f0b0f0b0f0b0f0b0f0b0f0b0f0b0f0b0f159f0b0f0aff0aff0aff0aff002f0aff0aff0aff0aff0aff0affee44677b,0x460b4f0b4f0b4f0b4f0b4f0b4f0b4f0b4f0b4f161f0b4f0b3f0b3f0b3f0b3f002f0b3f0b3f0b3f0b3f0b3f0b3fee44677b77770b2f0b0f0b0f0b0f0b0f0b0f33334d44460b0f0b0f0b0f0b0f0b0f0b0f0b0f0b0f,0x677b77770b6f0b4f0b4f0b4f0b4f0b4f33334d44460b4f0b4f0b4f0b4f0b4f0b4f0b4f0b4f0b4f33334d44460b4f0b4f0b4f0b4f0b4f0b4f0b4f0b4f0b4f33334d44,0xb8f0b8f0b8f0b8f0b8f33334d44460b8f0b8f0b8f0b8f0b8f0b8f0b8f0b8f0b8f33334d44460b8f0b8f0b8f0b8f0b8f0b8f0b8f0b8f0b8f169f0b8f0b7f0b7f0b7f0b7f002f0b7f0b7f0b7f0b7f0b7f0b7fee44,0x4d44460bcf0bcf0bcf0bcf0bcf0bcf0bcf0bcf0bcf171f0bcf0bbf0bbf0bbf0bbf002f0bbf0bbf0bbf0bbf0bbf0bbfee44677b77770baf0b8f0b8f0b8f0b8f0b8f33334d44460b8f0b8f0b8f0b8f,0x44440c0f77b77770bef0bcf0bcf0bcf0bcf0bcf33334d44460bcf0bcf0bcf0bcf0bcf0bcf0bcf0bcf0bcf33334d44460bcf0bcf0bcf0bcf0bcf0bcf0bcf0bcf0bcf3333,0x8888888881111a003f0c6f3333008f0c6f0c6f6888888888181f80c3f0c3f0c3f0c3f002f0c3f0c3f0c3f0c3f0c3f0c3fee0c2f00cf00cf00bf00cf00cf00cf00cf008f008f44,0x1a003f0c6f3333008f0c6f0c6f68888888881111a003f0c6f3333008f0c6f0c6f68888888881111a003f0c6f3333008f0c6f0c6f6,0x8888888881111a003f0c6f3333008f0c6f0c6f68888888881111a003f0c6f3333008f0c6f0c6f6888888888111,0x1a003f0c6f3333008f0c6f0c6f68888888881111a003f0c6f3333008f0c6f0c6f68888888881111a003f0c6f3333008f0c6f0c6f6,0x8888888881111a003f0c6f3333008f0c6f0c6f68888888881111a003f0c6f3333008f0c6f0c6f6888888888111,0x1a003f0c6f3333008f0c6f0c6f68888888881111a003f0c6f3333008f0c6f0c6f68888888881111a003f0c6f3333008f0c6f0c6f6,0x8888888881111a003f0c6f3333008f0c6f0c6f68888888881111a003f0c6f3333008f0c6f0c6f6888888888111,0xcdf0ccf0ccf0ccf0ccf002f0ccf0ccf0ccf0ccf0ccf0ccf2ee2260cbf0cbf0caf0cbf0cbf0cbf0cbf0cbf0caf002f0caf0caf2260c6f0c6f0c6f2260c8f888881111a003f0c6f3333008f0c6f0c6f6,0xcdf5555a11111222a111112222a11111222a111112222555522260cdf0cdf0cdf0cdf0cdf0cdf0cdf0cdf0cdf,0x222a111112222555522260d2f0d2f0d2f0d2f0d2f0d2f0d2f0d2f0d2f0d2f0d1f0d1f0d1f0d1f002f0d1f0d1f0d1f0d1f0d1f0d1f2ee2260cbf0cbf0caf0cbf0cbf0cbf0cbf0d0f0cdf0cdf0cdf0cdf,0x1222a111112222555522260d2f0d2f0d2f0d2f0d2f0d2f0d2f0d2f0d2f5555a11111222a111112222a11111,0xd8f0d8f0d7f0d7f0d7f0d7f002f0d7f0d7f0d7f0d7f0d7f0d7f2ee2260cbf0cbf0caf0cbf0cbf0cbf0cbf0d6f0d2f0d2f0d2f0d2f0d2f5555a11111222a111112222a1111,0xd8f0d8f5555a11111222a111112222a11111222a111112222555522260d8f0d8f0d8f0d8f0d8f0d8f0d8f0d8f,0xd8f0d8f0d8f5555a11111222a111112222a11111222a111112222555522260d8f0d8f0d8f0d8f0d8f0d8f0d8f,0xd8f0d8f0d8f0d8f5555a11111222a111112222a11111222a111112222555522260d8f0d8f0d8f0d8f0d8f0d8f,0xd8f0d8f0d8f0d8f0d8f5555a11111222a111112222a11111222a111112222555522260d8f0d8f0d8f0d8f0d8f,0x1111222a111112222555522260e0f0e0f0e0f0e0f0e0f0e0f0e0f0e0f0e0f0e0f0dff0dff0dff0dff002f0dff0dff0dff0dff0dff0dff2ee2260cbf0cbf0caf0cbf0cbf0cbf0cbf0def,0x11111222a111112222555522260e0f0e0f0e0f0e0f0e0f0e0f0e0f0e0f0e0f5555a11111222a111112222a1,0xa11111222a111112222555522260e0f0e0f0e0f0e0f0e0f0e0f0e0f0e0f0e0f5555a11111222a111112222a,0x2a11111222a111112222555522260e0f0e0f0e0f0e0f0e0f0e0f0e0f0e0f0e0f5555a11111222a111112222,0x22a11111222a111112222555522260e0f0e0f0e0f0e0f0e0f0e0f0e0f0e0f0e0f5555a11111222a11111222,0x222a11111222a111112222555522260e0f0e0f0e0f0e0f0e0f0e0f0e0f0e0f0e0f5555a11111222a1111122,0x2222a11111222a111112222555522260e0f0e0f0e0f0e0f0e0f0e0f0e0f0e0f0e0f5555a11111222a111112,0x12222a11111222a111112222555522260e0f0e0f0e0f0e0f0e0f0e0f0e0f0e0f0e0f5555a11111222a11111,0x2699999999990ebf0ebf0ebf0ebf002f0ebf0ebf0ebf0ebf0ebf0ebf2ee2260cbf0cbf0caf0cbf0cbf0cbf0cbf0eaf0e0f0e0f0e0f0e0f0e0f5555a11111222a1111,0x2269999999995555a11111222a111112222a11111222a111112222555522,0x22269999999995555a11111222a111112222a11111222a11111222255552,0x522269999999995555a11111222a111112222a11111222a1111122225555,0x5522269999999995555a11111222a111112222a11111222a111112222555,0x55522269999999995555a11111222a111112222a11111222a11111222255,0x555522269999999995555a11111222a111112222a11111222a1111122225,0x2555522269999999995555a11111222a111112222a11111222a111112222,0x22555522269999999995555a11111222a111112222a11111222a11111222,0x222555522269999999995555a11111222a111112222a11111222a1111122,0x2222555522269999999995555a11111222a111112222a11111222a111112,0x12222555522269999999995555a11111222a111112222a11111222a11111,0x112222555522269999999995555a11111222a111112222a11111222a1111,0x1112222555522269999999995555a11111222a111112222a11111222a111,0x11112222555522269999999995555a11111222a111112222a11111222a11,0x111112222555522269999999995555a11111222a111112222a11111222a1,0x2100f0cbf0cbf0caf0cbf0cbf0cbf0cbf0fef999995555a11111222a111112222a11111222a] [.f [74] (kCount), .f [74] (kCount), .f [74] (kCount), .f [74] (kCount), .f [74] (kCount), .f [74] (kCount), .f [74] (kCount), .f [74] (kCount), .f [74] (kCount), .f [74] (kCount), .f [74] (kCount), .f [74] (kCount), .f [74] (kCount), .f [74] (kCount), .f [74] (kCount), .f [74] (kCount), .f [74] (kCount), .p [] (fun al tau => pMul a ta 1 (tau 659) (.of_right (by decide))), .p [] (fun al tau => pMul b tb 0 (tau 654) (.of_right (by decide))), .p [] (fun al tau => pMul a ta 0 (tau 654) (.of_right (by decide))), .p [] (fun al tau => pMul b tb 1 (tau 659) (.of_right (by decide))), .p [] (fun al tau => pMul a ta 1 (tau 664) (.of_right (by decide))), .p [] (fun al tau => pMul b tb 0 (tau 654) (.of_right (by decide))), .p [] (fun al tau => pMul a ta 1 (tau 659) (.of_right (by decide))), .p [] (fun al tau => pMul b tb 1 (tau 659) (.of_right (by decide))), .p [] (fun al tau => pMul a ta 1 (tau 659) (.of_right (by decide))), .p [] (fun al tau => pMul b tb 1 (tau 659) (.of_right (by decide))), .p [] (fun al tau => pMul a ta 0 (tau 654) (.of_right (by decide))), .p [] (fun al tau => pMul b tb 1 (tau 664) (.of_right (by decide))), .p [] (fun al tau => pMul a ta 1 (tau 674) (.of_right (by decide))), .p [] (fun al tau => pMul b tb 0 (tau 654) (.of_right (by decide))), .p [] (fun al tau => pMul a ta 2 (tau 669) (.of_right (by decide))), .p [] (fun al tau => pMul b tb 1 (tau 659) (.of_right (by decide))), .p [] (fun al tau => pMul a ta 2 (tau 669) (.of_right (by decide))), .p [] (fun al tau => pMul b tb 1 (tau 659) (.of_right (by decide))), .p [] (fun al tau => pMul a ta 1 (tau 664) (.of_right (by decide))), .p [] (fun al tau => pMul b tb 1 (tau 664) (.of_right (by decide))), .p [] (fun al tau => pMul a ta 1 (tau 664) (.of_right (by decide))), .p [] (fun al tau => pMul b tb 1 (tau 664) (.of_right (by decide))), .p [] (fun al tau => pMul a ta 1 (tau 659) (.of_right (by decide))), .p [] (fun al tau => pMul b tb 2 (tau 669) (.of_right (by decide))), .p [] (fun al tau => pMul a ta 1 (tau 659) (.of_right (by decide))), .p [] (fun al tau => pMul b tb 2 (tau 669) (.of_right (by decide))), .p [] (fun al tau => pMul a ta 0 (tau 654) (.of_right (by decide))), .p [] (fun al tau => pMul b tb 1 (tau 674) (.of_right (by decide))), .p [] (fun al tau => pMul a ta 1 (tau 694) (.of_right (by decide))), .p [] (fun al tau => pMul b tb 0 (tau 654) (.of_right (by decide))), .p [] (fun al tau => pMul a ta 3 (tau 689) (.of_right (by decide))), .p [] (fun al tau => pMul b tb 1 (tau 659) (.of_right (by decide))), .p [] (fun al tau => pMul a ta 3 (tau 689) (.of_right (by decide))), .p [] (fun al tau => pMul b tb 1 (tau 659) (.of_right (by decide))), .p [] (fun al tau => pMul a ta 2 (tau 684) (.of_right (by decide))), .p [] (fun al tau => pMul b tb 1 (tau 664) (.of_right (by decide))), .p [] (fun al tau => pMul a ta 2 (tau 684) (.of_right (by decide))), .p [] (fun al tau => pMul b tb 1 (tau 664) (.of_right (by decide))), .p [] (fun al tau => pMul a ta 3 (tau 679) (.of_right (by decide))), .p [] (fun al tau => pMul b tb 2 (tau 669) (.of_right (by decide))), .p [] (fun al tau => pMul a ta 3 (tau 679) (.of_right (by decide))), .p [] (fun al tau => pMul b tb 2 (tau 669) (.of_right (by decide))), .p [] (fun al tau => pMul a ta 1 (tau 674) (.of_right (by decide))), .p [] (fun al tau => pMul b tb 1 (tau 674) (.of_right (by decide))), .p [] (fun al tau => pMul a ta 1 (tau 674) (.of_right (by decide))), .p [] (fun al tau => pMul b tb 1 (tau 674) (.of_right (by decide))), .p [] (fun al tau => pMul a ta 2 (tau 669) (.of_right (by decide))), .p [] (fun al tau => pMul b tb 3 (tau 679) (.of_right (by decide))), .p [] (fun al tau => pMul a ta 2 (tau 669) (.of_right (by decide))), .p [] (fun al tau => pMul b tb 3 (tau 679) (.of_right (by decide))), .p [] (fun al tau => pMul a ta 1 (tau 664) (.of_right (by decide))), .p [] (fun al tau => pMul b tb 2 (tau 684) (.of_right (by decide))), .p [] (fun al tau => pMul a ta 1 (tau 664) (.of_right (by decide))), .p [] (fun al tau => pMul b tb 2 (tau 684) (.of_right (by decide))), .p [] (fun al tau => pMul a ta 1 (tau 659) (.of_right (by decide))), .p [] (fun al tau => pMul b tb 3 (tau 689) (.of_right (by decide))), .p [] (fun al tau => pMul a ta 1 (tau 659) (.of_right (by decide))), .p [] (fun al tau => pMul b tb 3 (tau 689) (.of_right (by decide))), .p [] (fun al tau => pMul a ta 0 (tau 654) (.of_right (by decide))), .p [] (fun al tau => pMul b tb 1 (tau 694) (.of_right (by decide))), .p [] (fun al tau => pMul a ta 1 (tau 734) (.of_right (by decide))), .p [] (fun al tau => pMul b tb 0 (tau 654) (.of_right (by decide))), .p [] (fun al tau => pMul a ta 4 (tau 729) (.of_right (by decide))), .p [] (fun al tau => pMul b tb 1 (tau 659) (.of_right (by decide))), .p [] (fun al tau => pMul a ta 4 (tau 729) (.of_right (by decide))), .p [] (fun al tau => pMul b tb 1 (tau 659) (.of_right (by decide))), .p [] (fun al tau => pMul a ta 3 (tau 724) (.of_right (by decide))), .p [] (fun al tau => pMul b tb 1 (tau 664) (.of_right (by decide))), .p [] (fun al tau => pMul a ta 3 (tau 724) (.of_right (by decide))), .p [] (fun al tau => pMul b tb 1 (tau 664) (.of_right (by decide))), .p [] (fun al tau => pMul a ta 5 (tau 719) (.of_right (by decide))), .p [] (fun al tau => pMul b tb 2 (tau 669) (.of_right (by decide))), .p [] (fun al tau => pMul a ta 5 (tau 719) (.of_right (by decide))), .p [] (fun al tau => pMul b tb 2 (tau 669) (.of_right (by decide))), .p [] (fun al tau => pMul a ta 2 (tau 714) (.of_right (by decide))), .p [] (fun al tau => pMul b tb 1 (tau 674) (.of_right (by decide))), .p [] (fun al tau => pMul a ta 2 (tau 714) (.of_right (by decide))), .p [] (fun al tau => pMul b tb 1 (tau 674) (.of_right (by decide))), .p [] (fun al tau => pMul a ta 5 (tau 709) (.of_right (by decide))), .p [] (fun al tau => pMul b tb 3 (tau 679) (.of_right (by decide))), .p [] (fun al tau => pMul a ta 5 (tau 709) (.of_right (by decide))), .p [] (fun al tau => pMul b tb 3 (tau 679) (.of_right (by decide))), .p [] (fun al tau => pMul a ta 3 (tau 704) (.of_right (by decide))), .p [] (fun al tau => pMul b tb 2 (tau 684) (.of_right (by decide))), .p [] (fun al tau => pMul a ta 3 (tau 704) (.of_right (by decide))), .p [] (fun al tau => pMul b tb 2 (tau 684) (.of_right (by decide))), .p [] (fun al tau => pMul a ta 4 (tau 699) (.of_right (by decide))), .p [] (fun al tau => pMul b tb 3 (tau 689) (.of_right (by decide))), .p [] (fun al tau => pMul a ta 4 (tau 699) (.of_right (by decide))), .p [] (fun al tau => pMul b tb 3 (tau 689) (.of_right (by decide))), .p [] (fun al tau => pMul a ta 1 (tau 694) (.of_right (by decide))), .p [] (fun al tau => pMul b tb 1 (tau 694) (.of_right (by decide))), .p [] (fun al tau => pMul a ta 1 (tau 694) (.of_right (by decide))), .p [] (fun al tau => pMul b tb 1 (tau 694) (.of_right (by decide))), .p [] (fun al tau => pMul a ta 3 (tau 689) (.of_right (by decide))), .p [] (fun al tau => pMul b tb 4 (tau 699) (.of_right (by decide))), .p [] (fun al tau => pMul a ta 3 (tau 689) (.of_right (by decide))), .p [] (fun al tau => pMul b tb 4 (tau 699) (.of_right (by decide))), .p [] (fun al tau => pMul a ta 2 (tau 684) (.of_right (by decide))), .p [] (fun al tau => pMul b tb 3 (tau 704) (.of_right (by decide))), .p [] (fun al tau => pMul a ta 2 (tau 684) (.of_right (by decide))), .p [] (fun al tau => pMul b tb 3 (tau 704) (.of_right (by decide))), .p [] (fun al tau => pMul a ta 3 (tau 679) (.of_right (by decide))), .p [] (fun al tau => pMul b tb 5 (tau 709) (.of_right (by decide))), .p [] (fun al tau => pMul a ta 3 (tau 679) (.of_right (by decide))), .p [] (fun al tau => pMul b tb 5 (tau 709) (.of_right (by decide))), .p [] (fun al tau => pMul a ta 1 (tau 674) (.of_right (by decide))), .p [] (fun al tau => pMul b tb 2 (tau 714) (.of_right (by decide))), .p [] (fun al tau => pMul a ta 1 (tau 674) (.of_right (by decide))), .p [] (fun al tau => pMul b tb 2 (tau 714) (.of_right (by decide))), .p [] (fun al tau => pMul a ta 2 (tau 669) (.of_right (by decide))), .p [] (fun al tau => pMul b tb 5 (tau 719) (.of_right (by decide))), .p [] (fun al tau => pMul a ta 2 (tau 669) (.of_right (by decide))), .p [] (fun al tau => pMul b tb 5 (tau 719) (.of_right (by decide))), .p [] (fun al tau => pMul a ta 1 (tau 664) (.of_right (by decide))), .p [] (fun al tau => pMul b tb 3 (tau 724) (.of_right (by decide))), .p [] (fun al tau => pMul a ta 1 (tau 664) (.of_right (by decide))), .p [] (fun al tau => pMul b tb 3 (tau 724) (.of_right (by decide))), .p [] (fun al tau => pMul a ta 1 (tau 659) (.of_right (by decide))), .p [] (fun al tau => pMul b tb 4 (tau 729) (.of_right (by decide))), .p [] (fun al tau => pMul a ta 1 (tau 659) (.of_right (by decide))), .p [] (fun al tau => pMul b tb 4 (tau 729) (.of_right (by decide))), .p [] (fun al tau => pMul a ta 0 (tau 654) (.of_right (by decide))), .p [] (fun al tau => pMul b tb 1 (tau 734) (.of_right (by decide)))]) [194, 199, 204, 205, 210, 211, 212, 213, 218, 219, 220, 221, 222, 223, 224, 225, 230, 231, 232, 233, 234, 235, 236, 237, 238, 239, 240, 241, 242, 243, 244, 245] [750, 758, 767, 775, 781, 789, 798, 806, 812, 820, 826, 834, 840, 848, 857, 865, 871, 879, 885, 893, 899, 907, 913, 921, 927, 935, 941, 949, 955, 963, 972, 980, 986, 994, 1000, 1008, 1014, 1022, 1028, 1036, 1042, 1050, 1056, 1064, 1070, 1078, 1084, 1092, 1098, 1106, 1112, 1120, 1126, 1134, 1140, 1148, 1154, 1162, 1168, 1176, 1182, 1190] (idN 62)]
    · constructor
      · open Mine PySem.Calls PySem.Spec PySem.Challenge.cw_pk0039_01_holds in grind only [show E_s00000 P0 w (ktop_219 w.params) from fun c p => ckG (unq [6,28,27,21,1,29,22,15,23,20,16,13,2,7] [0x12f012f999019f44a444477779db999544a4444022f4adaa013fc013fcc013fc00af1100bf011f011fb1bb88500efe009f,0x6656651111112121111111111111111111111111111100cf005fd00af801af701af7d701af7e012f00cf,0x633351211121212111263335121112121211126633351211121212111261,0x83335121112121211128111008fe885333512111212121112] [.p [] (fun al tau => pNeS ((St [p.c0, p.c1, p.c2, p.c3])) ((p.ft)) ((St [p.c0, p.c1, p.c2, p.c3])) ((p.ft)) false (ne_str _))]) [13, 12, 17, 2, 3, 7, 16, 15] [8, 6, 10, 13, 11, 15, 18, 2] (fun ts => [nthN ts 0, nthN ts 1, nthN ts 2, nthN ts 3, nthN ts 4, nthN ts 5, nthN ts 6, p.dt, nthN ts 7, 1, 0, 0, 0])]
      · open Mine PySem.Calls PySem.Spec PySem.Challenge.cw_pk0039_01_holds in grind only [show E_s00004 P0 w (ktop_219 w.params) from fun c p t => ckG (unq [21,23,22,20,26,16,13,6,19,2,18,7,1,15] [0x53cb00cfbb222019f1141111a6222d1141111022f14a44979779700af8800bf011f011f6866eed00efc009f,0x53535353a3] []) [] [] (fun _ => [])]
      · open Mine PySem.Calls PySem.Spec PySem.Challenge.cw_pk0039_01_holds in grind only [show E_s00010 P0 w (ktop_219 w.params) from fun c p => ckG (unq [21,13,23,26,27,20,18,31,16,2,22,6,19,7] [0x77333019f1161111bbbb3a9333001f1161111022f16a66d2d22d200afcc00bf011f011f9c9900ff00ff001f00efe009f,0x85858585a585e77701cf01ef442444402cf42a2200bf00cf] []) [] [] (fun _ => [])]
      · open Mine PySem.Calls PySem.Spec PySem.Challenge.cw_pk0039_01_holds in grind only [show E_s00100 P0 w (ktop_219 w.params) from fun c p => ckG (unq [6,28,21,27,22,1,23,29,15,20,16,2,13,7] [0xcb777633a333355557cb777633a3333022f3acaa013fd013fdd013fd00af1100bf011f011fb1bb99600efe009f,0x1111111111111111111111111100cf005fc00af901af501af5c501af5e012f00cf012f012f777019f33a333355557,0x284446121112121211128844461211121212111281886886111111212111,0x6121112121211129111008fe996444612111212121112844461211121212111,0x9444] [.p [] (fun al tau => pNeS ((St [p.c0, p.c1, p.c2, p.c3])) ((p.ft)) ((St [p.c0, p.c1, p.c2, p.c3])) ((p.ft)) false (ne_str _))]) [13, 12, 17, 2, 3, 7, 16, 15] [9, 7, 11, 14, 12, 16, 19, 2] (fun ts => [nthN ts 0, nthN ts 1, nthN ts 2, nthN ts 3, nthN ts 4, nthN ts 5, nthN ts 6, p.dt, p.kt 0, 2, nthN ts 7, 0, 0])]
      · open Mine PySem.Calls PySem.Spec PySem.Challenge.cw_pk0039_01_holds in grind only [show E_s00103 P0 w (ktop_219 w.params) from fun c p t => ckG (unq [6,28,21,27,1,23,29,22,15,20,16,2,13,7] [0x88886cb666533a3333cb666533a3333022f3acaa013fd013fdd013fd00af1100bf011f011fb1bb99500efe009f,0x121111111111111111111111111111100cf005fc00af901af801af8c801af8e012f00cf012f012f666019f33a3333,0x121112744451211121212111277444512111212121112717757751111112,0x94445121112121211129111008fe9954445121112121211127444512111212] [.p [] (fun al tau => pNeS ((St [p.c0, p.c1, p.c2, p.c3])) ((p.ft)) ((St [p.c0, p.c1, p.c2, p.c3])) ((p.ft)) false (ne_str _))]) [13, 12, 17, 2, 3, 7, 16, 15] [9, 7, 11, 14, 12, 16, 19, 2] (fun ts => [nthN ts 0, nthN ts 1, nthN ts 2, nthN ts 3, nthN ts 4, nthN ts 5, nthN ts 6, t, nthN ts 7, 1, 0, 0, 0])]
      · open Mine PySem.Calls PySem.Spec PySem.Challenge.cw_pk0039_01_holds in grind only [show E_s00104 P0 w (ktop_219 w.params) from fun c p t => ckG (unq [21,23,20,22,16,26,13,2,1,6,19,18,7,15] [0x3111185222911311118522291131111022f13833b7b77b700afaa00bf011f011f5a55ee900efd009f,0x646464648464dc00cfcc222019f11] []) [] [] (fun _ => [])]
      · open Mine PySem.Calls PySem.Spec PySem.Challenge.cw_pk0039_01_holds in grind only [show E_s00110 P0 w (ktop_219 w.params) from fun c p => ckG (unq [6,33,21,32,26,27,1,23,34,13,22,15,2,28] [0xd010f888733014f3333bbbb8d010f888733014f333393014fd014f014f013fa013faa013fa00af1100bf011f011f010f1010f010fcc700ef007f009f,0x6007f012f012f012feee01ef55a55556666ed010feee755a555502cf5adaa00bf00cf012f012f888019f33014f3333bbbb8,0x9711111121211111111111111111111111111111011f011f66666012f00cf005fd00afc01ff601ff6d601ff,0x712111212121112944471211121212111299444712111212121112919979,0xc444712111212121112c111008f007fcc74447121112121211129444] [.p [] (fun al tau => pNeS ((St [p.c0, p.c1, p.c2, p.c3])) ((p.ft)) ((St [p.c0, p.c1, p.c2, p.c3])) ((p.ft)) false (ne_str _))]) [18, 17, 22, 2, 3, 12, 21, 20] [11, 9, 13, 16, 14, 18, 21] (fun ts => [nthN ts 0, nthN ts 1, nthN ts 2, nthN ts 3, nthN ts 4, nthN ts 5, nthN ts 6, p.kt 0, p.kt 0, 1, 0, 0, 0])]
      · open Mine PySem.Calls PySem.Spec PySem.Challenge.cw_pk0039_01_holds in grind only [show E_s00114 P0 w (ktop_219 w.params) from fun c p t => ckG (unq [21,26,13,23,16,20,2,28,27,18,31,1,6,19] [0x6111175444c116111175444c1161111022f16766e3e33e300afdd00bf011f011f5d5500ff00ffc00ef007f009f,0xb9b9b9b979b9007faaa88801ef223222275888c223222202cf2373300bf00cfaa444019f11] []) [] [] (fun _ => [])]
      · open Mine PySem.Calls PySem.Spec PySem.Challenge.cw_pk0039_01_holds in grind only [show E_s01000 P0 w (ktop_219 w.params) from fun c p => ckG (unq [6,28,21,27,22,1,23,29,15,20,16,2,13,7] [0xcb777633a333355557cb777633a3333022f3acaa013fd013fdd013fd00af1100bf011f011fb1bb99600efe009f,0x1111111111111111111111111100cf005fc00af901af501af5c501af5e012f00cf012f012f777019f33a333355557,0x284446121112121211128844461211121212111281886886111111212111,0x6121112121211129111008fe996444612111212121112844461211121212111,0x9444] [.p [] (fun al tau => pNeS ((St [p.c0, p.c1, p.c2, p.c3])) ((p.ft)) ((St [p.c0, p.c1, p.c2, p.c3])) ((p.ft)) false (ne_str _))]) [13, 12, 17, 2, 3, 7, 16, 15] [9, 7, 11, 14, 12, 16, 19, 2] (fun ts => [nthN ts 0, nthN ts 1, nthN ts 2, nthN ts 3, nthN ts 4, nthN ts 5, nthN ts 6, p.dt, p.kt 0, 2, nthN ts 7, 0, 0])]
      · open Mine PySem.Calls PySem.Spec PySem.Challenge.cw_pk0039_01_holds in grind only [show E_s01002 P0 w (ktop_219 w.params) from fun c p t => ckG (unq [6,28,21,27,1,23,29,22,15,20,16,2,13,7] [0x88886cb666533a3333cb666533a3333022f3acaa013fd013fdd013fd00af1100bf011f011fb1bb99500efe009f,0x121111111111111111111111111111100cf005fc00af901af801af8c801af8e012f00cf012f012f666019f33a3333,0x121112744451211121212111277444512111212121112717757751111112,0x94445121112121211129111008fe9954445121112121211127444512111212] [.p [] (fun al tau => pNeS ((St [p.c0, p.c1, p.c2, p.c3])) ((p.ft)) ((St [p.c0, p.c1, p.c2, p.c3])) ((p.ft)) false (ne_str _))]) [13, 12, 17, 2, 3, 7, 16, 15] [9, 7, 11, 14, 12, 16, 19, 2] (fun ts => [nthN ts 0, nthN ts 1, nthN ts 2, nthN ts 3, nthN ts 4, nthN ts 5, nthN ts 6, t, nthN ts 7, 1, 0, 0, 0])]
      · open Mine PySem.Calls PySem.Spec PySem.Challenge.cw_pk0039_01_holds in grind only [show E_s01004 P0 w (ktop_219 w.params) from fun c p t => ckG (unq [21,23,20,22,16,26,13,2,1,6,19,18,7,15] [0x3111185222911311118522291131111022f13833b7b77b700afaa00bf011f011f5a55ee900efd009f,0x646464648464dc00cfcc222019f11] []) [] [] (fun _ => [])]
      · open Mine PySem.Calls PySem.Spec PySem.Challenge.cw_pk0039_01_holds in grind only [show E_s01010 P0 w (ktop_219 w.params) from fun c p => ckG (unq [6,33,21,32,26,27,1,23,34,13,22,15,2,28] [0xd010f888733014f3333bbbb8d010f888733014f333393014fd014f014f013fa013faa013fa00af1100bf011f011f010f1010f010fcc700ef007f009f,0x6007f012f012f012feee01ef55a55556666ed010feee755a555502cf5adaa00bf00cf012f012f888019f33014f3333bbbb8,0x9711111121211111111111111111111111111111011f011f66666012f00cf005fd00afc01ff601ff6d601ff,0x712111212121112944471211121212111299444712111212121112919979,0xc444712111212121112c111008f007fcc74447121112121211129444] [.p [] (fun al tau => pNeS ((St [p.c0, p.c1, p.c2, p.c3])) ((p.ft)) ((St [p.c0, p.c1, p.c2, p.c3])) ((p.ft)) false (ne_str _))]) [18, 17, 22, 2, 3, 12, 21, 20] [11, 9, 13, 16, 14, 18, 21] (fun ts => [nthN ts 0, nthN ts 1, nthN ts 2, nthN ts 3, nthN ts 4, nthN ts 5, nthN ts 6, p.kt 0, p.kt 0, 1, 0, 0, 0])]
      · open Mine PySem.Calls PySem.Spec PySem.Challenge.cw_pk0039_01_holds in grind only [show E_s01013 P0 w (ktop_219 w.params) from fun c p t => ckG (unq [21,26,23,13,16,20,2,28,27,18,31,1,22,6] [0xdddd375333c116111175333c1161111022f16766013f4013f44013f400afee00bf011f011f5e5500ff00ffc00ef007f009f,0x9b9b9b979b9007faaa88801ef224222275888c224222202cf2474400bf00cfaa333019f1161111,0xb] []) [] [] (fun _ => [])]
      · open Mine PySem.Calls PySem.Spec PySem.Challenge.cw_pk0039_01_holds in grind only [show E_s01100 P0 w (ktop_219 w.params) from fun c p => ckG (unq [6,28,21,22,23,27,1,29,15,20,16,2,13,7] [0xcb555733a333344445cb555733a3333022f3acaa013fd013fdd013fd00af1100bf011f011fb1bb99700efe009f,0x1111111100cf005fc00af901af401af4c401af4e012f00cf012f012f555019f33a333344445cb555733a333344445,0x128866671211121212111281887887111111212111111111111111111111,0x1008fe997666712111212121112866671211121212111286667121112121211,0x9666712111212121112911] [.p [] (fun al tau => pNeS ((St [p.c0, p.c1, p.c2, p.c3])) ((p.ft)) ((St [p.c0, p.c1, p.c2, p.c3])) ((p.ft)) false (ne_str _))]) [13, 12, 17, 2, 3, 7, 16, 15] [10, 8, 12, 15, 13, 17, 20, 2] (fun ts => [nthN ts 0, nthN ts 1, nthN ts 2, nthN ts 3, nthN ts 4, nthN ts 5, nthN ts 6, p.dt, p.kt 0, 3, p.kt 1, nthN ts 7, 0])]
      · open Mine PySem.Calls PySem.Spec PySem.Challenge.cw_pk0039_01_holds in grind only [show E_s01102 P0 w (ktop_219 w.params) from fun c p t => ckG (unq [6,28,21,27,23,1,22,29,15,20,16,2,13,7] [0x77775cb555633a3333cb555633a3333022f3acaa013fd013fdd013fd00af1100bf011f011fb1bb99600efe009f,0x111111111111100cf005fc00af901af701af7c701af7e012f00cf012f012f555019f33a333377775cb555633a3333,0x212111288444612111212121112818868861111112121111111111111111,0x129111008fe9964446121112121211128444612111212121112844461211121,0x94446121112121211] [.p [] (fun al tau => pNeS ((St [p.c0, p.c1, p.c2, p.c3])) ((p.ft)) ((St [p.c0, p.c1, p.c2, p.c3])) ((p.ft)) false (ne_str _))]) [13, 12, 17, 2, 3, 7, 16, 15] [10, 8, 12, 15, 13, 17, 20, 2] (fun ts => [nthN ts 0, nthN ts 1, nthN ts 2, nthN ts 3, nthN ts 4, nthN ts 5, nthN ts 6, t, p.kt 1, 2, nthN ts 7, 0, 0])]
      · open Mine PySem.Calls PySem.Spec PySem.Challenge.cw_pk0039_01_holds in grind only [show E_s01103 P0 w (ktop_219 w.params) from fun c p t => ckG (unq [6,28,21,27,23,1,29,22,15,20,16,2,13,7] [0xa3333cb555633a3333cb555633a3333022f3acaa013fd013fdd013fd00af1100bf011f011fb1bb99600efe009f,0x11111111111111111100cf005fc00af901af801af8c801af8e012f00cf012f012f555019f33a333388885cb555633,0x111212121112774446121112121211127177677611111121211111111111,0x21211129111008fe99644461211121212111274446121112121211127444612,0x944461211121] [.p [] (fun al tau => pNeS ((St [p.c0, p.c1, p.c2, p.c3])) ((p.ft)) ((St [p.c0, p.c1, p.c2, p.c3])) ((p.ft)) false (ne_str _))]) [13, 12, 17, 2, 3, 7, 16, 15] [10, 8, 12, 15, 13, 17, 20, 2] (fun ts => [nthN ts 0, nthN ts 1, nthN ts 2, nthN ts 3, nthN ts 4, nthN ts 5, nthN ts 6, t, nthN ts 7, 1, 0, 0, 0])]
      · open Mine PySem.Calls PySem.Spec PySem.Challenge.cw_pk0039_01_holds in grind only [show E_s01104 P0 w (ktop_219 w.params) from fun c p t => ckG (unq [21,23,20,16,22,2,26,1,13,6,19,18,7,15] [0x3111164222811311116422281131111022f13633b9b99b900afaa00bf011f011f4a44ee800efd009f,0x757575756575dc00cfcc222019f113111164222811] []) [] [] (fun _ => [])]
      · open Mine PySem.Calls PySem.Spec PySem.Challenge.cw_pk0039_01_holds in grind only [show E_s01110 P0 w (ktop_219 w.params) from fun c p => ckG (unq [6,33,21,26,27,23,32,1,22,28,13,34,2,16] [0xde666833014f333399996de666833014f3333c3014fd014f014f013fb013fbb013fb00af1100bf011f011fe1ee00ff00ff800ef007f009f,0x55adeaaa844b444402cf4bdbb00bf00cf012f012f666019f33014f333399996de666833014f333399996,0x1111011f011f55555012f00cf005fd00af00ff01ff501ff5d501ff5007f012f012f012faaa01ef44b44445555adeaaa844b444455,0x777812111212121112c1cc8cc81111112121111111111111111111111111,0xff8777812111212121112c777812111212121112c777812111212121112cc,0xff77781211121212111200ff111008f007f00ff] [.p [] (fun al tau => pNeS ((St [p.c0, p.c1, p.c2, p.c3])) ((p.ft)) ((St [p.c0, p.c1, p.c2, p.c3])) ((p.ft)) false (ne_str _))]) [18, 17, 22, 2, 3, 12, 21, 20] [13, 11, 15, 18, 16, 20, 23] (fun ts => [nthN ts 0, nthN ts 1, nthN ts 2, nthN ts 3, nthN ts 4, nthN ts 5, nthN ts 6, p.kt 0, p.kt 0, 2, p.kt 1, 0, 0])]
      · open Mine PySem.Calls PySem.Spec PySem.Challenge.cw_pk0039_01_holds in grind only [show E_s01113 P0 w (ktop_219 w.params) from fun c p t => ckG (unq [6,33,21,26,32,1,23,27,13,34,28,2,16,15] [0x14f3333cd777633014f3333cd777633014f3333a3014fc014f014f013f9013f99013f900af1100bf011f011fd1ddee600ef007f009f,0xcdbbb64494444cdbbb6449444402cf49c9900bf00cf012f012f777019f33014f3333016f016f016f016f7cd777633,0x1111111111111111111011f011f88888012f00cf005fc00afe01ff801ff8c801ff8007f012f012f012fbbb01ef44944448888b,0x2111212121112aa555612111212121112a1aa6aa61111112121111111111,0x12121112e111008f007fee6555612111212121112a555612111212121112a55561,0xe5556121112] [.p [] (fun al tau => pNeS ((St [p.c0, p.c1, p.c2, p.c3])) ((p.ft)) ((St [p.c0, p.c1, p.c2, p.c3])) ((p.ft)) false (ne_str _))]) [18, 17, 22, 2, 3, 12, 21, 20] [13, 11, 15, 18, 16, 20, 23] (fun ts => [nthN ts 0, nthN ts 1, nthN ts 2, nthN ts 3, nthN ts 4, nthN ts 5, nthN ts 6, p.kt 1, p.kt 1, 1, 0, 0, 0])]
      · open Mine PySem.Calls PySem.Spec PySem.Challenge.cw_pk0039_01_holds in grind only [show E_s01114 P0 w (ktop_219 w.params) from fun c p t => ckG (unq [21,26,23,13,28,16,2,20,1,27,18,31,6,19] [0x8111176333911811117633391181111022f18788e4e44e400afdd00bf011f011f6d6600ff00ff900ef007f009f,0x422227655592242222765559224222202cf2474400bf00cfbb333019f118111176333911,0xcacacaca7aca007fbbb55501ef22] []) [] [] (fun _ => [])]
      · open Mine PySem.Calls PySem.Spec PySem.Challenge.cw_pk0039_01_holds in grind only [show E_s10000 P0 w (ktop_219 w.params) from fun c p => ckG (unq [6,28,21,27,22,1,23,29,15,20,16,2,13,7] [0xcb777633a333355557cb777633a3333022f3acaa013fd013fdd013fd00af1100bf011f011fb1bb99600efe009f,0x1111111111111111111111111100cf005fc00af901af501af5c501af5e012f00cf012f012f777019f33a333355557,0x284446121112121211128844461211121212111281886886111111212111,0x6121112121211129111008fe996444612111212121112844461211121212111,0x9444] [.p [] (fun al tau => pNeS ((St [p.c0, p.c1, p.c2, p.c3])) ((p.ft)) ((St [p.c0, p.c1, p.c2, p.c3])) ((p.ft)) false (ne_str _))]) [13, 12, 17, 2, 3, 7, 16, 15] [9, 7, 11, 14, 12, 16, 19, 2] (fun ts => [nthN ts 0, nthN ts 1, nthN ts 2, nthN ts 3, nthN ts 4, nthN ts 5, nthN ts 6, p.dt, p.kt 0, 2, nthN ts 7, 0, 0])]
      · open Mine PySem.Calls PySem.Spec PySem.Challenge.cw_pk0039_01_holds in grind only [show E_s10001 P0 w (ktop_219 w.params) from fun c p t => ckG (unq [6,28,21,27,1,23,29,22,15,20,16,2,13,7] [0x88886cb666533a3333cb666533a3333022f3acaa013fd013fdd013fd00af1100bf011f011fb1bb99500efe009f,0x121111111111111111111111111111100cf005fc00af901af801af8c801af8e012f00cf012f012f666019f33a3333,0x121112744451211121212111277444512111212121112717757751111112,0x94445121112121211129111008fe9954445121112121211127444512111212] [.p [] (fun al tau => pNeS ((St [p.c0, p.c1, p.c2, p.c3])) ((p.ft)) ((St [p.c0, p.c1, p.c2, p.c3])) ((p.ft)) false (ne_str _))]) [13, 12, 17, 2, 3, 7, 16, 15] [9, 7, 11, 14, 12, 16, 19, 2] (fun ts => [nthN ts 0, nthN ts 1, nthN ts 2, nthN ts 3, nthN ts 4, nthN ts 5, nthN ts 6, t, nthN ts 7, 1, 0, 0, 0])]
      · open Mine PySem.Calls PySem.Spec PySem.Challenge.cw_pk0039_01_holds in grind only [show E_s10004 P0 w (ktop_219 w.params) from fun c p t => ckG (unq [21,23,20,22,16,26,13,2,1,6,19,18,7,15] [0x3111185222911311118522291131111022f13833b7b77b700afaa00bf011f011f5a55ee900efd009f,0x646464648464dc00cfcc222019f11] []) [] [] (fun _ => [])]
      · open Mine PySem.Calls PySem.Spec PySem.Challenge.cw_pk0039_01_holds in grind only [show E_s10010 P0 w (ktop_219 w.params) from fun c p => ckG (unq [6,33,21,32,26,27,1,23,34,13,22,15,2,28] [0xd010f888733014f3333bbbb8d010f888733014f333393014fd014f014f013fa013faa013fa00af1100bf011f011f010f1010f010fcc700ef007f009f,0x6007f012f012f012feee01ef55a55556666ed010feee755a555502cf5adaa00bf00cf012f012f888019f33014f3333bbbb8,0x9711111121211111111111111111111111111111011f011f66666012f00cf005fd00afc01ff601ff6d601ff,0x712111212121112944471211121212111299444712111212121112919979,0xc444712111212121112c111008f007fcc74447121112121211129444] [.p [] (fun al tau => pNeS ((St [p.c0, p.c1, p.c2, p.c3])) ((p.ft)) ((St [p.c0, p.c1, p.c2, p.c3])) ((p.ft)) false (ne_str _))]) [18, 17, 22, 2, 3, 12, 21, 20] [11, 9, 13, 16, 14, 18, 21] (fun ts => [nthN ts 0, nthN ts 1, nthN ts 2, nthN ts 3, nthN ts 4, nthN ts 5, nthN ts 6, p.kt 0, p.kt 0, 1, 0, 0, 0])]
      · open Mine PySem.Calls PySem.Spec PySem.Challenge.cw_pk0039_01_holds in grind only [show E_s10012 P0 w (ktop_219 w.params) from fun c p t => ckG (unq [21,26,23,13,16,20,2,28,27,18,31,1,22,6] [0xdddd375333c116111175333c1161111022f16766013f4013f44013f400afee00bf011f011f5e5500ff00ffc00ef007f009f,0x9b9b9b979b9007faaa88801ef224222275888c224222202cf2474400bf00cfaa333019f1161111,0xb] []) [] [] (fun _ => [])]
      · open Mine PySem.Calls PySem.Spec PySem.Challenge.cw_pk0039_01_holds in grind only [show E_s10100 P0 w (ktop_219 w.params) from fun c p => ckG (unq [6,28,21,22,23,27,1,29,15,20,16,2,13,7] [0xcb555733a333344445cb555733a3333022f3acaa013fd013fdd013fd00af1100bf011f011fb1bb99700efe009f,0x1111111100cf005fc00af901af401af4c401af4e012f00cf012f012f555019f33a333344445cb555733a333344445,0x128866671211121212111281887887111111212111111111111111111111,0x1008fe997666712111212121112866671211121212111286667121112121211,0x9666712111212121112911] [.p [] (fun al tau => pNeS ((St [p.c0, p.c1, p.c2, p.c3])) ((p.ft)) ((St [p.c0, p.c1, p.c2, p.c3])) ((p.ft)) false (ne_str _))]) [13, 12, 17, 2, 3, 7, 16, 15] [10, 8, 12, 15, 13, 17, 20, 2] (fun ts => [nthN ts 0, nthN ts 1, nthN ts 2, nthN ts 3, nthN ts 4, nthN ts 5, nthN ts 6, p.dt, p.kt 0, 3, p.kt 1, nthN ts 7, 0])]
      · open Mine PySem.Calls PySem.Spec PySem.Challenge.cw_pk0039_01_holds in grind only [show E_s10101 P0 w (ktop_219 w.params) from fun c p t => ckG (unq [6,28,21,27,23,1,22,29,15,20,16,2,13,7] [0x77775cb555633a3333cb555633a3333022f3acaa013fd013fdd013fd00af1100bf011f011fb1bb99600efe009f,0x111111111111100cf005fc00af901af701af7c701af7e012f00cf012f012f555019f33a333377775cb555633a3333,0x212111288444612111212121112818868861111112121111111111111111,0x129111008fe9964446121112121211128444612111212121112844461211121,0x94446121112121211] [.p [] (fun al tau => pNeS ((St [p.c0, p.c1, p.c2, p.c3])) ((p.ft)) ((St [p.c0, p.c1, p.c2, p.c3])) ((p.ft)) false (ne_str _))]) [13, 12, 17, 2, 3, 7, 16, 15] [10, 8, 12, 15, 13, 17, 20, 2] (fun ts => [nthN ts 0, nthN ts 1, nthN ts 2, nthN ts 3, nthN ts 4, nthN ts 5, nthN ts 6, t, p.kt 1, 2, nthN ts 7, 0, 0])]
      · open Mine PySem.Calls PySem.Spec PySem.Challenge.cw_pk0039_01_holds in grind only [show E_s10103 P0 w (ktop_219 w.params) from fun c p t => ckG (unq [6,28,21,27,23,1,29,22,15,20,16,2,13,7] [0xa3333cb555633a3333cb555633a3333022f3acaa013fd013fdd013fd00af1100bf011f011fb1bb99600efe009f,0x11111111111111111100cf005fc00af901af801af8c801af8e012f00cf012f012f555019f33a333388885cb555633,0x111212121112774446121112121211127177677611111121211111111111,0x21211129111008fe99644461211121212111274446121112121211127444612,0x944461211121] [.p [] (fun al tau => pNeS ((St [p.c0, p.c1, p.c2, p.c3])) ((p.ft)) ((St [p.c0, p.c1, p.c2, p.c3])) ((p.ft)) false (ne_str _))]) [13, 12, 17, 2, 3, 7, 16, 15] [10, 8, 12, 15, 13, 17, 20, 2] (fun ts => [nthN ts 0, nthN ts 1, nthN ts 2, nthN ts 3, nthN ts 4, nthN ts 5, nthN ts 6, t, nthN ts 7, 1, 0, 0, 0])]
      · open Mine PySem.Calls PySem.Spec PySem.Challenge.cw_pk0039_01_holds in grind only [show E_s10104 P0 w (ktop_219 w.params) from fun c p t => ckG (unq [21,23,20,16,22,2,26,1,13,6,19,18,7,15] [0x3111164222811311116422281131111022f13633b9b99b900afaa00bf011f011f4a44ee800efd009f,0x757575756575dc00cfcc222019f113111164222811] []) [] [] (fun _ => [])]
      · open Mine PySem.Calls PySem.Spec PySem.Challenge.cw_pk0039_01_holds in grind only [show E_s10110 P0 w (ktop_219 w.params) from fun c p => ckG (unq [6,33,21,26,27,23,32,1,22,28,13,34,2,16] [0xde666833014f333399996de666833014f3333c3014fd014f014f013fb013fbb013fb00af1100bf011f011fe1ee00ff00ff800ef007f009f,0x55adeaaa844b444402cf4bdbb00bf00cf012f012f666019f33014f333399996de666833014f333399996,0x1111011f011f55555012f00cf005fd00af00ff01ff501ff5d501ff5007f012f012f012faaa01ef44b44445555adeaaa844b444455,0x777812111212121112c1cc8cc81111112121111111111111111111111111,0xff8777812111212121112c777812111212121112c777812111212121112cc,0xff77781211121212111200ff111008f007f00ff] [.p [] (fun al tau => pNeS ((St [p.c0, p.c1, p.c2, p.c3])) ((p.ft)) ((St [p.c0, p.c1, p.c2, p.c3])) ((p.ft)) false (ne_str _))]) [18, 17, 22, 2, 3, 12, 21, 20] [13, 11, 15, 18, 16, 20, 23] (fun ts => [nthN ts 0, nthN ts 1, nthN ts 2, nthN ts 3, nthN ts 4, nthN ts 5, nthN ts 6, p.kt 0, p.kt 0, 2, p.kt 1, 0, 0])]
      · open Mine PySem.Calls PySem.Spec PySem.Challenge.cw_pk0039_01_holds in grind only [show E_s10112 P0 w (ktop_219 w.params) from fun c p t => ckG (unq [6,33,21,26,32,1,23,27,13,34,28,2,16,22] [0xeeee7cd777633014f3333cd777633014f3333a3014fc014f014f013f9013f99013f900af1100bf011f011fd1dd00ff00ff600ef007f009f,0x64494444cdbbb6449444402cf49c9900bf00cf012f012f777019f33014f3333eeee7cd777633014f3333,0x11111111111111011f011f88888012f00cf005fc00af00ff01ff801ff8c801ff8007f012f012f012fbbb01ef44944448888bcdbbb,0x12121112aa555612111212121112a1aa6aa6111111212111111111111111,0x11200ff111008f007f00ff00ff6555612111212121112a555612111212121112a5556121112,0xff555612111212121] [.p [] (fun al tau => pNeS ((St [p.c0, p.c1, p.c2, p.c3])) ((p.ft)) ((St [p.c0, p.c1, p.c2, p.c3])) ((p.ft)) false (ne_str _))]) [18, 17, 22, 2, 3, 12, 21, 20] [13, 11, 15, 18, 16, 20, 23] (fun ts => [nthN ts 0, nthN ts 1, nthN ts 2, nthN ts 3, nthN ts 4, nthN ts 5, nthN ts 6, p.kt 1, p.kt 1, 1, 0, 0, 0])]
      · open Mine PySem.Calls PySem.Spec PySem.Challenge.cw_pk0039_01_holds in grind only [show E_s10114 P0 w (ktop_219 w.params) from fun c p t => ckG (unq [21,26,23,13,28,16,2,20,1,27,18,31,6,19] [0x8111176333911811117633391181111022f18788e4e44e400afdd00bf011f011f6d6600ff00ff900ef007f009f,0x422227655592242222765559224222202cf2474400bf00cfbb333019f118111176333911,0xcacacaca7aca007fbbb55501ef22] []) [] [] (fun _ => [])]
      · open Mine PySem.Calls PySem.Spec PySem.Challenge.cw_pk0039_01_holds in grind only [show E_s11000 P0 w (ktop_219 w.params) from fun c p => ckG (unq [6,28,21,22,23,27,1,29,15,20,16,2,13,7] [0xcb555733a333344445cb555733a3333022f3acaa013fd013fdd013fd00af1100bf011f011fb1bb99700efe009f,0x1111111100cf005fc00af901af401af4c401af4e012f00cf012f012f555019f33a333344445cb555733a333344445,0x128866671211121212111281887887111111212111111111111111111111,0x1008fe997666712111212121112866671211121212111286667121112121211,0x9666712111212121112911] [.p [] (fun al tau => pNeS ((St [p.c0, p.c1, p.c2, p.c3])) ((p.ft)) ((St [p.c0, p.c1, p.c2, p.c3])) ((p.ft)) false (ne_str _))]) [13, 12, 17, 2, 3, 7, 16, 15] [10, 8, 12, 15, 13, 17, 20, 2] (fun ts => [nthN ts 0, nthN ts 1, nthN ts 2, nthN ts 3, nthN ts 4, nthN ts 5, nthN ts 6, p.dt, p.kt 0, 3, p.kt 1, nthN ts 7, 0])]
      · open Mine PySem.Calls PySem.Spec PySem.Challenge.cw_pk0039_01_holds in grind only [show E_s11001 P0 w (ktop_219 w.params) from fun c p t => ckG (unq [6,28,21,27,23,1,22,29,15,20,16,2,13,7] [0x77775cb555633a3333cb555633a3333022f3acaa013fd013fdd013fd00af1100bf011f011fb1bb99600efe009f,0x111111111111100cf005fc00af901af701af7c701af7e012f00cf012f012f555019f33a333377775cb555633a3333,0x212111288444612111212121112818868861111112121111111111111111,0x129111008fe9964446121112121211128444612111212121112844461211121,0x94446121112121211] [.p [] (fun al tau => pNeS ((St [p.c0, p.c1, p.c2, p.c3])) ((p.ft)) ((St [p.c0, p.c1, p.c2, p.c3])) ((p.ft)) false (ne_str _))]) [13, 12, 17, 2, 3, 7, 16, 15] [10, 8, 12, 15, 13, 17, 20, 2] (fun ts => [nthN ts 0, nthN ts 1, nthN ts 2, nthN ts 3, nthN ts 4, nthN ts 5, nthN ts 6, t, p.kt 1, 2, nthN ts 7, 0, 0])]
      · open Mine PySem.Calls PySem.Spec PySem.Challenge.cw_pk0039_01_holds in grind only [show E_s11002 P0 w (ktop_219 w.params) from fun c p t => ckG (unq [6,28,21,27,23,1,29,22,15,20,16,2,13,7] [0xa3333cb555633a3333cb555633a3333022f3acaa013fd013fdd013fd00af1100bf011f011fb1bb99600efe009f,0x11111111111111111100cf005fc00af901af801af8c801af8e012f00cf012f012f555019f33a333388885cb555633,0x111212121112774446121112121211127177677611111121211111111111,0x21211129111008fe99644461211121212111274446121112121211127444612,0x944461211121] [.p [] (fun al tau => pNeS ((St [p.c0, p.c1, p.c2, p.c3])) ((p.ft)) ((St [p.c0, p.c1, p.c2, p.c3])) ((p.ft)) false (ne_str _))]) [13, 12, 17, 2, 3, 7, 16, 15] [10, 8, 12, 15, 13, 17, 20, 2] (fun ts => [nthN ts 0, nthN ts 1, nthN ts 2, nthN ts 3, nthN ts 4, nthN ts 5, nthN ts 6, t, nthN ts 7, 1, 0, 0, 0])]
      · open Mine PySem.Calls PySem.Spec PySem.Challenge.cw_pk0039_01_holds in grind only [show E_s11004 P0 w (ktop_219 w.params) from fun c p t => ckG (unq [21,23,20,16,22,2,26,1,13,6,19,18,7,15] [0x3111164222811311116422281131111022f13633b9b99b900afaa00bf011f011f4a44ee800efd009f,0x757575756575dc00cfcc222019f113111164222811] []) [] [] (fun _ => [])]
      · open Mine PySem.Calls PySem.Spec PySem.Challenge.cw_pk0039_01_holds in grind only [show E_s11010 P0 w (ktop_219 w.params) from fun c p => ckG (unq [6,33,21,26,27,23,32,1,22,28,13,34,2,16] [0xde666833014f333399996de666833014f3333c3014fd014f014f013fb013fbb013fb00af1100bf011f011fe1ee00ff00ff800ef007f009f,0x55adeaaa844b444402cf4bdbb00bf00cf012f012f666019f33014f333399996de666833014f333399996,0x1111011f011f55555012f00cf005fd00af00ff01ff501ff5d501ff5007f012f012f012faaa01ef44b44445555adeaaa844b444455,0x777812111212121112c1cc8cc81111112121111111111111111111111111,0xff8777812111212121112c777812111212121112c777812111212121112cc,0xff77781211121212111200ff111008f007f00ff] [.p [] (fun al tau => pNeS ((St [p.c0, p.c1, p.c2, p.c3])) ((p.ft)) ((St [p.c0, p.c1, p.c2, p.c3])) ((p.ft)) false (ne_str _))]) [18, 17, 22, 2, 3, 12, 21, 20] [13, 11, 15, 18, 16, 20, 23] (fun ts => [nthN ts 0, nthN ts 1, nthN ts 2, nthN ts 3, nthN ts 4, nthN ts 5, nthN ts 6, p.kt 0, p.kt 0, 2, p.kt 1, 0, 0])]
      · open Mine PySem.Calls PySem.Spec PySem.Challenge.cw_pk0039_01_holds in grind only [show E_s11012 P0 w (ktop_219 w.params) from fun c p t => ckG (unq [6,33,21,26,32,1,23,27,13,34,28,2,16,15] [0x14f3333cd777633014f3333cd777633014f3333a3014fc014f014f013f9013f99013f900af1100bf011f011fd1ddee600ef007f009f,0xcdbbb64494444cdbbb6449444402cf49c9900bf00cf012f012f777019f33014f3333016f016f016f016f7cd777633,0x1111111111111111111011f011f88888012f00cf005fc00afe01ff801ff8c801ff8007f012f012f012fbbb01ef44944448888b,0x2111212121112aa555612111212121112a1aa6aa61111112121111111111,0x12121112e111008f007fee6555612111212121112a555612111212121112a55561,0xe5556121112] [.p [] (fun al tau => pNeS ((St [p.c0, p.c1, p.c2, p.c3])) ((p.ft)) ((St [p.c0, p.c1, p.c2, p.c3])) ((p.ft)) false (ne_str _))]) [18, 17, 22, 2, 3, 12, 21, 20] [13, 11, 15, 18, 16, 20, 23] (fun ts => [nthN ts 0, nthN ts 1, nthN ts 2, nthN ts 3, nthN ts 4, nthN ts 5, nthN ts 6, p.kt 1, p.kt 1, 1, 0, 0, 0])]
      · open Mine PySem.Calls PySem.Spec PySem.Challenge.cw_pk0039_01_holds in grind only [show E_s11013 P0 w (ktop_219 w.params) from fun c p t => ckG (unq [21,26,23,13,28,16,2,20,1,27,18,31,22,6] [0x8111176333911811117633391181111022f18788013f4013f44013f400afee00bf011f011f6e6600ff00ff900ef007f009f,0x7655592242222765559224222202cf2474400bf00cfbb333019f1181111dddd376333911,0xcacacaca7aca007fbbb55501ef2242222] []) [] [] (fun _ => [])]
      · open Mine PySem.Calls PySem.Spec PySem.Challenge.cw_pk0039_01_holds in grind only [show E_s11100 P0 w (ktop_219 w.params) from fun c p => ckG (unq [6,21,28,22,23,27,1,29,20,15,16,2,13,7] [0xcb5557229222244445cb55572292222022f29c99013fd013fdd013fd00af1100bf011f011fb1bbaa700efe009f,0x401af4e012f00cf012f012f555019f229222244445cb5557229222244445cb5557229222244445,0x1113818878871111113131111111111111111111111111111100cf005fc00afa01af401af4c,0x131113866671311131313111386667131113131311138866671311131313,0xa666713111313131113a111008feaa7666713111313] [.p [] (fun al tau => pNeS ((St [p.c0, p.c1, p.c2, p.c3])) ((p.ft)) ((St [p.c0, p.c1, p.c2, p.c3])) ((p.ft)) false (ne_str _))]) [13, 12, 17, 2, 3, 7, 16, 15] [11, 9, 13, 16, 14, 18, 21, 2] (fun ts => [nthN ts 0, nthN ts 1, nthN ts 2, nthN ts 3, nthN ts 4, nthN ts 5, nthN ts 6, p.dt, p.kt 0, 4, p.kt 1, p.kt 2, nthN ts 7])]
      · open Mine PySem.Calls PySem.Spec PySem.Challenge.cw_pk0039_01_holds in grind only [show E_s11101 P0 w (ktop_219 w.params) from fun c p t => ckG (unq [6,21,28,23,22,27,1,29,20,15,16,2,13,7] [0x55554cb44472292222cb44472292222022f29c99013fd013fdd013fd00af1100bf011f011fb1bbaa700efe009f,0x1af501af5c501af5e012f00cf012f012f444019f229222255554cb4447229222255554cb44472292222,0x313131113818878871111113131111111111111111111111111111100cf005fc00afa,0x113131311138666713111313131113866671311131313111388666713111,0xa666713111313131113a111008feaa76667131] [.p [] (fun al tau => pNeS ((St [p.c0, p.c1, p.c2, p.c3])) ((p.ft)) ((St [p.c0, p.c1, p.c2, p.c3])) ((p.ft)) false (ne_str _))]) [13, 12, 17, 2, 3, 7, 16, 15] [11, 9, 13, 16, 14, 18, 21, 2] (fun ts => [nthN ts 0, nthN ts 1, nthN ts 2, nthN ts 3, nthN ts 4, nthN ts 5, nthN ts 6, t, p.kt 1, 3, p.kt 2, nthN ts 7, 0])]
      · open Mine PySem.Calls PySem.Spec PySem.Challenge.cw_pk0039_01_holds in grind only [show E_s11102 P0 w (ktop_219 w.params) from fun c p t => ckG (unq [6,21,28,23,27,1,22,29,20,15,16,2,13,7] [0x92222cb44462292222cb44462292222022f29c99013fd013fdd013fd00af1100bf011f011fb1bbaa600efe009f,0xcf005fc00afa01af701af7c701af7e012f00cf012f012f444019f229222277774cb4446229222277774cb444622,0x131113131311138188688611111131311111111111111111111111111111,0x561311131313111385556131113131311138555613111313131113885556,0xa555613111313131113a111008feaa655] [.p [] (fun al tau => pNeS ((St [p.c0, p.c1, p.c2, p.c3])) ((p.ft)) ((St [p.c0, p.c1, p.c2, p.c3])) ((p.ft)) false (ne_str _))]) [13, 12, 17, 2, 3, 7, 16, 15] [11, 9, 13, 16, 14, 18, 21, 2] (fun ts => [nthN ts 0, nthN ts 1, nthN ts 2, nthN ts 3, nthN ts 4, nthN ts 5, nthN ts 6, t, p.kt 2, 2, nthN ts 7, 0, 0])]
      · open Mine PySem.Calls PySem.Spec PySem.Challenge.cw_pk0039_01_holds in grind only [show E_s11103 P0 w (ktop_219 w.params) from fun c p t => ckG (unq [6,21,28,23,27,1,29,20,22,15,16,2,13,7] [0x82222cb44462282222cb44462282222022f28c88013fd013fdd013fd00af1100bf011f011fb1bbaa600efe009f,0x1111100cf005fc00afa01af901af9c901af9e012f00cf012f012f444019f228222299994cb44462282222cb444622,0x755561311131313111371776776111111313111111111111111111111111,0xaa6555613111313131113755561311131313111375556131113131311137,0xa555613111313131113a111008fe] [.p [] (fun al tau => pNeS ((St [p.c0, p.c1, p.c2, p.c3])) ((p.ft)) ((St [p.c0, p.c1, p.c2, p.c3])) ((p.ft)) false (ne_str _))]) [13, 12, 17, 2, 3, 7, 16, 15] [11, 9, 13, 16, 14, 18, 21, 2] (fun ts => [nthN ts 0, nthN ts 1, nthN ts 2, nthN ts 3, nthN ts 4, nthN ts 5, nthN ts 6, t, nthN ts 7, 1, 0, 0, 0])]
      · open Mine PySem.Calls PySem.Spec PySem.Challenge.cw_pk0039_01_holds in grind only [show E_s11104 P0 w (ktop_219 w.params) from fun c p t => ckG (unq [21,23,20,16,2,22,1,26,13,6,19,18,7,15] [0x3111154222711311115422271131111022f13533b9b99b900afaa00bf011f011f4a44ee700efd009f,0x868686865686dc00cfcc222019f1131111542227113111154222711] []) [] [] (fun _ => [])]
      · open Mine PySem.Calls PySem.Spec PySem.Challenge.cw_pk0039_01_holds in grind only [show E_s11110 P0 w (ktop_219 w.params) from fun c p => ckG (unq [6,21,33,26,27,23,1,22,28,32,13,2,16,34] [0xcd666722014f222288886cd666722014f2222e2014fc014f014f013fb013fbb013fb00af1100bf011f011fd1dd00ff00ff700ef007f009f,0xbcbb00bf00cf012f012f666019f22014f222288886cd666722014f222288886cd666722014f222288886,0x444455559cd999744b444455559cd999744b444455559cd999744b444402cf4,0x1111111111111111111111111111011f011f55555012f00cf005fc00af00ff01ff501ff5c501ff5007f012f012f012f99901ef44b,0x113eaaa713111313131113eeaaa713111313131113e1ee7ee71111113131,0xaa71311131313111300ff111008f007f00ff00ff7aaa713111313131113eaaa713111313131,0xffa] [.p [] (fun al tau => pNeS ((St [p.c0, p.c1, p.c2, p.c3])) ((p.ft)) ((St [p.c0, p.c1, p.c2, p.c3])) ((p.ft)) false (ne_str _))]) [18, 17, 22, 2, 3, 12, 21, 20] [15, 13, 17, 20, 18, 22, 25] (fun ts => [nthN ts 0, nthN ts 1, nthN ts 2, nthN ts 3, nthN ts 4, nthN ts 5, nthN ts 6, p.kt 0, p.kt 0, 3, p.kt 1, p.kt 2, 0])]
      · open Mine PySem.Calls PySem.Spec PySem.Challenge.cw_pk0039_01_holds in grind only [show E_s11112 P0 w (ktop_219 w.params) from fun c p t => ckG (unq [6,21,33,26,23,27,1,32,28,13,2,16,34,20] [0xe2222bc555722e2222bc555722e2222d2ebee013fa013faa013fa00af1100bf011f011fc1cc00ff00ff700ef007f009f,0x744a444402cf4abaa00bf00cf012f012f555019f22e2222016f016f016f016f5bc555722e2222016f016f016f016f5bc555722,0xb601ff6007f012f012f012f99901ef44a444466669bc999744a444466669bc999744a4444bc999,0xd7dd711111131311111111111111111111111111111011f011f66666012f00cf005fb00af00ff01ff601ff6,0x888713111313131113d888713111313131113dd888713111313131113d1d,0xff88871311131313111300ff111008f007f00ff00ff7888713111313131113d] [.p [] (fun al tau => pNeS ((St [p.c0, p.c1, p.c2, p.c3])) ((p.ft)) ((St [p.c0, p.c1, p.c2, p.c3])) ((p.ft)) false (ne_str _))]) [18, 17, 22, 2, 3, 12, 21, 20] [15, 13, 17, 20, 18, 22, 25] (fun ts => [nthN ts 0, nthN ts 1, nthN ts 2, nthN ts 3, nthN ts 4, nthN ts 5, nthN ts 6, p.kt 1, p.kt 1, 2, p.kt 2, 0, 0])]
      · open Mine PySem.Calls PySem.Spec PySem.Challenge.cw_pk0039_01_holds in grind only [show E_s11113 P0 w (ktop_219 w.params) from fun c p t => ckG (unq [6,21,33,26,1,23,32,28,27,13,2,16,34,20] [0xe2222bc666522e2222bc666522e2222d2ebee013fa013faa013fa00af1100bf011f011fc1cc00ff00ff500ef007f009f,0xbc888544a444402cf4abaa00bf00cf012f012f666019f22e2222016f016f016f016f6bc666522e2222bc666522,0x12f00cf005fb00af00ff01ff901ff9b901ff9007f012f012f012f88801ef44a444499998bc888544a4444bc888544a4444,0x3131113d1dd5dd511111131311111111111111111111111111111011f011f99999,0x313131113d777513111313131113d777513111313131113dd77751311131,0xff77751311131313111300ff111008f007f00ff00ff5777513111] [.p [] (fun al tau => pNeS ((St [p.c0, p.c1, p.c2, p.c3])) ((p.ft)) ((St [p.c0, p.c1, p.c2, p.c3])) ((p.ft)) false (ne_str _))]) [18, 17, 22, 2, 3, 12, 21, 20] [15, 13, 17, 20, 18, 22, 25] (fun ts => [nthN ts 0, nthN ts 1, nthN ts 2, nthN ts 3, nthN ts 4, nthN ts 5, nthN ts 6, p.kt 2, p.kt 2, 1, 0, 0, 0])]
      · open Mine PySem.Calls PySem.Spec PySem.Challenge.cw_pk0039_01_holds in grind only [show E_s11114 P0 w (ktop_219 w.params) from fun c p t => ckG (unq [21,26,23,28,13,16,2,1,20,27,18,31,6,19] [0x9111176333811911117633381191111022f19799e5e55e500afdd00bf011f011f6d6600ff00ff800ef007f009f,0x52222764448225222202cf2575500bf00cfbb333019f1191111763338119111176333811,0xcacacaca7aca007fbbb44401ef2252222764448225222276444822] []) [] [] (fun _ => [])]
    · constructor
      · open Mine PySem.Calls PySem.Spec PySem.Challenge.cw_pk0039_01_holds in grind only [show E_r00001 P0 w (ktop_219 w.params) from fun S c p t => ckG (unq [6,18,29,19,1,10,28,24,2,21] [0x11142225111411142225005f00cf200bf166111611161116111611162122522522511,0x501ff33733333373333337333337977788888017f016f1009faa014f1441114111411141114,0x292292222522] [.p [0, 1, 5, 6, 7, 8, 9, 10] (fun al tau => mkCk (S.s00000 c p))]) [] [] (fun _ => [])]
      · open Mine PySem.Calls PySem.Spec PySem.Challenge.cw_pk0039_01_holds in grind only [show E_r00002 P0 w (ktop_219 w.params) from fun S c p t => ckG (unq [6,18,29,19,1,10,28,24,2,21] [0x11142225111411142225005f00cf200bf166111611161116111611162122522522511,0x501ff33733333373333337333337977788888017f016f1009faa014f1441114111411141114,0x292292222522] [.p [0, 1, 5, 6, 7, 8, 9, 10] (fun al tau => mkCk (S.s00000 c p))]) [] [] (fun _ => [])]
      · open Mine PySem.Calls PySem.Spec PySem.Challenge.cw_pk0039_01_holds in grind only [show E_r00003 P0 w (ktop_219 w.params) from fun S c p t => ckG (unq [6,18,29,19,1,10,28,24,2,21] [0x11142225111411142225005f00cf200bf166111611161116111611162122522522511,0x501ff33733333373333337333337977788888017f016f1009faa014f1441114111411141114,0x292292222522] [.p [0, 1, 5, 6, 7, 8, 9, 10] (fun al tau => mkCk (S.s00000 c p))]) [] [] (fun _ => [])]
      · open Mine PySem.Calls PySem.Spec PySem.Challenge.cw_pk0039_01_holds in grind only [show E_r00004 P0 w (ktop_219 w.params) from fun S c p t => ckG (unq [6,18,29,10,1,19,28,24,2,11,12,5,21] [0x11162225111611162225cb2a144111411141114111411142122522522511,0x501ff33733333373333337333337977788888017f016f1009fdd014f1661116111611161116,0x22225cb22a144111411141114111411142922225292292222522] [.p [0, 1, 5, 6, 7, 8, 9, 10] (fun al tau => mkCk (S.s00000 c p)), .p [0, 1, 5, 6, 7, 8, 9, 10] (fun al tau => mkCk (S.s00004 c p (tau 12)))]) [1, 2, 3, 4, 5, 6, 7, 8] [4, 5, 6, 7, 8, 9, 10, 11, 12, 13, 14, 15, 16] (idN 13)]
      · open Mine PySem.Calls PySem.Spec PySem.Challenge.cw_pk0039_01_holds in grind only [show E_r00011 P0 w (ktop_219 w.params) from fun S c p t => ckG (unq [6,18,10,1] [0x2224005f00cf200bf133111311131113111311132122422422411] [.p [0, 1, 5, 6, 7, 8, 9, 10] (fun al tau => mkCk (S.s00010 c p))]) [] [] (fun _ => [])]
      · open Mine PySem.Calls PySem.Spec PySem.Challenge.cw_pk0039_01_holds in grind only [show E_r00012 P0 w (ktop_219 w.params) from fun S c p t => ckG (unq [6,18,10,1] [0x2224005f00cf200bf133111311131113111311132122422422411] [.p [0, 1, 5, 6, 7, 8, 9, 10] (fun al tau => mkCk (S.s00010 c p))]) [] [] (fun _ => [])]
      · open Mine PySem.Calls PySem.Spec PySem.Challenge.cw_pk0039_01_holds in grind only [show E_r00013 P0 w (ktop_219 w.params) from fun S c p t => ckG (unq [6,18,10,1] [0x2224005f00cf200bf133111311131113111311132122422422411] [.p [0, 1, 5, 6, 7, 8, 9, 10] (fun al tau => mkCk (S.s00010 c p))]) [] [] (fun _ => [])]
      · open Mine PySem.Calls PySem.Spec PySem.Challenge.cw_pk0039_01_holds in grind only [show E_r00014 P0 w (ktop_219 w.params) from fun S c p t => ckG (unq [6,18,10,1] [0x2224005f00cf200bf133111311131113111311132122422422411] [.p [0, 1, 5, 6, 7, 8, 9, 10] (fun al tau => mkCk (S.s00010 c p))]) [] [] (fun _ => [])]
      · open Mine PySem.Calls PySem.Spec PySem.Challenge.cw_pk0039_01_holds in grind only [show E_r00101 P0 w (ktop_219 w.params) from fun S c p t => ckG (unq [6,18,29,19,1,10,28,24,2,21] [0x11142225111411142225005f00cf200bf166111611161116111611162122522522511,0x501ff33733333373333337333337977788888017f016f1009faa014f1441114111411141114,0x292292222522] [.p [0, 1, 5, 6, 7, 8, 9, 10] (fun al tau => mkCk (S.s00100 c p))]) [] [] (fun _ => [])]
      · open Mine PySem.Calls PySem.Spec PySem.Challenge.cw_pk0039_01_holds in grind only [show E_r00102 P0 w (ktop_219 w.params) from fun S c p t => ckG (unq [6,18,29,19,1,10,28,24,2,21] [0x11142225111411142225005f00cf200bf166111611161116111611162122522522511,0x501ff33733333373333337333337977788888017f016f1009faa014f1441114111411141114,0x292292222522] [.p [0, 1, 5, 6, 7, 8, 9, 10] (fun al tau => mkCk (S.s00100 c p))]) [] [] (fun _ => [])]
      · open Mine PySem.Calls PySem.Spec PySem.Challenge.cw_pk0039_01_holds in grind only [show E_r00103 P0 w (ktop_219 w.params) from fun S c p t => ckG (unq [6,18,29,42,10,1,19,32,28,41,2,24,37,11] [0x11172226111711172226005f00cf2e155111511151115111511152122622622611,0x601ff33933333393333339333339b999ccccc017f016f1009f015f015f014f1771117111711171117,0x2111811182226005f00cf22e155111511151115111511152b222262b22b2222622,0xa444444a444444a44444abaaaddddd024f023f1009f022f022f021f18811181118111811181118,0x2b2222622602cf44] [.p [0, 1, 5, 6, 7, 8, 9, 10] (fun al tau => mkCk (S.s00100 c p)), .p [0, 1, 5, 6, 7, 8, 9, 10] (fun al tau => mkCk (S.s00103 c p (tau 12)))]) [1, 2, 3, 4, 5, 6, 7, 8] [4, 5, 6, 7, 8, 9, 10, 11, 12, 13, 14, 15, 16] (idN 13)]
      · open Mine PySem.Calls PySem.Spec PySem.Challenge.cw_pk0039_01_holds in grind only [show E_r00104 P0 w (ktop_219 w.params) from fun S c p t => ckG (unq [6,18,10,29,42,1,19,32,2,28,41,24,37,11] [0x11172226111711172226005f00cf2e133111311131113111311132122622622611,0x601ff44a444444a444444a44444a9aaaccccc017f016f1009f015f015f014f1771117111711171117,0x2111811182226005f00cf22e133111311131113111311132922226292292222622,0xb555555b555555b55555b9bbbddddd024f023f1009f022f022f021f18811181118111811181118,0x22226005f00cf22e133111311131113111311132922226292292222622602cf55] [.p [0, 1, 5, 6, 7, 8, 9, 10] (fun al tau => mkCk (S.s00100 c p)), .p [0, 1, 5, 6, 7, 8, 9, 10] (fun al tau => mkCk (S.s00103 c p (tau 12))), .p [0, 1, 5, 6, 7, 8, 9, 10] (fun al tau => mkCk (S.s00104 c p (tau 33)))]) [14, 15, 16, 17, 18, 19, 20, 21] [25, 26, 27, 28, 29, 30, 31, 32, 33, 34, 35, 36, 37] (idN 13)]
      · open Mine PySem.Calls PySem.Spec PySem.Challenge.cw_pk0039_01_holds in grind only [show E_r00111 P0 w (ktop_219 w.params) from fun S c p t => ckG (unq [6,18,29,19,1,10,28,24,21,2] [0x11142225111411142225005f00cf200bf166111611161116111611162122522522511,0x501ff33733333373333337333337a77788888017f016f1009f99014f1441114111411141114,0x2a2222522] [.p [0, 1, 5, 6, 7, 8, 9, 10] (fun al tau => mkCk (S.s00110 c p))]) [] [] (fun _ => [])]
      · open Mine PySem.Calls PySem.Spec PySem.Challenge.cw_pk0039_01_holds in grind only [show E_r00112 P0 w (ktop_219 w.params) from fun S c p t => ckG (unq [6,18,29,19,1,10,28,24,21,2] [0x11142225111411142225005f00cf200bf166111611161116111611162122522522511,0x501ff33733333373333337333337a77788888017f016f1009f99014f1441114111411141114,0x2a2222522] [.p [0, 1, 5, 6, 7, 8, 9, 10] (fun al tau => mkCk (S.s00110 c p))]) [] [] (fun _ => [])]
      · open Mine PySem.Calls PySem.Spec PySem.Challenge.cw_pk0039_01_holds in grind only [show E_r00113 P0 w (ktop_219 w.params) from fun S c p t => ckG (unq [6,18,29,19,1,10,28,24,21,2] [0x11142225111411142225005f00cf200bf166111611161116111611162122522522511,0x501ff33733333373333337333337a77788888017f016f1009f99014f1441114111411141114,0x2a2222522] [.p [0, 1, 5, 6, 7, 8, 9, 10] (fun al tau => mkCk (S.s00110 c p))]) [] [] (fun _ => [])]
      · open Mine PySem.Calls PySem.Spec PySem.Challenge.cw_pk0039_01_holds in grind only [show E_r00114 P0 w (ktop_219 w.params) from fun S c p t => ckG (unq [6,18,29,10,1,19,28,24,2,11,12,5,21] [0x11162225111611162225cb2a144111411141114111411142122522522511,0x501ff33733333373333337333337977788888017f016f1009fdd014f1661116111611161116,0x22225cb22a1441114111411141114111422252922225292292222522] [.p [0, 1, 5, 6, 7, 8, 9, 10] (fun al tau => mkCk (S.s00110 c p)), .p [0, 1, 5, 6, 7, 8, 9, 10] (fun al tau => mkCk (S.s00114 c p (tau 25)))]) [1, 2, 3, 4, 5, 6, 7, 8] [4, 5, 6, 7, 8, 9, 10, 11, 12, 13, 14, 15, 16] (idN 13)]
      · open Mine PySem.Calls PySem.Spec PySem.Challenge.cw_pk0039_01_holds in grind only [show E_r01001 P0 w (ktop_219 w.params) from fun S c p t => ckG (unq [6,18,29,19,1,10,28,24,2,21] [0x11142225111411142225005f00cf200bf166111611161116111611162122522522511,0x501ff33733333373333337333337977788888017f016f1009faa014f1441114111411141114,0x292292222522] [.p [0, 1, 5, 6, 7, 8, 9, 10] (fun al tau => mkCk (S.s01000 c p))]) [] [] (fun _ => [])]
      · open Mine PySem.Calls PySem.Spec PySem.Challenge.cw_pk0039_01_holds in grind only [show E_r01002 P0 w (ktop_219 w.params) from fun S c p t => ckG (unq [6,18,29,42,10,1,19,32,28,41,2,24,37,11] [0x11172226111711172226005f00cf2e155111511151115111511152122622622611,0x601ff33933333393333339333339b999ccccc017f016f1009f015f015f014f1771117111711171117,0x2111811182226005f00cf22e155111511151115111511152b222262b22b2222622,0xa444444a444444a44444abaaaddddd024f023f1009f022f022f021f18811181118111811181118,0x2b2222622602cf44] [.p [0, 1, 5, 6, 7, 8, 9, 10] (fun al tau => mkCk (S.s01000 c p)), .p [0, 1, 5, 6, 7, 8, 9, 10] (fun al tau => mkCk (S.s01002 c p (tau 12)))]) [1, 2, 3, 4, 5, 6, 7, 8] [4, 5, 6, 7, 8, 9, 10, 11, 12, 13, 14, 15, 16] (idN 13)]
      · open Mine PySem.Calls PySem.Spec PySem.Challenge.cw_pk0039_01_holds in grind only [show E_r01003 P0 w (ktop_219 w.params) from fun S c p t => ckG (unq [6,18,29,42,10,1,19,32,28,2,41,24,37,11] [0x11172226111711172226005f00cf2e155111511151115111511152122622622611,0x601ff33933333393333339333339a999ccccc017f016f1009f015f015f014f1771117111711171117,0x2111811182226005f00cf22e155111511151115111511152a222262a22a2222622,0xb444444b444444b44444babbbddddd024f023f1009f022f022f021f18811181118111811181118,0x2a22a2222622602cf44] [.p [0, 1, 5, 6, 7, 8, 9, 10] (fun al tau => mkCk (S.s01000 c p)), .p [0, 1, 5, 6, 7, 8, 9, 10] (fun al tau => mkCk (S.s01002 c p (tau 12)))]) [1, 2, 3, 4, 5, 6, 7, 8] [4, 5, 6, 7, 8, 9, 10, 11, 12, 13, 14, 15, 16] (idN 13)]
      · open Mine PySem.Calls PySem.Spec PySem.Challenge.cw_pk0039_01_holds in grind only [show E_r01004 P0 w (ktop_219 w.params) from fun S c p t => ckG (unq [6,18,10,29,42,1,19,32,2,28,41,24,37,11] [0x11172226111711172226005f00cf2e133111311131113111311132122622622611,0x601ff44a444444a444444a44444a9aaaccccc017f016f1009f015f015f014f1771117111711171117,0x2111811182226005f00cf22e133111311131113111311132922226292292222622,0xb555555b555555b55555b9bbbddddd024f023f1009f022f022f021f18811181118111811181118,0x22226005f00cf22e133111311131113111311132922226292292222622602cf55] [.p [0, 1, 5, 6, 7, 8, 9, 10] (fun al tau => mkCk (S.s01000 c p)), .p [0, 1, 5, 6, 7, 8, 9, 10] (fun al tau => mkCk (S.s01002 c p (tau 12))), .p [0, 1, 5, 6, 7, 8, 9, 10] (fun al tau => mkCk (S.s01004 c p (tau 33)))]) [14, 15, 16, 17, 18, 19, 20, 21] [25, 26, 27, 28, 29, 30, 31, 32, 33, 34, 35, 36, 37] (idN 13)]
      · open Mine PySem.Calls PySem.Spec PySem.Challenge.cw_pk0039_01_holds in grind only [show E_r01011 P0 w (ktop_219 w.params) from fun S c p t => ckG (unq [6,18,29,19,1,10,28,24,21,2] [0x11142225111411142225005f00cf200bf166111611161116111611162122522522511,0x501ff33733333373333337333337a77788888017f016f1009f99014f1441114111411141114,0x2a2222522] [.p [0, 1, 5, 6, 7, 8, 9, 10] (fun al tau => mkCk (S.s01010 c p))]) [] [] (fun _ => [])]
      · open Mine PySem.Calls PySem.Spec PySem.Challenge.cw_pk0039_01_holds in grind only [show E_r01012 P0 w (ktop_219 w.params) from fun S c p t => ckG (unq [6,18,29,19,1,10,28,24,21,2] [0x11142225111411142225005f00cf200bf166111611161116111611162122522522511,0x501ff33733333373333337333337a77788888017f016f1009f99014f1441114111411141114,0x2a2222522] [.p [0, 1, 5, 6, 7, 8, 9, 10] (fun al tau => mkCk (S.s01010 c p))]) [] [] (fun _ => [])]
      · open Mine PySem.Calls PySem.Spec PySem.Challenge.cw_pk0039_01_holds in grind only [show E_r01013 P0 w (ktop_219 w.params) from fun S c p t => ckG (unq [6,18,29,10,1,19,28,24,2,11,12,5,21] [0x11162225111611162225cb2a144111411141114111411142122522522511,0x501ff33733333373333337333337977788888017f016f1009fdd014f1661116111611161116,0x22225cb22a1441114111411141114111422252922225292292222522] [.p [0, 1, 5, 6, 7, 8, 9, 10] (fun al tau => mkCk (S.s01010 c p)), .p [0, 1, 5, 6, 7, 8, 9, 10] (fun al tau => mkCk (S.s01013 c p (tau 25)))]) [1, 2, 3, 4, 5, 6, 7, 8] [4, 5, 6, 7, 8, 9, 10, 11, 12, 13, 14, 15, 16] (idN 13)]
      · open Mine PySem.Calls PySem.Spec PySem.Challenge.cw_pk0039_01_holds in grind only [show E_r01014 P0 w (ktop_219 w.params) from fun S c p t => ckG (unq [6,18,29,10,1,19,28,24,2,11,12,5,21] [0x11162225111611162225cb2a144111411141114111411142122522522511,0x501ff33733333373333337333337977788888017f016f1009fdd014f1661116111611161116,0x22225cb22a1441114111411141114111422252922225292292222522] [.p [0, 1, 5, 6, 7, 8, 9, 10] (fun al tau => mkCk (S.s01010 c p)), .p [0, 1, 5, 6, 7, 8, 9, 10] (fun al tau => mkCk (S.s01013 c p (tau 25)))]) [1, 2, 3, 4, 5, 6, 7, 8] [4, 5, 6, 7, 8, 9, 10, 11, 12, 13, 14, 15, 16] (idN 13)]
      · open Mine PySem.Calls PySem.Spec PySem.Challenge.cw_pk0039_01_holds in grind only [show E_r01101 P0 w (ktop_219 w.params) from fun S c p t => ckG (unq [6,18,29,19,1,10,28,24,2,21] [0x11142225111411142225005f00cf200bf166111611161116111611162122522522511,0x501ff33733333373333337333337977788888017f016f1009faa014f1441114111411141114,0x292292222522] [.p [0, 1, 5, 6, 7, 8, 9, 10] (fun al tau => mkCk (S.s01100 c p))]) [] [] (fun _ => [])]
      · open Mine PySem.Calls PySem.Spec PySem.Challenge.cw_pk0039_01_holds in grind only [show E_r01102 P0 w (ktop_219 w.params) from fun S c p t => ckG (unq [6,18,29,42,10,1,19,32,28,41,2,24,37,11] [0x11172226111711172226005f00cf2e155111511151115111511152122622622611,0x601ff33933333393333339333339b999ccccc017f016f1009f015f015f014f1771117111711171117,0x2111811182226005f00cf22e155111511151115111511152b222262b22b2222622,0xa444444a444444a44444abaaaddddd024f023f1009f022f022f021f18811181118111811181118,0x2b2222622602cf44] [.p [0, 1, 5, 6, 7, 8, 9, 10] (fun al tau => mkCk (S.s01100 c p)), .p [0, 1, 5, 6, 7, 8, 9, 10] (fun al tau => mkCk (S.s01102 c p (tau 12)))]) [1, 2, 3, 4, 5, 6, 7, 8] [4, 5, 6, 7, 8, 9, 10, 11, 12, 13, 14, 15, 16] (idN 13)]
      · open Mine PySem.Calls PySem.Spec PySem.Challenge.cw_pk0039_01_holds in grind only [show E_r01103 P0 w (ktop_219 w.params) from fun S c p t => ckG (unq [6,18,10,29,42,55,1,2,19,32,45,28,41,54] [0x11192227111911192227005f00cf200bf133111311131113111311132122722722711,0x701ff44c444444c444444c44444c8ccc018f018f018f018f018f017f016f1009f015f015f014f1991119111911191119,0x2111a111a2227005f00cf2200bf133111311131113111311132822227282282222722,0xd555555d555555d55555d8ddd025f025f025f025f025f024f023f1009f022f022f021f1aa111a111a111a111a111a,0xb111b2227005f00cf2200bf133111311131113111311132822227282282222722702cf55,0x666e666666e66666e8eee032f032f032f032f032f031f030f1009f02ff02ff02ef1bb111b111b111b111b111b2111,0x2822227227039f66e666] [.p [0, 1, 5, 6, 7, 8, 9, 10] (fun al tau => mkCk (S.s01100 c p)), .p [0, 1, 5, 6, 7, 8, 9, 10] (fun al tau => mkCk (S.s01102 c p (tau 12))), .p [0, 1, 5, 6, 7, 8, 9, 10] (fun al tau => mkCk (S.s01103 c p (tau 33)))]) [14, 15, 16, 17, 18, 19, 20, 21] [25, 26, 27, 28, 29, 30, 31, 32, 33, 34, 35, 36, 37] (idN 13)]
      · open Mine PySem.Calls PySem.Spec PySem.Challenge.cw_pk0039_01_holds in grind only [show E_r01104 P0 w (ktop_219 w.params) from fun S c p t => ckG (unq [6,18,10,29,42,55,1,2,19,32,45,28,41,54] [0x11192227111911192227005f00cf200bf133111311131113111311132122722722711,0x701ff44c444444c444444c44444c8ccc018f018f018f018f018f017f016f1009f015f015f014f1991119111911191119,0x2111a111a2227005f00cf2200bf133111311131113111311132822227282282222722,0xd555555d555555d55555d8ddd025f025f025f025f025f024f023f1009f022f022f021f1aa111a111a111a111a111a,0xb111b2227005f00cf2200bf133111311131113111311132822227282282222722702cf55,0x666e666666e66666e8eee032f032f032f032f032f031f030f1009f02ff02ff02ef1bb111b111b111b111b111b2111,0x22227005f00cf2200bf1331113111311131113111328222272822822227227039f66e666] [.p [0, 1, 5, 6, 7, 8, 9, 10] (fun al tau => mkCk (S.s01100 c p)), .p [0, 1, 5, 6, 7, 8, 9, 10] (fun al tau => mkCk (S.s01102 c p (tau 12))), .p [0, 1, 5, 6, 7, 8, 9, 10] (fun al tau => mkCk (S.s01103 c p (tau 33))), .p [0, 1, 5, 6, 7, 8, 9, 10] (fun al tau => mkCk (S.s01104 c p (tau 53)))]) [27, 28, 29, 30, 31, 32, 33, 34] [45, 46, 47, 48, 49, 50, 51, 52, 53, 54, 55, 56, 57] (idN 13)]
      · open Mine PySem.Calls PySem.Spec PySem.Challenge.cw_pk0039_01_holds in grind only [show E_r01111 P0 w (ktop_219 w.params) from fun S c p t => ckG (unq [6,18,29,19,1,10,28,24,21,2] [0x11142225111411142225005f00cf200bf166111611161116111611162122522522511,0x501ff33733333373333337333337a77788888017f016f1009f99014f1441114111411141114,0x2a2222522] [.p [0, 1, 5, 6, 7, 8, 9, 10] (fun al tau => mkCk (S.s01110 c p))]) [] [] (fun _ => [])]
      · open Mine PySem.Calls PySem.Spec PySem.Challenge.cw_pk0039_01_holds in grind only [show E_r01112 P0 w (ktop_219 w.params) from fun S c p t => ckG (unq [6,18,29,19,1,10,28,24,21,2] [0x11142225111411142225005f00cf200bf166111611161116111611162122522522511,0x501ff33733333373333337333337a77788888017f016f1009f99014f1441114111411141114,0x2a2222522] [.p [0, 1, 5, 6, 7, 8, 9, 10] (fun al tau => mkCk (S.s01110 c p))]) [] [] (fun _ => [])]
      · open Mine PySem.Calls PySem.Spec PySem.Challenge.cw_pk0039_01_holds in grind only [show E_r01113 P0 w (ktop_219 w.params) from fun S c p t => ckG (unq [6,18,29,42,10,1,19,32,28,41,2,24,37,11] [0x11172226111711172226005f00cf2e155111511151115111511152122622622611,0x601ff33933333393333339333339b999ccccc017f016f1009f015f015f014f1771117111711171117,0x811182226005f00cf22e1551115111511151115111522262b222262b22b2222622,0x444a444444a44444abaaaddddd024f023f1009f022f022f021f188111811181118111811182111,0x2b2222622602cf44a444] [.p [0, 1, 5, 6, 7, 8, 9, 10] (fun al tau => mkCk (S.s01110 c p)), .p [0, 1, 5, 6, 7, 8, 9, 10] (fun al tau => mkCk (S.s01113 c p (tau 25)))]) [1, 2, 3, 4, 5, 6, 7, 8] [4, 5, 6, 7, 8, 9, 10, 11, 12, 13, 14, 15, 16] (idN 13)]
      · open Mine PySem.Calls PySem.Spec PySem.Challenge.cw_pk0039_01_holds in grind only [show E_r01114 P0 w (ktop_219 w.params) from fun S c p t => ckG (unq [6,18,10,29,42,1,19,32,2,28,41,24,37,11] [0x11172226111711172226005f00cf2e133111311131113111311132122622622611,0x601ff44a444444a444444a44444a9aaaccccc017f016f1009f015f015f014f1771117111711171117,0x811182226005f00cf22e1331113111311131113111322262922226292292222622,0x555b555555b55555b9bbbddddd024f023f1009f022f022f021f188111811181118111811182111,0x6005f00cf22e1331113111311131113111322262922226292292222622602cf55b555,0x2222] [.p [0, 1, 5, 6, 7, 8, 9, 10] (fun al tau => mkCk (S.s01110 c p)), .p [0, 1, 5, 6, 7, 8, 9, 10] (fun al tau => mkCk (S.s01113 c p (tau 25))), .p [0, 1, 5, 6, 7, 8, 9, 10] (fun al tau => mkCk (S.s01114 c p (tau 48)))]) [14, 15, 16, 17, 18, 19, 20, 21] [28, 29, 30, 31, 32, 33, 34, 35, 36, 37, 38, 39, 40] (idN 13)]
      · open Mine PySem.Calls PySem.Spec PySem.Challenge.cw_pk0039_01_holds in grind only [show E_r10001 P0 w (ktop_219 w.params) from fun S c p t => ckG (unq [6,18,29,42,10,1,19,32,28,41,2,24,37,11] [0x11172226111711172226005f00cf2e155111511151115111511152122622622611,0x601ff33933333393333339333339b999ccccc017f016f1009f015f015f014f1771117111711171117,0x2111811182226005f00cf22e155111511151115111511152b222262b22b2222622,0xa444444a444444a44444abaaaddddd024f023f1009f022f022f021f18811181118111811181118,0x2b2222622602cf44] [.p [0, 1, 5, 6, 7, 8, 9, 10] (fun al tau => mkCk (S.s10000 c p)), .p [0, 1, 5, 6, 7, 8, 9, 10] (fun al tau => mkCk (S.s10001 c p (tau 12)))]) [1, 2, 3, 4, 5, 6, 7, 8] [4, 5, 6, 7, 8, 9, 10, 11, 12, 13, 14, 15, 16] (idN 13)]
      · open Mine PySem.Calls PySem.Spec PySem.Challenge.cw_pk0039_01_holds in grind only [show E_r10002 P0 w (ktop_219 w.params) from fun S c p t => ckG (unq [6,18,29,42,10,1,19,32,28,2,41,24,37,11] [0x11172226111711172226005f00cf2e155111511151115111511152122622622611,0x601ff33933333393333339333339a999ccccc017f016f1009f015f015f014f1771117111711171117,0x2111811182226005f00cf22e155111511151115111511152a222262a22a2222622,0xb444444b444444b44444babbbddddd024f023f1009f022f022f021f18811181118111811181118,0x2a22a2222622602cf44] [.p [0, 1, 5, 6, 7, 8, 9, 10] (fun al tau => mkCk (S.s10000 c p)), .p [0, 1, 5, 6, 7, 8, 9, 10] (fun al tau => mkCk (S.s10001 c p (tau 12)))]) [1, 2, 3, 4, 5, 6, 7, 8] [4, 5, 6, 7, 8, 9, 10, 11, 12, 13, 14, 15, 16] (idN 13)]
      · open Mine PySem.Calls PySem.Spec PySem.Challenge.cw_pk0039_01_holds in grind only [show E_r10003 P0 w (ktop_219 w.params) from fun S c p t => ckG (unq [6,18,29,42,10,1,19,32,28,2,41,24,37,11] [0x11172226111711172226005f00cf2e155111511151115111511152122622622611,0x601ff33933333393333339333339a999ccccc017f016f1009f015f015f014f1771117111711171117,0x2111811182226005f00cf22e155111511151115111511152a222262a22a2222622,0xb444444b444444b44444babbbddddd024f023f1009f022f022f021f18811181118111811181118,0x2a22a2222622602cf44] [.p [0, 1, 5, 6, 7, 8, 9, 10] (fun al tau => mkCk (S.s10000 c p)), .p [0, 1, 5, 6, 7, 8, 9, 10] (fun al tau => mkCk (S.s10001 c p (tau 12)))]) [1, 2, 3, 4, 5, 6, 7, 8] [4, 5, 6, 7, 8, 9, 10, 11, 12, 13, 14, 15, 16] (idN 13)]
      · open Mine PySem.Calls PySem.Spec PySem.Challenge.cw_pk0039_01_holds in grind only [show E_r10004 P0 w (ktop_219 w.params) from fun S c p t => ckG (unq [6,18,10,29,42,1,19,32,2,28,41,24,37,11] [0x11172226111711172226005f00cf2e133111311131113111311132122622622611,0x601ff44a444444a444444a44444a9aaaccccc017f016f1009f015f015f014f1771117111711171117,0x2111811182226005f00cf22e133111311131113111311132922226292292222622,0xb555555b555555b55555b9bbbddddd024f023f1009f022f022f021f18811181118111811181118,0x22226005f00cf22e133111311131113111311132922226292292222622602cf55] [.p [0, 1, 5, 6, 7, 8, 9, 10] (fun al tau => mkCk (S.s10000 c p)), .p [0, 1, 5, 6, 7, 8, 9, 10] (fun al tau => mkCk (S.s10001 c p (tau 12))), .p [0, 1, 5, 6, 7, 8, 9, 10] (fun al tau => mkCk (S.s10004 c p (tau 33)))]) [14, 15, 16, 17, 18, 19, 20, 21] [25, 26, 27, 28, 29, 30, 31, 32, 33, 34, 35, 36, 37] (idN 13)]
      · open Mine PySem.Calls PySem.Spec PySem.Challenge.cw_pk0039_01_holds in grind only [show E_r10011 P0 w (ktop_219 w.params) from fun S c p t => ckG (unq [6,18,29,19,1,10,28,24,21,2] [0x11142225111411142225005f00cf200bf166111611161116111611162122522522511,0x501ff33733333373333337333337a77788888017f016f1009f99014f1441114111411141114,0x2a2222522] [.p [0, 1, 5, 6, 7, 8, 9, 10] (fun al tau => mkCk (S.s10010 c p))]) [] [] (fun _ => [])]
      · open Mine PySem.Calls PySem.Spec PySem.Challenge.cw_pk0039_01_holds in grind only [show E_r10012 P0 w (ktop_219 w.params) from fun S c p t => ckG (unq [6,18,29,10,1,19,28,24,2,11,12,5,21] [0x11162225111611162225cb2a144111411141114111411142122522522511,0x501ff33733333373333337333337977788888017f016f1009fdd014f1661116111611161116,0x22225cb22a1441114111411141114111422252922225292292222522] [.p [0, 1, 5, 6, 7, 8, 9, 10] (fun al tau => mkCk (S.s10010 c p)), .p [0, 1, 5, 6, 7, 8, 9, 10] (fun al tau => mkCk (S.s10012 c p (tau 25)))]) [1, 2, 3, 4, 5, 6, 7, 8] [4, 5, 6, 7, 8, 9, 10, 11, 12, 13, 14, 15, 16] (idN 13)]
      · open Mine PySem.Calls PySem.Spec PySem.Challenge.cw_pk0039_01_holds in grind only [show E_r10013 P0 w (ktop_219 w.params) from fun S c p t => ckG (unq [6,18,29,10,1,19,28,24,2,11,12,5,21] [0x11162225111611162225cb2a144111411141114111411142122522522511,0x501ff33733333373333337333337977788888017f016f1009fdd014f1661116111611161116,0x22225cb22a1441114111411141114111422252922225292292222522] [.p [0, 1, 5, 6, 7, 8, 9, 10] (fun al tau => mkCk (S.s10010 c p)), .p [0, 1, 5, 6, 7, 8, 9, 10] (fun al tau => mkCk (S.s10012 c p (tau 25)))]) [1, 2, 3, 4, 5, 6, 7, 8] [4, 5, 6, 7, 8, 9, 10, 11, 12, 13, 14, 15, 16] (idN 13)]
      · open Mine PySem.Calls PySem.Spec PySem.Challenge.cw_pk0039_01_holds in grind only [show E_r10014 P0 w (ktop_219 w.params) from fun S c p t => ckG (unq [6,18,29,10,1,19,28,24,2,11,12,5,21] [0x11162225111611162225cb2a144111411141114111411142122522522511,0x501ff33733333373333337333337977788888017f016f1009fdd014f1661116111611161116,0x22225cb22a1441114111411141114111422252922225292292222522] [.p [0, 1, 5, 6, 7, 8, 9, 10] (fun al tau => mkCk (S.s10010 c p)), .p [0, 1, 5, 6, 7, 8, 9, 10] (fun al tau => mkCk (S.s10012 c p (tau 25)))]) [1, 2, 3, 4, 5, 6, 7, 8] [4, 5, 6, 7, 8, 9, 10, 11, 12, 13, 14, 15, 16] (idN 13)]
      · open Mine PySem.Calls PySem.Spec PySem.Challenge.cw_pk0039_01_holds in grind only [show E_r10101 P0 w (ktop_219 w.params) from fun S c p t => ckG (unq [6,18,29,42,10,1,19,32,28,41,2,24,37,11] [0x11172226111711172226005f00cf2e155111511151115111511152122622622611,0x601ff33933333393333339333339b999ccccc017f016f1009f015f015f014f1771117111711171117,0x2111811182226005f00cf22e155111511151115111511152b222262b22b2222622,0xa444444a444444a44444abaaaddddd024f023f1009f022f022f021f18811181118111811181118,0x2b2222622602cf44] [.p [0, 1, 5, 6, 7, 8, 9, 10] (fun al tau => mkCk (S.s10100 c p)), .p [0, 1, 5, 6, 7, 8, 9, 10] (fun al tau => mkCk (S.s10101 c p (tau 12)))]) [1, 2, 3, 4, 5, 6, 7, 8] [4, 5, 6, 7, 8, 9, 10, 11, 12, 13, 14, 15, 16] (idN 13)]
      · open Mine PySem.Calls PySem.Spec PySem.Challenge.cw_pk0039_01_holds in grind only [show E_r10102 P0 w (ktop_219 w.params) from fun S c p t => ckG (unq [6,18,29,42,10,1,19,32,28,2,41,24,37,11] [0x11172226111711172226005f00cf2e155111511151115111511152122622622611,0x601ff33933333393333339333339a999ccccc017f016f1009f015f015f014f1771117111711171117,0x2111811182226005f00cf22e155111511151115111511152a222262a22a2222622,0xb444444b444444b44444babbbddddd024f023f1009f022f022f021f18811181118111811181118,0x2a22a2222622602cf44] [.p [0, 1, 5, 6, 7, 8, 9, 10] (fun al tau => mkCk (S.s10100 c p)), .p [0, 1, 5, 6, 7, 8, 9, 10] (fun al tau => mkCk (S.s10101 c p (tau 12)))]) [1, 2, 3, 4, 5, 6, 7, 8] [4, 5, 6, 7, 8, 9, 10, 11, 12, 13, 14, 15, 16] (idN 13)]
      · open Mine PySem.Calls PySem.Spec PySem.Challenge.cw_pk0039_01_holds in grind only [show E_r10103 P0 w (ktop_219 w.params) from fun S c p t => ckG (unq [6,18,10,29,42,55,1,2,19,32,45,28,41,54] [0x11192227111911192227005f00cf200bf133111311131113111311132122722722711,0x701ff44c444444c444444c44444c8ccc018f018f018f018f018f017f016f1009f015f015f014f1991119111911191119,0x2111a111a2227005f00cf2200bf133111311131113111311132822227282282222722,0xd555555d555555d55555d8ddd025f025f025f025f025f024f023f1009f022f022f021f1aa111a111a111a111a111a,0xb111b2227005f00cf2200bf133111311131113111311132822227282282222722702cf55,0x666e666666e66666e8eee032f032f032f032f032f031f030f1009f02ff02ff02ef1bb111b111b111b111b111b2111,0x2822227227039f66e666] [.p [0, 1, 5, 6, 7, 8, 9, 10] (fun al tau => mkCk (S.s10100 c p)), .p [0, 1, 5, 6, 7, 8, 9, 10] (fun al tau => mkCk (S.s10101 c p (tau 12))), .p [0, 1, 5, 6, 7, 8, 9, 10] (fun al tau => mkCk (S.s10103 c p (tau 33)))]) [14, 15, 16, 17, 18, 19, 20, 21] [25, 26, 27, 28, 29, 30, 31, 32, 33, 34, 35, 36, 37] (idN 13)]
      · open Mine PySem.Calls PySem.Spec PySem.Challenge.cw_pk0039_01_holds in grind only [show E_r10104 P0 w (ktop_219 w.params) from fun S c p t => ckG (unq [6,18,10,29,42,55,1,2,19,32,45,28,41,54] [0x11192227111911192227005f00cf200bf133111311131113111311132122722722711,0x701ff44c444444c444444c44444c8ccc018f018f018f018f018f017f016f1009f015f015f014f1991119111911191119,0x2111a111a2227005f00cf2200bf133111311131113111311132822227282282222722,0xd555555d555555d55555d8ddd025f025f025f025f025f024f023f1009f022f022f021f1aa111a111a111a111a111a,0xb111b2227005f00cf2200bf133111311131113111311132822227282282222722702cf55,0x666e666666e66666e8eee032f032f032f032f032f031f030f1009f02ff02ff02ef1bb111b111b111b111b111b2111,0x22227005f00cf2200bf1331113111311131113111328222272822822227227039f66e666] [.p [0, 1, 5, 6, 7, 8, 9, 10] (fun al tau => mkCk (S.s10100 c p)), .p [0, 1, 5, 6, 7, 8, 9, 10] (fun al tau => mkCk (S.s10101 c p (tau 12))), .p [0, 1, 5, 6, 7, 8, 9, 10] (fun al tau => mkCk (S.s10103 c p (tau 33))), .p [0, 1, 5, 6, 7, 8, 9, 10] (fun al tau => mkCk (S.s10104 c p (tau 53)))]) [27, 28, 29, 30, 31, 32, 33, 34] [45, 46, 47, 48, 49, 50, 51, 52, 53, 54, 55, 56, 57] (idN 13)]
      · open Mine PySem.Calls PySem.Spec PySem.Challenge.cw_pk0039_01_holds in grind only [show E_r10111 P0 w (ktop_219 w.params) from fun S c p t => ckG (unq [6,18,29,19,1,10,28,24,21,2] [0x11142225111411142225005f00cf200bf166111611161116111611162122522522511,0x501ff33733333373333337333337a77788888017f016f1009f99014f1441114111411141114,0x2a2222522] [.p [0, 1, 5, 6, 7, 8, 9, 10] (fun al tau => mkCk (S.s10110 c p))]) [] [] (fun _ => [])]
      · open Mine PySem.Calls PySem.Spec PySem.Challenge.cw_pk0039_01_holds in grind only [show E_r10112 P0 w (ktop_219 w.params) from fun S c p t => ckG (unq [6,18,29,42,10,1,19,32,28,41,2,24,37,11] [0x11172226111711172226005f00cf2e155111511151115111511152122622622611,0x601ff33933333393333339333339b999ccccc017f016f1009f015f015f014f1771117111711171117,0x811182226005f00cf22e1551115111511151115111522262b222262b22b2222622,0x444a444444a44444abaaaddddd024f023f1009f022f022f021f188111811181118111811182111,0x2b2222622602cf44a444] [.p [0, 1, 5, 6, 7, 8, 9, 10] (fun al tau => mkCk (S.s10110 c p)), .p [0, 1, 5, 6, 7, 8, 9, 10] (fun al tau => mkCk (S.s10112 c p (tau 25)))]) [1, 2, 3, 4, 5, 6, 7, 8] [4, 5, 6, 7, 8, 9, 10, 11, 12, 13, 14, 15, 16] (idN 13)]
      · open Mine PySem.Calls PySem.Spec PySem.Challenge.cw_pk0039_01_holds in grind only [show E_r10113 P0 w (ktop_219 w.params) from fun S c p t => ckG (unq [6,18,29,42,10,1,19,32,28,41,2,24,37,11] [0x11172226111711172226005f00cf2e155111511151115111511152122622622611,0x601ff33933333393333339333339b999ccccc017f016f1009f015f015f014f1771117111711171117,0x811182226005f00cf22e1551115111511151115111522262b222262b22b2222622,0x444a444444a44444abaaaddddd024f023f1009f022f022f021f188111811181118111811182111,0x2b2222622602cf44a444] [.p [0, 1, 5, 6, 7, 8, 9, 10] (fun al tau => mkCk (S.s10110 c p)), .p [0, 1, 5, 6, 7, 8, 9, 10] (fun al tau => mkCk (S.s10112 c p (tau 25)))]) [1, 2, 3, 4, 5, 6, 7, 8] [4, 5, 6, 7, 8, 9, 10, 11, 12, 13, 14, 15, 16] (idN 13)]
      · open Mine PySem.Calls PySem.Spec PySem.Challenge.cw_pk0039_01_holds in grind only [show E_r10114 P0 w (ktop_219 w.params) from fun S c p t => ckG (unq [6,18,10,29,42,1,19,32,2,28,41,24,37,11] [0x11172226111711172226005f00cf2e133111311131113111311132122622622611,0x601ff44a444444a444444a44444a9aaaccccc017f016f1009f015f015f014f1771117111711171117,0x811182226005f00cf22e1331113111311131113111322262922226292292222622,0x555b555555b55555b9bbbddddd024f023f1009f022f022f021f188111811181118111811182111,0x6005f00cf22e1331113111311131113111322262922226292292222622602cf55b555,0x2222] [.p [0, 1, 5, 6, 7, 8, 9, 10] (fun al tau => mkCk (S.s10110 c p)), .p [0, 1, 5, 6, 7, 8, 9, 10] (fun al tau => mkCk (S.s10112 c p (tau 25))), .p [0, 1, 5, 6, 7, 8, 9, 10] (fun al tau => mkCk (S.s10114 c p (tau 48)))]) [14, 15, 16, 17, 18, 19, 20, 21] [28, 29, 30, 31, 32, 33, 34, 35, 36, 37, 38, 39, 40] (idN 13)]
      · open Mine PySem.Calls PySem.Spec PySem.Challenge.cw_pk0039_01_holds in grind only [show E_r11001 P0 w (ktop_219 w.params) from fun S c p t => ckG (unq [6,18,29,42,10,1,19,32,28,41,2,24,37,11] [0x11172226111711172226005f00cf2e155111511151115111511152122622622611,0x601ff33933333393333339333339b999ccccc017f016f1009f015f015f014f1771117111711171117,0x2111811182226005f00cf22e155111511151115111511152b222262b22b2222622,0xa444444a444444a44444abaaaddddd024f023f1009f022f022f021f18811181118111811181118,0x2b2222622602cf44] [.p [0, 1, 5, 6, 7, 8, 9, 10] (fun al tau => mkCk (S.s11000 c p)), .p [0, 1, 5, 6, 7, 8, 9, 10] (fun al tau => mkCk (S.s11001 c p (tau 12)))]) [1, 2, 3, 4, 5, 6, 7, 8] [4, 5, 6, 7, 8, 9, 10, 11, 12, 13, 14, 15, 16] (idN 13)]
      · open Mine PySem.Calls PySem.Spec PySem.Challenge.cw_pk0039_01_holds in grind only [show E_r11002 P0 w (ktop_219 w.params) from fun S c p t => ckG (unq [6,18,10,29,42,55,1,2,19,32,45,28,41,54] [0x11192227111911192227005f00cf200bf133111311131113111311132122722722711,0x701ff44c444444c444444c44444c8ccc018f018f018f018f018f017f016f1009f015f015f014f1991119111911191119,0x2111a111a2227005f00cf2200bf133111311131113111311132822227282282222722,0xd555555d555555d55555d8ddd025f025f025f025f025f024f023f1009f022f022f021f1aa111a111a111a111a111a,0xb111b2227005f00cf2200bf133111311131113111311132822227282282222722702cf55,0x666e666666e66666e8eee032f032f032f032f032f031f030f1009f02ff02ff02ef1bb111b111b111b111b111b2111,0x2822227227039f66e666] [.p [0, 1, 5, 6, 7, 8, 9, 10] (fun al tau => mkCk (S.s11000 c p)), .p [0, 1, 5, 6, 7, 8, 9, 10] (fun al tau => mkCk (S.s11001 c p (tau 12))), .p [0, 1, 5, 6, 7, 8, 9, 10] (fun al tau => mkCk (S.s11002 c p (tau 33)))]) [14, 15, 16, 17, 18, 19, 20, 21] [25, 26, 27, 28, 29, 30, 31, 32, 33, 34, 35, 36, 37] (idN 13)]
      · open Mine PySem.Calls PySem.Spec PySem.Challenge.cw_pk0039_01_holds in grind only [show E_r11003 P0 w (ktop_219 w.params) from fun S c p t => ckG (unq [6,18,10,29,42,55,1,2,19,32,45,28,41,54] [0x11192227111911192227005f00cf200bf133111311131113111311132122722722711,0x701ff44c444444c444444c44444c8ccc018f018f018f018f018f017f016f1009f015f015f014f1991119111911191119,0x2111a111a2227005f00cf2200bf133111311131113111311132822227282282222722,0xd555555d555555d55555d8ddd025f025f025f025f025f024f023f1009f022f022f021f1aa111a111a111a111a111a,0xb111b2227005f00cf2200bf133111311131113111311132822227282282222722702cf55,0x666e666666e66666e8eee032f032f032f032f032f031f030f1009f02ff02ff02ef1bb111b111b111b111b111b2111,0x2822822227227039f66e666] [.p [0, 1, 5, 6, 7, 8, 9, 10] (fun al tau => mkCk (S.s11000 c p)), .p [0, 1, 5, 6, 7, 8, 9, 10] (fun al tau => mkCk (S.s11001 c p (tau 12))), .p [0, 1, 5, 6, 7, 8, 9, 10] (fun al tau => mkCk (S.s11002 c p (tau 33)))]) [14, 15, 16, 17, 18, 19, 20, 21] [25, 26, 27, 28, 29, 30, 31, 32, 33, 34, 35, 36, 37] (idN 13)]
      · open Mine PySem.Calls PySem.Spec PySem.Challenge.cw_pk0039_01_holds in grind only [show E_r11004 P0 w (ktop_219 w.params) from fun S c p t => ckG (unq [6,18,10,29,42,55,1,2,19,32,45,28,41,54] [0x11192227111911192227005f00cf200bf133111311131113111311132122722722711,0x701ff44c444444c444444c44444c8ccc018f018f018f018f018f017f016f1009f015f015f014f1991119111911191119,0x2111a111a2227005f00cf2200bf133111311131113111311132822227282282222722,0xd555555d555555d55555d8ddd025f025f025f025f025f024f023f1009f022f022f021f1aa111a111a111a111a111a,0xb111b2227005f00cf2200bf133111311131113111311132822227282282222722702cf55,0x666e666666e66666e8eee032f032f032f032f032f031f030f1009f02ff02ff02ef1bb111b111b111b111b111b2111,0x22227005f00cf2200bf1331113111311131113111328222272822822227227039f66e666] [.p [0, 1, 5, 6, 7, 8, 9, 10] (fun al tau => mkCk (S.s11000 c p)), .p [0, 1, 5, 6, 7, 8, 9, 10] (fun al tau => mkCk (S.s11001 c p (tau 12))), .p [0, 1, 5, 6, 7, 8, 9, 10] (fun al tau => mkCk (S.s11002 c p (tau 33))), .p [0, 1, 5, 6, 7, 8, 9, 10] (fun al tau => mkCk (S.s11004 c p (tau 53)))]) [27, 28, 29, 30, 31, 32, 33, 34] [45, 46, 47, 48, 49, 50, 51, 52, 53, 54, 55, 56, 57] (idN 13)]
      · open Mine PySem.Calls PySem.Spec PySem.Challenge.cw_pk0039_01_holds in grind only [show E_r11011 P0 w (ktop_219 w.params) from fun S c p t => ckG (unq [6,18,29,19,1,10,28,24,21,2] [0x11142225111411142225005f00cf200bf166111611161116111611162122522522511,0x501ff33733333373333337333337a77788888017f016f1009f99014f1441114111411141114,0x2a2222522] [.p [0, 1, 5, 6, 7, 8, 9, 10] (fun al tau => mkCk (S.s11010 c p))]) [] [] (fun _ => [])]
      · open Mine PySem.Calls PySem.Spec PySem.Challenge.cw_pk0039_01_holds in grind only [show E_r11012 P0 w (ktop_219 w.params) from fun S c p t => ckG (unq [6,18,29,42,10,1,19,32,28,41,2,24,37,11] [0x11172226111711172226005f00cf2e155111511151115111511152122622622611,0x601ff33933333393333339333339b999ccccc017f016f1009f015f015f014f1771117111711171117,0x811182226005f00cf22e1551115111511151115111522262b222262b22b2222622,0x444a444444a44444abaaaddddd024f023f1009f022f022f021f188111811181118111811182111,0x2b2222622602cf44a444] [.p [0, 1, 5, 6, 7, 8, 9, 10] (fun al tau => mkCk (S.s11010 c p)), .p [0, 1, 5, 6, 7, 8, 9, 10] (fun al tau => mkCk (S.s11012 c p (tau 25)))]) [1, 2, 3, 4, 5, 6, 7, 8] [4, 5, 6, 7, 8, 9, 10, 11, 12, 13, 14, 15, 16] (idN 13)]
      · open Mine PySem.Calls PySem.Spec PySem.Challenge.cw_pk0039_01_holds in grind only [show E_r11013 P0 w (ktop_219 w.params) from fun S c p t => ckG (unq [6,18,10,29,42,1,19,32,2,28,41,24,37,11] [0x11172226111711172226005f00cf2e133111311131113111311132122622622611,0x601ff44a444444a444444a44444a9aaaccccc017f016f1009f015f015f014f1771117111711171117,0x811182226005f00cf22e1331113111311131113111322262922226292292222622,0x555b555555b55555b9bbbddddd024f023f1009f022f022f021f188111811181118111811182111,0x6005f00cf22e1331113111311131113111322262922226292292222622602cf55b555,0x2222] [.p [0, 1, 5, 6, 7, 8, 9, 10] (fun al tau => mkCk (S.s11010 c p)), .p [0, 1, 5, 6, 7, 8, 9, 10] (fun al tau => mkCk (S.s11012 c p (tau 25))), .p [0, 1, 5, 6, 7, 8, 9, 10] (fun al tau => mkCk (S.s11013 c p (tau 48)))]) [14, 15, 16, 17, 18, 19, 20, 21] [28, 29, 30, 31, 32, 33, 34, 35, 36, 37, 38, 39, 40] (idN 13)]
      · open Mine PySem.Calls PySem.Spec PySem.Challenge.cw_pk0039_01_holds in grind only [show E_r11014 P0 w (ktop_219 w.params) from fun S c p t => ckG (unq [6,18,10,29,42,1,19,32,2,28,41,24,37,11] [0x11172226111711172226005f00cf2e133111311131113111311132122622622611,0x601ff44a444444a444444a44444a9aaaccccc017f016f1009f015f015f014f1771117111711171117,0x811182226005f00cf22e1331113111311131113111322262922226292292222622,0x555b555555b55555b9bbbddddd024f023f1009f022f022f021f188111811181118111811182111,0x6005f00cf22e1331113111311131113111322262922226292292222622602cf55b555,0x2222] [.p [0, 1, 5, 6, 7, 8, 9, 10] (fun al tau => mkCk (S.s11010 c p)), .p [0, 1, 5, 6, 7, 8, 9, 10] (fun al tau => mkCk (S.s11012 c p (tau 25))), .p [0, 1, 5, 6, 7, 8, 9, 10] (fun al tau => mkCk (S.s11013 c p (tau 48)))]) [14, 15, 16, 17, 18, 19, 20, 21] [28, 29, 30, 31, 32, 33, 34, 35, 36, 37, 38, 39, 40] (idN 13)]
      · open Mine PySem.Calls PySem.Spec PySem.Challenge.cw_pk0039_01_holds in grind only [show E_r11101 P0 w (ktop_219 w.params) from fun S c p t => ckG (unq [6,18,29,42,10,1,19,32,28,41,2,24,37,11] [0x11172226111711172226005f00cf2e155111511151115111511152122622622611,0x601ff33933333393333339333339b999ccccc017f016f1009f015f015f014f1771117111711171117,0x2111811182226005f00cf22e155111511151115111511152b222262b22b2222622,0xa444444a444444a44444abaaaddddd024f023f1009f022f022f021f18811181118111811181118,0x2b2222622602cf44] [.p [0, 1, 5, 6, 7, 8, 9, 10] (fun al tau => mkCk (S.s11100 c p)), .p [0, 1, 5, 6, 7, 8, 9, 10] (fun al tau => mkCk (S.s11101 c p (tau 12)))]) [1, 2, 3, 4, 5, 6, 7, 8] [4, 5, 6, 7, 8, 9, 10, 11, 12, 13, 14, 15, 16] (idN 13)]
      · open Mine PySem.Calls PySem.Spec PySem.Challenge.cw_pk0039_01_holds in grind only [show E_r11102 P0 w (ktop_219 w.params) from fun S c p t => ckG (unq [6,18,10,29,42,55,1,2,19,32,45,28,41,54] [0x11192227111911192227005f00cf200bf133111311131113111311132122722722711,0x701ff44c444444c444444c44444c8ccc018f018f018f018f018f017f016f1009f015f015f014f1991119111911191119,0x2111a111a2227005f00cf2200bf133111311131113111311132822227282282222722,0xd555555d555555d55555d8ddd025f025f025f025f025f024f023f1009f022f022f021f1aa111a111a111a111a111a,0xb111b2227005f00cf2200bf133111311131113111311132822227282282222722702cf55,0x666e666666e66666e8eee032f032f032f032f032f031f030f1009f02ff02ff02ef1bb111b111b111b111b111b2111,0x2822227227039f66e666] [.p [0, 1, 5, 6, 7, 8, 9, 10] (fun al tau => mkCk (S.s11100 c p)), .p [0, 1, 5, 6, 7, 8, 9, 10] (fun al tau => mkCk (S.s11101 c p (tau 12))), .p [0, 1, 5, 6, 7, 8, 9, 10] (fun al tau => mkCk (S.s11102 c p (tau 33)))]) [14, 15, 16, 17, 18, 19, 20, 21] [25, 26, 27, 28, 29, 30, 31, 32, 33, 34, 35, 36, 37] (idN 13)]
      · open Mine PySem.Calls PySem.Spec PySem.Challenge.cw_pk0039_01_holds in grind only [show E_r11103 P0 w (ktop_219 w.params) from fun S c p t => ckG (unq [6,18,10,1,29,42,55,68,2,19,32,45,58,28] [0x111a2224111a111a2224005f00cf200bf133111311131113111311132122422422411,0x401ff55e555555e555555e55555e9eee018f018f018f018f018f017f016f1009f015f015f014f1aa111a111a111a111a,0x2111b111b2224005f00cf2200bf133111311131113111311132922224292292222422,0x29f666666029f666666029f66666029f9029f029f029f025f025f025f025f025f024f023f1009f022f022f021f1bb111b111b111b111b111b,0xc111c2224005f00cf2200bf133111311131113111311132922224292292222422402cf66,0x777036f777777036f77777036f9036f036f036f032f032f032f032f032f031f030f1009f02ff02ff02ef1cc111c111c111c111c111c2111,0xd2224005f00cf2200bf1331113111311131113111329222242922922224224039f77036f777,0x888888043f88888043f9043f043f043f03ff03ff03ff03ff03ff03ef03df1009f03cf03cf03bf1dd111d111d111d111d111d2111d111,0x2922224224046f88043f888888043f] [.p [0, 1, 5, 6, 7, 8, 9, 10] (fun al tau => mkCk (S.s11100 c p)), .p [0, 1, 5, 6, 7, 8, 9, 10] (fun al tau => mkCk (S.s11101 c p (tau 12))), .p [0, 1, 5, 6, 7, 8, 9, 10] (fun al tau => mkCk (S.s11102 c p (tau 33))), .p [0, 1, 5, 6, 7, 8, 9, 10] (fun al tau => mkCk (S.s11103 c p (tau 53)))]) [27, 28, 29, 30, 31, 32, 33, 34] [45, 46, 47, 48, 49, 50, 51, 52, 53, 54, 55, 56, 57] (idN 13)]
      · open Mine PySem.Calls PySem.Spec PySem.Challenge.cw_pk0039_01_holds in grind only [show E_r11104 P0 w (ktop_219 w.params) from fun S c p t => ckG (unq [6,18,10,1,29,42,55,68,2,19,32,45,58,28] [0x111a2224111a111a2224005f00cf200bf133111311131113111311132122422422411,0x401ff55e555555e555555e55555e9eee018f018f018f018f018f017f016f1009f015f015f014f1aa111a111a111a111a,0x2111b111b2224005f00cf2200bf133111311131113111311132922224292292222422,0x29f666666029f666666029f66666029f9029f029f029f025f025f025f025f025f024f023f1009f022f022f021f1bb111b111b111b111b111b,0xc111c2224005f00cf2200bf133111311131113111311132922224292292222422402cf66,0x777036f777777036f77777036f9036f036f036f032f032f032f032f032f031f030f1009f02ff02ff02ef1cc111c111c111c111c111c2111,0xd2224005f00cf2200bf1331113111311131113111329222242922922224224039f77036f777,0x888888043f88888043f9043f043f043f03ff03ff03ff03ff03ff03ef03df1009f03cf03cf03bf1dd111d111d111d111d111d2111d111,0x4005f00cf2200bf1331113111311131113111329222242922922224224046f88043f888888043f,0x2222] [.p [0, 1, 5, 6, 7, 8, 9, 10] (fun al tau => mkCk (S.s11100 c p)), .p [0, 1, 5, 6, 7, 8, 9, 10] (fun al tau => mkCk (S.s11101 c p (tau 12))), .p [0, 1, 5, 6, 7, 8, 9, 10] (fun al tau => mkCk (S.s11102 c p (tau 33))), .p [0, 1, 5, 6, 7, 8, 9, 10] (fun al tau => mkCk (S.s11103 c p (tau 53))), .p [0, 1, 5, 6, 7, 8, 9, 10] (fun al tau => mkCk (S.s11104 c p (tau 73)))]) [40, 41, 42, 43, 44, 45, 46, 47] [65, 66, 67, 68, 69, 70, 71, 72, 73, 74, 75, 76, 77] (idN 13)]
      · open Mine PySem.Calls PySem.Spec PySem.Challenge.cw_pk0039_01_holds in grind only [show E_r11111 P0 w (ktop_219 w.params) from fun S c p t => ckG (unq [6,18,29,19,1,10,28,24,21,2] [0x11142225111411142225005f00cf200bf166111611161116111611162122522522511,0x501ff33733333373333337333337a77788888017f016f1009f99014f1441114111411141114,0x2a2222522] [.p [0, 1, 5, 6, 7, 8, 9, 10] (fun al tau => mkCk (S.s11110 c p))]) [] [] (fun _ => [])]
      · open Mine PySem.Calls PySem.Spec PySem.Challenge.cw_pk0039_01_holds in grind only [show E_r11112 P0 w (ktop_219 w.params) from fun S c p t => ckG (unq [6,18,29,42,10,1,19,32,28,41,2,24,37,11] [0x11172226111711172226005f00cf2e155111511151115111511152122622622611,0x601ff33933333393333339333339b999ccccc017f016f1009f015f015f014f1771117111711171117,0x811182226005f00cf22e1551115111511151115111522262b222262b22b2222622,0x444a444444a44444abaaaddddd024f023f1009f022f022f021f188111811181118111811182111,0x2b2222622602cf44a444] [.p [0, 1, 5, 6, 7, 8, 9, 10] (fun al tau => mkCk (S.s11110 c p)), .p [0, 1, 5, 6, 7, 8, 9, 10] (fun al tau => mkCk (S.s11112 c p (tau 25)))]) [1, 2, 3, 4, 5, 6, 7, 8] [4, 5, 6, 7, 8, 9, 10, 11, 12, 13, 14, 15, 16] (idN 13)]
      · open Mine PySem.Calls PySem.Spec PySem.Challenge.cw_pk0039_01_holds in grind only [show E_r11113 P0 w (ktop_219 w.params) from fun S c p t => ckG (unq [6,18,10,29,42,55,1,2,19,32,45,28,41,54] [0x11192227111911192227005f00cf200bf133111311131113111311132122722722711,0x701ff44c444444c444444c44444c8ccc018f018f018f018f018f017f016f1009f015f015f014f1991119111911191119,0xa111a2227005f00cf2200bf1331113111311131113111322272822227282282222722,0x555d555555d55555d8ddd025f025f025f025f025f024f023f1009f022f022f021f1aa111a111a111a111a111a2111,0x7005f00cf2200bf1331113111311131113111322272822227282282222722702cf55d555,0x66e66666e8eee032f032f032f032f032f031f030f1009f02ff02ff02ef1bb111b111b111b111b111b2111b111b222,0x2822227227039f66e666666e6666] [.p [0, 1, 5, 6, 7, 8, 9, 10] (fun al tau => mkCk (S.s11110 c p)), .p [0, 1, 5, 6, 7, 8, 9, 10] (fun al tau => mkCk (S.s11112 c p (tau 25))), .p [0, 1, 5, 6, 7, 8, 9, 10] (fun al tau => mkCk (S.s11113 c p (tau 48)))]) [14, 15, 16, 17, 18, 19, 20, 21] [28, 29, 30, 31, 32, 33, 34, 35, 36, 37, 38, 39, 40] (idN 13)]
      · open Mine PySem.Calls PySem.Spec PySem.Challenge.cw_pk0039_01_holds in grind only [show E_r11114 P0 w (ktop_219 w.params) from fun S c p t => ckG (unq [6,18,10,1,29,42,55,2,19,32,45,28,41,54] [0x11192224111911192224005f00cf200bf133111311131113111311132122422422411,0x401ff55c555555c555555c55555c8ccc018f018f018f018f018f017f016f1009f015f015f014f1991119111911191119,0xa111a2224005f00cf2200bf1331113111311131113111322242822224282282222422,0x666d666666d66666d8ddd025f025f025f025f025f024f023f1009f022f022f021f1aa111a111a111a111a111a2111,0x4005f00cf2200bf1331113111311131113111322242822224282282222422402cf66d666,0x77e77777e8eee032f032f032f032f032f031f030f1009f02ff02ff02ef1bb111b111b111b111b111b2111b111b222,0x311131113111311131113222428222242822822224224039f77e777777e7777,0x22224005f00cf2200bf13] [.p [0, 1, 5, 6, 7, 8, 9, 10] (fun al tau => mkCk (S.s11110 c p)), .p [0, 1, 5, 6, 7, 8, 9, 10] (fun al tau => mkCk (S.s11112 c p (tau 25))), .p [0, 1, 5, 6, 7, 8, 9, 10] (fun al tau => mkCk (S.s11113 c p (tau 48))), .p [0, 1, 5, 6, 7, 8, 9, 10] (fun al tau => mkCk (S.s11114 c p (tau 71)))]) [27, 28, 29, 30, 31, 32, 33, 34] [51, 52, 53, 54, 55, 56, 57, 58, 59, 60, 61, 62, 63] (idN 13)]
    · constructor
      · open Mine PySem.Calls PySem.Spec PySem.Challenge.cw_pk0039_01_holds in grind only [show E_kzN00 P0 w (ktop_219 w.params) from fun c p b cuts q r col x y t hcol hr hc hx hy hd1 hd2 S hm H => ckG (unq [7,8,1,5,2,6] [0x41131451113411154003f11113411113111113461116113451113222222222] [.p [] (fun al tau => pEqI ((col)) ((t 0)) ((0)) (tau 2) false hcol), .p [2, 3, 4, 5, 6, 7, 8, 9, 10, 11, 12] (fun al tau => mkCk (S ((t 0)))), .p [] (fun al tau => pFdiv ((y)) ((t 2)) ((x)) ((t 1)) (Int.fdiv y x) hx hd1 rfl), .p [] (fun al tau => pStrI ((St [p.c0, p.c1, p.c2, p.c3])) ((p.ft)) ((col - 1)) (tau 11) 48 hr hc), .p [] (fun al tau => pMul (col - 0) (tau 6) x ((t 1)) hm), .p [] (fun al tau => pGtI ((0)) (tau 3) ((0)) (tau 17) false rfl), .a [0, 1, 2, 3, 4, 5, 6, 7, 8, 9, 10, 11, 12] (fun al tau => mkCk (H (nthN [(tau 1), (tau 4), (tau 5), 0, (tau 7), (tau 9)]) (nthN [(tau 3), (t 1), (tau 15), (tau 0), (tau 3), 0, 0, (tau 6), (tau 8)])))]) [] [19, 20, 21, 22, 23, 24, 25, 26, 27, 1, 4, 5, 7, 9] (fun ts => [nthN ts 0, nthN ts 1, nthN ts 2, nthN ts 3, nthN ts 4, nthN ts 5, nthN ts 6, nthN ts 7, nthN ts 8, nthN ts 9, nthN ts 10, nthN ts 11, 0, nthN ts 12, nthN ts 13])]
      · open Mine PySem.Calls PySem.Spec PySem.Challenge.cw_pk0039_01_holds in grind only [show E_kzE00 P0 w (ktop_219 w.params) from fun c p b cuts q r col x y t hcol hr hc hx hy hd1 hd2 I rs S hgt hlt hbg hm H => ckG (unq [7,6,30,5,8,1,2,20,29,25,22] [0xa018f017f200bfbb015f2882228222822282228222811116421112116471116555555555,0x1164111161147114714711116116020f339333333933333393333397999aaaa,0x41161471116411174003f11] [.p [] (fun al tau => pEqI ((col)) ((t 0)) ((0)) (tau 2) false hcol), .p [2, 3, 4, 5, 6, 7, 8, 9, 10, 11, 12] (fun al tau => mkCk (S ((t 0)))), .p [] (fun al tau => pGtI col (tau 13) col ((t 0)) false hgt), .p [] (fun al tau => pEqI ((0)) (tau 0) ((0)) (tau 23) true rfl), .p [] (fun al tau => pLtI col (tau 13) col ((t 0)) false hlt), .p [] (fun al tau => pFdiv ((y)) ((t 2)) ((x)) ((t 1)) (Int.fdiv y x) hx hd1 rfl), .p [] (fun al tau => pStrI ((St [p.c0, p.c1, p.c2, p.c3])) ((p.ft)) ((col - 1)) (tau 29) 48 hr hc), .p [] (fun al tau => pMul (col - I) (tau 24) x ((t 1)) hm), .p [] (fun al tau => pGtI I (tau 12) 0 (tau 35) false hbg), .a [0, 1, 2, 3, 4, 5, 6, 7, 8, 9, 10, 11, 12] (fun al tau => mkCk (H (nthN [(tau 1), (tau 4), (tau 18), (tau 22), (tau 25), (tau 27)]) (nthN [(tau 12), (t 1), (tau 33), (tau 0), (tau 12), 0, (tau 13), (tau 24), (tau 26)]) (al 0)))]) [] [37, 38, 39, 40, 41, 42, 43, 44, 45, 1, 4, 18, 22, 25, 27] (idN 15)]
      · open Mine PySem.Calls PySem.Spec PySem.Challenge.cw_pk0039_01_holds in grind only [show E_kzE01 P0 w (ktop_219 w.params) from fun c p b cuts q r col x y t hcol hr hc hx hy hd1 hd2 I rs S hgt hlt hbg hm hq H => ckG (unq [7,6,30,5,8,1,2,20,29,25,22] [0xa018f017f200bfbb015f2882228222822282228222811116421112116471116555555555,0x1164111161147114714711116116020f339333333933333393333397999aaaa,0x411614711471116411174003f11] [.p [] (fun al tau => pEqI ((col)) ((t 0)) ((0)) (tau 2) false hcol), .p [2, 3, 4, 5, 6, 7, 8, 9, 10, 11, 12] (fun al tau => mkCk (S ((t 0)))), .p [] (fun al tau => pGtI col (tau 13) col ((t 0)) false hgt), .p [] (fun al tau => pEqI ((0)) (tau 0) ((0)) (tau 23) true rfl), .p [] (fun al tau => pLtI col (tau 13) col ((t 0)) false hlt), .p [] (fun al tau => pFdiv ((y)) ((t 2)) ((x)) ((t 1)) (Int.fdiv y x) hx hd1 rfl), .p [] (fun al tau => pStrI ((St [p.c0, p.c1, p.c2, p.c3])) ((p.ft)) ((col - 1)) (tau 29) 48 hr hc), .p [] (fun al tau => pMul (col - I) (tau 24) x ((t 1)) hm), .p [] (fun al tau => pGtI I (tau 12) 0 (tau 35) true hbg), .p [] (fun al tau => pNeI (Int.fdiv y x) (tau 26) (col - I) (tau 24) false hq), .a [0, 1, 2, 3, 4, 5, 6, 7, 8, 9, 10, 11, 12] (fun al tau => mkCk (H (nthN [(tau 1), (tau 4), (tau 18), (tau 22), (tau 25), (tau 27)]) (nthN [(tau 12), (t 1), (tau 33), (tau 0), (tau 12), 0, (tau 13), (tau 24), (tau 26)]) (al 0)))]) [] [37, 38, 39, 40, 41, 42, 43, 44, 45, 1, 4, 18, 22, 25, 27] (idN 15)]
      · open Mine PySem.Calls PySem.Spec PySem.Challenge.cw_pk0039_01_holds in grind only [show E_kzL01 P0 w (ktop_219 w.params) from fun c p b cuts q r col x y t hcol hr hc hx hy hd1 hd2 I j rs S hgt hlt hbg hm hq H => ckG (unq [7,6,30,5,1,8,2,20,29,25,22] [0xa018f017f200bfbb015f2882228222822282228222811115421112115471115666666666,0x1111511115147114714711115115020f339333333933333393333397999aaaa,0x411514711471115411174003f111154] [.p [] (fun al tau => pEqI ((col)) ((t 0)) ((0)) (tau 2) false hcol), .p [2, 3, 4, 5, 6, 7, 8, 9, 10, 11, 12] (fun al tau => mkCk (S ((t 0)))), .p [] (fun al tau => pGtI j (tau 13) col ((t 0)) false hgt), .p [] (fun al tau => pEqI ((0)) (tau 0) ((0)) (tau 23) true rfl), .p [] (fun al tau => pLtI j (tau 13) col ((t 0)) true hlt), .p [] (fun al tau => pFdiv ((y)) ((t 2)) ((x)) ((t 1)) (Int.fdiv y x) hx hd1 rfl), .p [] (fun al tau => pStrI ((St [p.c0, p.c1, p.c2, p.c3])) ((p.ft)) ((col - 1)) (tau 30) 48 hr hc), .p [] (fun al tau => pMul (col - j) (tau 25) x ((t 1)) hm), .p [] (fun al tau => pGtI j (tau 13) 0 (tau 36) true hbg), .p [] (fun al tau => pNeI (Int.fdiv y x) (tau 27) (col - j) (tau 25) false hq), .a [0, 1, 2, 3, 4, 5, 6, 7, 8, 9, 10, 11, 12] (fun al tau => mkCk (H (nthN [(tau 1), (tau 4), (tau 18), (tau 22), (tau 26), (tau 28)]) (nthN [(tau 13), (t 1), (tau 34), (tau 0), (tau 13), 0, (tau 13), (tau 25), (tau 27)]) (al 0)))]) [] [38, 39, 40, 41, 42, 43, 44, 45, 46, 1, 4, 18, 22, 26, 28] (idN 15)]
      · open Mine PySem.Calls PySem.Spec PySem.Challenge.cw_pk0039_01_holds in grind only [show E_ktN00 P0 w (ktop_219 w.params) from fun c p b cuts q r col x y t s bg h e rn qn i l hl hs hcol hr hc hx hy hd1 hd2 S hm H => ckG (unq [7,5,1,2,6] [0x21131241113211142003f111132111131111132511151132411132008f] [.p [1] (fun al tau => pRangeNext q.it i l 1 hl), .p [] (fun al tau => pEqI ((col)) ((t 0)) ((0)) (tau 2) false hcol), .p [2, 3, 4, 5, 6, 7, 8, 9, 10, 11, 12] (fun al tau => mkCk (S ((t 0)))), .p [] (fun al tau => pFdiv ((y)) ((t 2)) ((x)) ((t 1)) (Int.fdiv y x) hx hd1 rfl), .p [] (fun al tau => pStrI ((St [p.c0, p.c1, p.c2, p.c3])) ((p.ft)) ((col - 1)) (tau 11) 48 hr hc), .p [] (fun al tau => pMul (col - 0) (tau 6) x ((t 1)) hm), .p [] (fun al tau => pGtI ((0)) (tau 3) ((0)) (tau 17) false rfl), .a [0, 1, 2, 3, 4, 5, 6, 7, 8, 9, 10, 11, 12] (fun al tau => mkCk (H (nthN [(tau 3), (t 1), (tau 15), (tau 0), (tau 3), 0, (t 6), (tau 6), (tau 8)])))]) [] [19, 20, 21, 22, 23, 24, 25, 26, 27] (idN 9)]
      · open Mine PySem.Calls PySem.Spec PySem.Challenge.cw_pk0039_01_holds in grind only [show E_ktE00 P0 w (ktop_219 w.params) from fun c p b cuts q r col x y t s bg h e rn qn i l hl hs hcol hr hc hx hy hd1 hd2 I j rs S hgt hbg hm H => ckG (unq [7,6,30,5,1,20,29,2,25,22] [0x77799999018f017f200bfaa015f26622262226222622262226111154211121154811154008f,0x15411184003f11115411115114814811115115020f337333333733333373333378,0x411514811] [.p [1] (fun al tau => pRangeNext q.it i l 1 hl), .p [] (fun al tau => pEqI ((col)) ((t 0)) ((0)) (tau 2) false hcol), .p [2, 3, 4, 5, 6, 7, 8, 9, 10, 11, 12] (fun al tau => mkCk (S ((t 0)))), .p [] (fun al tau => pGtI j (tau 13) col ((t 0)) false hgt), .p [] (fun al tau => pEqI ((i)) (tau 0) ((0)) (tau 23) false hs), .p [] (fun al tau => pFdiv ((y)) ((t 2)) ((x)) ((t 1)) (Int.fdiv y x) hx hd1 rfl), .p [] (fun al tau => pStrI ((St [p.c0, p.c1, p.c2, p.c3])) ((p.ft)) ((col - 1)) (tau 29) 48 hr hc), .p [] (fun al tau => pMul (col - I) (tau 24) x ((t 1)) hm), .p [] (fun al tau => pGtI I (tau 12) 0 (tau 35) false hbg), .a [0, 1, 2, 3, 4, 5, 6, 7, 8, 9, 10, 11, 12] (fun al tau => mkCk (H (nthN [(tau 12), (t 1), (tau 33), (tau 0), (tau 12), 0, (tau 13), (tau 24), (tau 26)]) (al 0)))]) [] [37, 38, 39, 40, 41, 42, 43, 44, 45] (idN 9)]
      · open Mine PySem.Calls PySem.Spec PySem.Challenge.cw_pk0039_01_holds in grind only [show E_ktE01 P0 w (ktop_219 w.params) from fun c p b cuts q r col x y t s bg h e rn qn i l hl hs hcol hr hc hx hy hd1 hd2 I j rs S hgt hbg hm hq H => ckG (unq [7,6,30,5,1,2,20,29,25,22] [0x88899999018f017f200bfaa015f27722272227222722272227111154211121154611154008f,0x15411164003f11115411115114614611115115020f338333333833333383333386,0x4115146114611] [.p [1] (fun al tau => pRangeNext q.it i l 1 hl), .p [] (fun al tau => pEqI ((col)) ((t 0)) ((0)) (tau 2) false hcol), .p [2, 3, 4, 5, 6, 7, 8, 9, 10, 11, 12] (fun al tau => mkCk (S ((t 0)))), .p [] (fun al tau => pGtI j (tau 13) col ((t 0)) false hgt), .p [] (fun al tau => pEqI ((i)) (tau 0) ((0)) (tau 23) false hs), .p [] (fun al tau => pFdiv ((y)) ((t 2)) ((x)) ((t 1)) (Int.fdiv y x) hx hd1 rfl), .p [] (fun al tau => pStrI ((St [p.c0, p.c1, p.c2, p.c3])) ((p.ft)) ((col - 1)) (tau 29) 48 hr hc), .p [] (fun al tau => pMul (col - I) (tau 24) x ((t 1)) hm), .p [] (fun al tau => pGtI I (tau 12) 0 (tau 35) true hbg), .p [] (fun al tau => pNeI (Int.fdiv y x) (tau 26) (col - I) (tau 24) false hq), .a [0, 1, 2, 3, 4, 5, 6, 7, 8, 9, 10, 11, 12] (fun al tau => mkCk (H (nthN [(tau 12), (t 1), (tau 33), (tau 0), (tau 12), 0, (tau 13), (tau 24), (tau 26)]) (al 0)))]) [] [37, 38, 39, 40, 41, 42, 43, 44, 45] (idN 9)]
      · open Mine PySem.Calls PySem.Spec PySem.Challenge.cw_pk0039_01_holds in grind only [show E_kzN10 P0 w (ktop_219 w.params) from fun c p b cuts q r col x y t hcol hr hc hx hy hd1 hd2 S hm H => ckG (unq [7,8,1,5,2,6] [0x451113411111341154003f11113411113111113461116113451113222222222,0x41131] [.p [] (fun al tau => pEqI ((col)) ((t 0)) ((0)) (tau 2) false hcol), .p [2, 3, 4, 5, 6, 7, 8, 9, 10, 11, 12] (fun al tau => mkCk (S ((t 0)))), .p [] (fun al tau => pFdiv ((y)) ((t 2)) ((x)) ((t 1)) (Int.fdiv y x) hx hd1 rfl), .p [] (fun al tau => pStrI ((St [p.c0, p.c1, p.c2, p.c3])) ((p.ft)) ((col - 1)) (tau 11) 49 hr hc), .p [] (fun al tau => pFdiv ((x)) ((t 1)) ((y)) ((t 2)) (Int.fdiv x y) hy hd2 rfl), .p [] (fun al tau => pMul (col - 0) (tau 6) y ((t 2)) hm), .p [] (fun al tau => pGtI ((0)) (tau 3) ((0)) (tau 19) false rfl), .a [0, 1, 2, 3, 4, 5, 6, 7, 8, 9, 10, 11, 12] (fun al tau => mkCk (H (nthN [(tau 1), (tau 4), (tau 5), 0, (tau 7), (tau 9)]) (nthN [(tau 3), (tau 17), (t 2), (tau 0), (tau 3), 0, 0, (tau 6), (tau 14)])))]) [] [21, 22, 23, 24, 25, 26, 27, 28, 29, 1, 4, 5, 7, 9] (fun ts => [nthN ts 0, nthN ts 1, nthN ts 2, nthN ts 3, nthN ts 4, nthN ts 5, nthN ts 6, nthN ts 7, nthN ts 8, nthN ts 9, nthN ts 10, nthN ts 11, 0, nthN ts 12, nthN ts 13])]
      · open Mine PySem.Calls PySem.Spec PySem.Challenge.cw_pk0039_01_holds in grind only [show E_kzE10 P0 w (ktop_219 w.params) from fun c p b cuts q r col x y t hcol hr hc hx hy hd1 hd2 I rs S hgt hlt hbg hm H => ckG (unq [7,6,30,5,1,8,2,20,29,25,22] [0xa018f017f200bfbb015f2882228222822282228222811115421112115471115666666666,0x1154111151147114714711115115020f339333333933333393333397999aaaa,0x41151471115411111541174003f11] [.p [] (fun al tau => pEqI ((col)) ((t 0)) ((0)) (tau 2) false hcol), .p [2, 3, 4, 5, 6, 7, 8, 9, 10, 11, 12] (fun al tau => mkCk (S ((t 0)))), .p [] (fun al tau => pGtI col (tau 13) col ((t 0)) false hgt), .p [] (fun al tau => pEqI ((0)) (tau 0) ((0)) (tau 23) true rfl), .p [] (fun al tau => pLtI col (tau 13) col ((t 0)) false hlt), .p [] (fun al tau => pFdiv ((y)) ((t 2)) ((x)) ((t 1)) (Int.fdiv y x) hx hd1 rfl), .p [] (fun al tau => pStrI ((St [p.c0, p.c1, p.c2, p.c3])) ((p.ft)) ((col - 1)) (tau 29) 49 hr hc), .p [] (fun al tau => pFdiv ((x)) ((t 1)) ((y)) ((t 2)) (Int.fdiv x y) hy hd2 rfl), .p [] (fun al tau => pMul (col - I) (tau 24) y ((t 2)) hm), .p [] (fun al tau => pGtI I (tau 12) 0 (tau 37) false hbg), .a [0, 1, 2, 3, 4, 5, 6, 7, 8, 9, 10, 11, 12] (fun al tau => mkCk (H (nthN [(tau 1), (tau 4), (tau 18), (tau 22), (tau 25), (tau 27)]) (nthN [(tau 12), (tau 35), (t 2), (tau 0), (tau 12), 0, (tau 13), (tau 24), (tau 32)]) (al 0)))]) [] [39, 40, 41, 42, 43, 44, 45, 46, 47, 1, 4, 18, 22, 25, 27] (idN 15)]
      · open Mine PySem.Calls PySem.Spec PySem.Challenge.cw_pk0039_01_holds in grind only [show E_kzE11 P0 w (ktop_219 w.params) from fun c p b cuts q r col x y t hcol hr hc hx hy hd1 hd2 I rs S hgt hlt hbg hm hq H => ckG (unq [7,6,30,5,1,8,2,20,29,25,22] [0xa018f017f200bfbb015f2882228222822282228222811115421112115471115666666666,0x1154111151147114714711115115020f339333333933333393333397999aaaa,0x411514711471115411111541174003f11] [.p [] (fun al tau => pEqI ((col)) ((t 0)) ((0)) (tau 2) false hcol), .p [2, 3, 4, 5, 6, 7, 8, 9, 10, 11, 12] (fun al tau => mkCk (S ((t 0)))), .p [] (fun al tau => pGtI col (tau 13) col ((t 0)) false hgt), .p [] (fun al tau => pEqI ((0)) (tau 0) ((0)) (tau 23) true rfl), .p [] (fun al tau => pLtI col (tau 13) col ((t 0)) false hlt), .p [] (fun al tau => pFdiv ((y)) ((t 2)) ((x)) ((t 1)) (Int.fdiv y x) hx hd1 rfl), .p [] (fun al tau => pStrI ((St [p.c0, p.c1, p.c2, p.c3])) ((p.ft)) ((col - 1)) (tau 29) 49 hr hc), .p [] (fun al tau => pFdiv ((x)) ((t 1)) ((y)) ((t 2)) (Int.fdiv x y) hy hd2 rfl), .p [] (fun al tau => pMul (col - I) (tau 24) y ((t 2)) hm), .p [] (fun al tau => pGtI I (tau 12) 0 (tau 37) true hbg), .p [] (fun al tau => pNeI (Int.fdiv x y) (tau 32) (col - I) (tau 24) false hq), .a [0, 1, 2, 3, 4, 5, 6, 7, 8, 9, 10, 11, 12] (fun al tau => mkCk (H (nthN [(tau 1), (tau 4), (tau 18), (tau 22), (tau 25), (tau 27)]) (nthN [(tau 12), (tau 35), (t 2), (tau 0), (tau 12), 0, (tau 13), (tau 24), (tau 32)]) (al 0)))]) [] [39, 40, 41, 42, 43, 44, 45, 46, 47, 1, 4, 18, 22, 25, 27] (idN 15)]
      · open Mine PySem.Calls PySem.Spec PySem.Challenge.cw_pk0039_01_holds in grind only [show E_kzL11 P0 w (ktop_219 w.params) from fun c p b cuts q r col x y t hcol hr hc hx hy hd1 hd2 I j rs S hgt hlt hbg hm hq H => ckG (unq [7,6,30,5,1,8,2,20,29,25,22] [0xa018f017f200bfbb015f2882228222822282228222811115421112115471115666666666,0x1111511115147114714711115115020f339333333933333393333397999aaaa,0x411514711471115411111541174003f111154] [.p [] (fun al tau => pEqI ((col)) ((t 0)) ((0)) (tau 2) false hcol), .p [2, 3, 4, 5, 6, 7, 8, 9, 10, 11, 12] (fun al tau => mkCk (S ((t 0)))), .p [] (fun al tau => pGtI j (tau 13) col ((t 0)) false hgt), .p [] (fun al tau => pEqI ((0)) (tau 0) ((0)) (tau 23) true rfl), .p [] (fun al tau => pLtI j (tau 13) col ((t 0)) true hlt), .p [] (fun al tau => pFdiv ((y)) ((t 2)) ((x)) ((t 1)) (Int.fdiv y x) hx hd1 rfl), .p [] (fun al tau => pStrI ((St [p.c0, p.c1, p.c2, p.c3])) ((p.ft)) ((col - 1)) (tau 30) 49 hr hc), .p [] (fun al tau => pFdiv ((x)) ((t 1)) ((y)) ((t 2)) (Int.fdiv x y) hy hd2 rfl), .p [] (fun al tau => pMul (col - j) (tau 25) y ((t 2)) hm), .p [] (fun al tau => pGtI j (tau 13) 0 (tau 38) true hbg), .p [] (fun al tau => pNeI (Int.fdiv x y) (tau 33) (col - j) (tau 25) false hq), .a [0, 1, 2, 3, 4, 5, 6, 7, 8, 9, 10, 11, 12] (fun al tau => mkCk (H (nthN [(tau 1), (tau 4), (tau 18), (tau 22), (tau 26), (tau 28)]) (nthN [(tau 13), (tau 36), (t 2), (tau 0), (tau 13), 0, (tau 13), (tau 25), (tau 33)]) (al 0)))]) [] [40, 41, 42, 43, 44, 45, 46, 47, 48, 1, 4, 18, 22, 26, 28] (idN 15)]
      · open Mine PySem.Calls PySem.Spec PySem.Challenge.cw_pk0039_01_holds in grind only [show E_ktN10 P0 w (ktop_219 w.params) from fun c p b cuts q r col x y t s bg h e rn qn i l hl hs hcol hr hc hx hy hd1 hd2 S hm H => ckG (unq [7,5,1,2,6] [0x21131241113211111321142003f111132111131111132511151132411132008f] [.p [1] (fun al tau => pRangeNext q.it i l 1 hl), .p [] (fun al tau => pEqI ((col)) ((t 0)) ((0)) (tau 2) false hcol), .p [2, 3, 4, 5, 6, 7, 8, 9, 10, 11, 12] (fun al tau => mkCk (S ((t 0)))), .p [] (fun al tau => pFdiv ((y)) ((t 2)) ((x)) ((t 1)) (Int.fdiv y x) hx hd1 rfl), .p [] (fun al tau => pStrI ((St [p.c0, p.c1, p.c2, p.c3])) ((p.ft)) ((col - 1)) (tau 11) 49 hr hc), .p [] (fun al tau => pFdiv ((x)) ((t 1)) ((y)) ((t 2)) (Int.fdiv x y) hy hd2 rfl), .p [] (fun al tau => pMul (col - 0) (tau 6) y ((t 2)) hm), .p [] (fun al tau => pGtI ((0)) (tau 3) ((0)) (tau 19) false rfl), .a [0, 1, 2, 3, 4, 5, 6, 7, 8, 9, 10, 11, 12] (fun al tau => mkCk (H (nthN [(tau 3), (tau 17), (t 2), (tau 0), (tau 3), 0, (t 6), (tau 6), (tau 14)])))]) [] [21, 22, 23, 24, 25, 26, 27, 28, 29] (idN 9)]
      · open Mine PySem.Calls PySem.Spec PySem.Challenge.cw_pk0039_01_holds in grind only [show E_ktE10 P0 w (ktop_219 w.params) from fun c p b cuts q r col x y t s bg h e rn qn i l hl hs hcol hr hc hx hy hd1 hd2 I j rs S hgt hbg hm H => ckG (unq [7,6,30,5,1,20,29,2,25,22] [0x77799999018f017f200bfaa015f26622262226222622262226111154211121154811154008f,0x11541184003f11115411115114814811115115020f337333333733333373333378,0x411514811154111] [.p [1] (fun al tau => pRangeNext q.it i l 1 hl), .p [] (fun al tau => pEqI ((col)) ((t 0)) ((0)) (tau 2) false hcol), .p [2, 3, 4, 5, 6, 7, 8, 9, 10, 11, 12] (fun al tau => mkCk (S ((t 0)))), .p [] (fun al tau => pGtI j (tau 13) col ((t 0)) false hgt), .p [] (fun al tau => pEqI ((i)) (tau 0) ((0)) (tau 23) false hs), .p [] (fun al tau => pFdiv ((y)) ((t 2)) ((x)) ((t 1)) (Int.fdiv y x) hx hd1 rfl), .p [] (fun al tau => pStrI ((St [p.c0, p.c1, p.c2, p.c3])) ((p.ft)) ((col - 1)) (tau 29) 49 hr hc), .p [] (fun al tau => pFdiv ((x)) ((t 1)) ((y)) ((t 2)) (Int.fdiv x y) hy hd2 rfl), .p [] (fun al tau => pMul (col - I) (tau 24) y ((t 2)) hm), .p [] (fun al tau => pGtI I (tau 12) 0 (tau 37) false hbg), .a [0, 1, 2, 3, 4, 5, 6, 7, 8, 9, 10, 11, 12] (fun al tau => mkCk (H (nthN [(tau 12), (tau 35), (t 2), (tau 0), (tau 12), 0, (tau 13), (tau 24), (tau 32)]) (al 0)))]) [] [39, 40, 41, 42, 43, 44, 45, 46, 47] (idN 9)]
      · open Mine PySem.Calls PySem.Spec PySem.Challenge.cw_pk0039_01_holds in grind only [show E_ktE11 P0 w (ktop_219 w.params) from fun c p b cuts q r col x y t s bg h e rn qn i l hl hs hcol hr hc hx hy hd1 hd2 I j rs S hgt hbg hm hq H => ckG (unq [7,6,30,5,1,2,20,29,25,22] [0x88899999018f017f200bfaa015f27722272227222722272227111154211121154611154008f,0x11541164003f11115411115114614611115115020f338333333833333383333386,0x4115146114611154111] [.p [1] (fun al tau => pRangeNext q.it i l 1 hl), .p [] (fun al tau => pEqI ((col)) ((t 0)) ((0)) (tau 2) false hcol), .p [2, 3, 4, 5, 6, 7, 8, 9, 10, 11, 12] (fun al tau => mkCk (S ((t 0)))), .p [] (fun al tau => pGtI j (tau 13) col ((t 0)) false hgt), .p [] (fun al tau => pEqI ((i)) (tau 0) ((0)) (tau 23) false hs), .p [] (fun al tau => pFdiv ((y)) ((t 2)) ((x)) ((t 1)) (Int.fdiv y x) hx hd1 rfl), .p [] (fun al tau => pStrI ((St [p.c0, p.c1, p.c2, p.c3])) ((p.ft)) ((col - 1)) (tau 29) 49 hr hc), .p [] (fun al tau => pFdiv ((x)) ((t 1)) ((y)) ((t 2)) (Int.fdiv x y) hy hd2 rfl), .p [] (fun al tau => pMul (col - I) (tau 24) y ((t 2)) hm), .p [] (fun al tau => pGtI I (tau 12) 0 (tau 37) true hbg), .p [] (fun al tau => pNeI (Int.fdiv x y) (tau 32) (col - I) (tau 24) false hq), .a [0, 1, 2, 3, 4, 5, 6, 7, 8, 9, 10, 11, 12] (fun al tau => mkCk (H (nthN [(tau 12), (tau 35), (t 2), (tau 0), (tau 12), 0, (tau 13), (tau 24), (tau 32)]) (al 0)))]) [] [39, 40, 41, 42, 43, 44, 45, 46, 47] (idN 9)]
      · open Mine PySem.Calls PySem.Spec PySem.Challenge.cw_pk0039_01_holds in grind only [show E_kk0 P0 w (ktop_219 w.params) from fun c p b cuts q x y t s bg hb ha e rn qn i l hl => ckG (unq [7] [0x2f111001f005f008f] [.p [1] (fun al tau => pRangeNext q.it i l 1 hl)]) [] [0] (fun ts => [t 0, t 1, t 2, nthN ts 0, t 4, ha, t 6, t 7, t 8])]
      · open Mine PySem.Calls PySem.Spec PySem.Challenge.cw_pk0039_01_holds in grind only [show E_kk1 P0 w (ktop_219 w.params) from fun c p b cuts q x y t s bg hb ha e rn qn i l hl => ckG (unq [7] [0x2f111001f005f008f] [.p [1] (fun al tau => pRangeNext q.it i l 1 hl)]) [] [0] (fun ts => [t 0, t 1, t 2, nthN ts 0, t 4, ha, t 6, t 7, t 8])]
      · open Mine PySem.Calls PySem.Spec PySem.Challenge.cw_pk0039_01_holds in grind only [show E_kf P0 w (ktop_219 w.params) from fun c p b cuts q col x y t s bg hb ha e rn qn i l hl => ckG (unq [] [0x15f005f008f] [.p [1] (fun al tau => pRangeEnd q.it i l 1 hl)]) [] [] (fun ts => [t 0, t 1, t 2, t 3, t 4, ha, t 6, t 7, t 8])]
    · constructor
      · open Mine PySem.Calls PySem.Spec PySem.Challenge.cw_pk0039_01_holds in grind only [show E_g000 P0 w (ktop_219 w.params) from fun c a d had ft b => ckG (unq [6,14,23,16,22,1,13,10,5,24,9,2,3,11] [0x484462222222229c9489d48446222222222015f27777c777777811111ee8811,0x1111111111111bb6111007f100cf00cf444012f222229c9489d484462222222229c9489d,0x3131113aa555613111313131113a1aa6aa61111113131111111111111111,0x131113bbbb6555613111313131113a555613111313131113a55561311131,0xb555613111313] [.p [] (fun al tau => pStrI ((St [a, a, a, a])) ((ft)) ((0)) (tau 7) a rfl rfl), .p [] (fun al tau => pStrI ((St [a, a, a, a])) ((ft)) ((1)) (tau 4) a rfl rfl), .p [] (fun al tau => pNeS (⟨#[a]⟩ : Str) (tau 8) (⟨#[a]⟩ : Str) (tau 9) false (ne_self _)), .p [] (fun al tau => pStrI ((St [a, a, a, a])) ((ft)) ((1)) (tau 13) a rfl rfl), .p [] (fun al tau => pStrI ((St [a, a, a, a])) ((ft)) ((2)) (tau 10) a rfl rfl), .p [] (fun al tau => pNeS (⟨#[a]⟩ : Str) (tau 14) (⟨#[a]⟩ : Str) (tau 15) false (ne_self _)), .p [] (fun al tau => pStrI ((St [a, a, a, a])) ((ft)) ((2)) (tau 19) a rfl rfl), .p [] (fun al tau => pStrI ((St [a, a, a, a])) ((ft)) ((3)) (tau 16) a rfl rfl), .p [] (fun al tau => pNeS (⟨#[a]⟩ : Str) (tau 20) (⟨#[a]⟩ : Str) (tau 21) false (ne_self _))]) [14, 13, 12, 1, 3, 2, 6, 10, 11, 16] [28, 26, 30, 33, 31, 35, 38, 22] (fun ts => [nthN ts 0, nthN ts 1, nthN ts 2, nthN ts 3, nthN ts 4, nthN ts 5, nthN ts 6, 0, 0, 0, 0, nthN ts 7])]
      · open Mine PySem.Calls PySem.Spec PySem.Challenge.cw_pk0039_01_holds in grind only [show E_g001 P0 w (ktop_219 w.params) from fun c a d had ft b => ckG (unq [6,14,23,16,22,1,13,10,5,24,9,2,15,3] [0x484462222222229c9489e48446222222222015f27777c77777781111100bf00bf8811,0x11111111bb6111007f100cf00cf444012f22222dddd49c9489e484462222222229c9489e,0x13aa555613111313131113a1aa6aa6111111313111111111111111111111,0x3bbbb6555613111313131113a555613111313131113a5556131113131311,0xb55561311131313111] [.p [] (fun al tau => pStrI ((St [a, a, a, d])) ((ft)) ((0)) (tau 7) a rfl rfl), .p [] (fun al tau => pStrI ((St [a, a, a, d])) ((ft)) ((1)) (tau 4) a rfl rfl), .p [] (fun al tau => pNeS (⟨#[a]⟩ : Str) (tau 8) (⟨#[a]⟩ : Str) (tau 9) false (ne_self _)), .p [] (fun al tau => pStrI ((St [a, a, a, d])) ((ft)) ((1)) (tau 13) a rfl rfl), .p [] (fun al tau => pStrI ((St [a, a, a, d])) ((ft)) ((2)) (tau 10) a rfl rfl), .p [] (fun al tau => pNeS (⟨#[a]⟩ : Str) (tau 14) (⟨#[a]⟩ : Str) (tau 15) false (ne_self _)), .p [] (fun al tau => pStrI ((St [a, a, a, d])) ((ft)) ((2)) (tau 19) a rfl rfl), .p [] (fun al tau => pStrI ((St [a, a, a, d])) ((ft)) ((3)) (tau 16) d rfl rfl), .p [] (fun al tau => pNeS (⟨#[a]⟩ : Str) (tau 20) (⟨#[d]⟩ : Str) (tau 21) true (ne_1 had))]) [14, 13, 12, 1, 3, 2, 6, 10, 11, 16] [28, 26, 30, 33, 31, 35, 38, 16, 22] (fun ts => [nthN ts 0, nthN ts 1, nthN ts 2, nthN ts 3, nthN ts 4, nthN ts 5, nthN ts 6, nthN ts 7, 0, 0, 1, nthN ts 8])]
      · open Mine PySem.Calls PySem.Spec PySem.Challenge.cw_pk0039_01_holds in grind only [show E_g010 P0 w (ktop_219 w.params) from fun c a d had ft b => ckG (unq [6,14,23,16,22,1,13,10,5,24,9,2,15,3] [0x484462222222229c9489e48446222222222015f27777c77777781111100bf00bf8811,0x11111111bb6111007f100cf00cf444012f222229c9489e48446222222222dddd49c9489e,0x13aa555613111313131113a1aa6aa6111111313111111111111111111111,0x3bbbb6555613111313131113a555613111313131113a5556131113131311,0xb55561311131313111] [.p [] (fun al tau => pStrI ((St [a, a, d, d])) ((ft)) ((0)) (tau 7) a rfl rfl), .p [] (fun al tau => pStrI ((St [a, a, d, d])) ((ft)) ((1)) (tau 4) a rfl rfl), .p [] (fun al tau => pNeS (⟨#[a]⟩ : Str) (tau 8) (⟨#[a]⟩ : Str) (tau 9) false (ne_self _)), .p [] (fun al tau => pStrI ((St [a, a, d, d])) ((ft)) ((1)) (tau 13) a rfl rfl), .p [] (fun al tau => pStrI ((St [a, a, d, d])) ((ft)) ((2)) (tau 10) d rfl rfl), .p [] (fun al tau => pNeS (⟨#[a]⟩ : Str) (tau 14) (⟨#[d]⟩ : Str) (tau 15) true (ne_1 had)), .p [] (fun al tau => pStrI ((St [a, a, d, d])) ((ft)) ((2)) (tau 19) d rfl rfl), .p [] (fun al tau => pStrI ((St [a, a, d, d])) ((ft)) ((3)) (tau 16) d rfl rfl), .p [] (fun al tau => pNeS (⟨#[d]⟩ : Str) (tau 20) (⟨#[d]⟩ : Str) (tau 21) false (ne_self _))]) [14, 13, 12, 1, 3, 2, 6, 10, 11, 16] [28, 26, 30, 33, 31, 35, 38, 10, 22] (fun ts => [nthN ts 0, nthN ts 1, nthN ts 2, nthN ts 3, nthN ts 4, nthN ts 5, nthN ts 6, nthN ts 7, 0, 0, 1, nthN ts 8])]
      · open Mine PySem.Calls PySem.Spec PySem.Challenge.cw_pk0039_01_holds in grind only [show E_g011 P0 w (ktop_219 w.params) from fun c a d had ft b => ckG (unq [6,14,23,16,22,1,13,10,5,24,15,9,2,3] [0x484462222222229d9489e48446222222222015f27777d77777781111100bf00bf8811,0x111cc6111007f100cf00cf444012f22222bbbb49d9489e48446222222222bbbb49d9489e,0x55613111313131113a1aa6aa611111131311111111111111111111111111,0x6555613111313131113a555613111313131113a555613111313131113aa5,0xc555613111313131113cccc] [.p [] (fun al tau => pStrI ((St [a, a, d, a])) ((ft)) ((0)) (tau 7) a rfl rfl), .p [] (fun al tau => pStrI ((St [a, a, d, a])) ((ft)) ((1)) (tau 4) a rfl rfl), .p [] (fun al tau => pNeS (⟨#[a]⟩ : Str) (tau 8) (⟨#[a]⟩ : Str) (tau 9) false (ne_self _)), .p [] (fun al tau => pStrI ((St [a, a, d, a])) ((ft)) ((1)) (tau 13) a rfl rfl), .p [] (fun al tau => pStrI ((St [a, a, d, a])) ((ft)) ((2)) (tau 10) d rfl rfl), .p [] (fun al tau => pNeS (⟨#[a]⟩ : Str) (tau 14) (⟨#[d]⟩ : Str) (tau 15) true (ne_1 had)), .p [] (fun al tau => pStrI ((St [a, a, d, a])) ((ft)) ((2)) (tau 19) d rfl rfl), .p [] (fun al tau => pStrI ((St [a, a, d, a])) ((ft)) ((3)) (tau 16) a rfl rfl), .p [] (fun al tau => pNeS (⟨#[d]⟩ : Str) (tau 20) (⟨#[a]⟩ : Str) (tau 21) true (ne_1' had))]) [14, 13, 12, 1, 3, 2, 6, 10, 11, 16] [28, 26, 30, 33, 31, 35, 38, 10, 16, 22] (fun ts => [nthN ts 0, nthN ts 1, nthN ts 2, nthN ts 3, nthN ts 4, nthN ts 5, nthN ts 6, nthN ts 7, nthN ts 8, 0, 2, nthN ts 9])]
      · open Mine PySem.Calls PySem.Spec PySem.Challenge.cw_pk0039_01_holds in grind only [show E_g100 P0 w (ktop_219 w.params) from fun c a d had ft b => ckG (unq [6,14,23,16,22,1,13,10,5,24,9,2,15,3] [0x222222222dddd49c9489e48446222222222015f27777c77777781111100bf00bf8811,0x11111111bb6111007f100cf00cf444012f222229c9489e484462222222229c9489e48446,0x13aa555613111313131113a1aa6aa6111111313111111111111111111111,0x3bbbb6555613111313131113a555613111313131113a5556131113131311,0xb55561311131313111] [.p [] (fun al tau => pStrI ((St [a, d, d, d])) ((ft)) ((0)) (tau 7) a rfl rfl), .p [] (fun al tau => pStrI ((St [a, d, d, d])) ((ft)) ((1)) (tau 4) d rfl rfl), .p [] (fun al tau => pNeS (⟨#[a]⟩ : Str) (tau 8) (⟨#[d]⟩ : Str) (tau 9) true (ne_1 had)), .p [] (fun al tau => pStrI ((St [a, d, d, d])) ((ft)) ((1)) (tau 13) d rfl rfl), .p [] (fun al tau => pStrI ((St [a, d, d, d])) ((ft)) ((2)) (tau 10) d rfl rfl), .p [] (fun al tau => pNeS (⟨#[d]⟩ : Str) (tau 14) (⟨#[d]⟩ : Str) (tau 15) false (ne_self _)), .p [] (fun al tau => pStrI ((St [a, d, d, d])) ((ft)) ((2)) (tau 19) d rfl rfl), .p [] (fun al tau => pStrI ((St [a, d, d, d])) ((ft)) ((3)) (tau 16) d rfl rfl), .p [] (fun al tau => pNeS (⟨#[d]⟩ : Str) (tau 20) (⟨#[d]⟩ : Str) (tau 21) false (ne_self _))]) [14, 13, 12, 1, 3, 2, 6, 10, 11, 16] [28, 26, 30, 33, 31, 35, 38, 4, 22] (fun ts => [nthN ts 0, nthN ts 1, nthN ts 2, nthN ts 3, nthN ts 4, nthN ts 5, nthN ts 6, nthN ts 7, 0, 0, 1, nthN ts 8])]
      · open Mine PySem.Calls PySem.Spec PySem.Challenge.cw_pk0039_01_holds in grind only [show E_g101 P0 w (ktop_219 w.params) from fun c a d had ft b => ckG (unq [6,14,23,16,22,1,13,10,5,24,15,9,2,3] [0x222222222bbbb49d9489e48446222222222015f27777d77777781111100bf00bf8811,0x111cc6111007f100cf00cf444012f22222bbbb49d9489e484462222222229d9489e48446,0x55613111313131113a1aa6aa611111131311111111111111111111111111,0x6555613111313131113a555613111313131113a555613111313131113aa5,0xc555613111313131113cccc] [.p [] (fun al tau => pStrI ((St [a, d, d, a])) ((ft)) ((0)) (tau 7) a rfl rfl), .p [] (fun al tau => pStrI ((St [a, d, d, a])) ((ft)) ((1)) (tau 4) d rfl rfl), .p [] (fun al tau => pNeS (⟨#[a]⟩ : Str) (tau 8) (⟨#[d]⟩ : Str) (tau 9) true (ne_1 had)), .p [] (fun al tau => pStrI ((St [a, d, d, a])) ((ft)) ((1)) (tau 13) d rfl rfl), .p [] (fun al tau => pStrI ((St [a, d, d, a])) ((ft)) ((2)) (tau 10) d rfl rfl), .p [] (fun al tau => pNeS (⟨#[d]⟩ : Str) (tau 14) (⟨#[d]⟩ : Str) (tau 15) false (ne_self _)), .p [] (fun al tau => pStrI ((St [a, d, d, a])) ((ft)) ((2)) (tau 19) d rfl rfl), .p [] (fun al tau => pStrI ((St [a, d, d, a])) ((ft)) ((3)) (tau 16) a rfl rfl), .p [] (fun al tau => pNeS (⟨#[d]⟩ : Str) (tau 20) (⟨#[a]⟩ : Str) (tau 21) true (ne_1' had))]) [14, 13, 12, 1, 3, 2, 6, 10, 11, 16] [28, 26, 30, 33, 31, 35, 38, 4, 16, 22] (fun ts => [nthN ts 0, nthN ts 1, nthN ts 2, nthN ts 3, nthN ts 4, nthN ts 5, nthN ts 6, nthN ts 7, nthN ts 8, 0, 2, nthN ts 9])]
      · open Mine PySem.Calls PySem.Spec PySem.Challenge.cw_pk0039_01_holds in grind only [show E_g110 P0 w (ktop_219 w.params) from fun c a d had ft b => ckG (unq [6,14,23,16,22,1,13,10,5,24,15,9,2,3] [0x222222222bbbb49d9489e48446222222222015f27777d77777781111100bf00bf8811,0x111cc6111007f100cf00cf444012f222229d9489e48446222222222bbbb49d9489e48446,0x55613111313131113a1aa6aa611111131311111111111111111111111111,0x6555613111313131113a555613111313131113a555613111313131113aa5,0xc555613111313131113cccc] [.p [] (fun al tau => pStrI ((St [a, d, a, a])) ((ft)) ((0)) (tau 7) a rfl rfl), .p [] (fun al tau => pStrI ((St [a, d, a, a])) ((ft)) ((1)) (tau 4) d rfl rfl), .p [] (fun al tau => pNeS (⟨#[a]⟩ : Str) (tau 8) (⟨#[d]⟩ : Str) (tau 9) true (ne_1 had)), .p [] (fun al tau => pStrI ((St [a, d, a, a])) ((ft)) ((1)) (tau 13) d rfl rfl), .p [] (fun al tau => pStrI ((St [a, d, a, a])) ((ft)) ((2)) (tau 10) a rfl rfl), .p [] (fun al tau => pNeS (⟨#[d]⟩ : Str) (tau 14) (⟨#[a]⟩ : Str) (tau 15) true (ne_1' had)), .p [] (fun al tau => pStrI ((St [a, d, a, a])) ((ft)) ((2)) (tau 19) a rfl rfl), .p [] (fun al tau => pStrI ((St [a, d, a, a])) ((ft)) ((3)) (tau 16) a rfl rfl), .p [] (fun al tau => pNeS (⟨#[a]⟩ : Str) (tau 20) (⟨#[a]⟩ : Str) (tau 21) false (ne_self _))]) [14, 13, 12, 1, 3, 2, 6, 10, 11, 16] [28, 26, 30, 33, 31, 35, 38, 4, 10, 22] (fun ts => [nthN ts 0, nthN ts 1, nthN ts 2, nthN ts 3, nthN ts 4, nthN ts 5, nthN ts 6, nthN ts 7, nthN ts 8, 0, 2, nthN ts 9])]
      · open Mine PySem.Calls PySem.Spec PySem.Challenge.cw_pk0039_01_holds in grind only [show E_g111 P0 w (ktop_219 w.params) from fun c a d had ft b => ckG (unq [6,14,23,16,22,1,15,13,10,5,24,9,2,3] [0x22222222277774ada49ae49446222222222015f28888d88888891111100bf00bf9911,0x6111007f100cf00cf444012f2222277774ada49ae4944622222222277774ada49ae49446,0x111313131113b1bb6bb611111131311111111111111111111111111111cc,0x13111313131113b555613111313131113b555613111313131113bb555613,0xc555613111313131113cccc65556] [.p [] (fun al tau => pStrI ((St [a, d, a, d])) ((ft)) ((0)) (tau 7) a rfl rfl), .p [] (fun al tau => pStrI ((St [a, d, a, d])) ((ft)) ((1)) (tau 4) d rfl rfl), .p [] (fun al tau => pNeS (⟨#[a]⟩ : Str) (tau 8) (⟨#[d]⟩ : Str) (tau 9) true (ne_1 had)), .p [] (fun al tau => pStrI ((St [a, d, a, d])) ((ft)) ((1)) (tau 13) d rfl rfl), .p [] (fun al tau => pStrI ((St [a, d, a, d])) ((ft)) ((2)) (tau 10) a rfl rfl), .p [] (fun al tau => pNeS (⟨#[d]⟩ : Str) (tau 14) (⟨#[a]⟩ : Str) (tau 15) true (ne_1' had)), .p [] (fun al tau => pStrI ((St [a, d, a, d])) ((ft)) ((2)) (tau 19) a rfl rfl), .p [] (fun al tau => pStrI ((St [a, d, a, d])) ((ft)) ((3)) (tau 16) d rfl rfl), .p [] (fun al tau => pNeS (⟨#[a]⟩ : Str) (tau 20) (⟨#[d]⟩ : Str) (tau 21) true (ne_1 had))]) [14, 13, 12, 1, 3, 2, 6, 10, 11, 16] [28, 26, 30, 33, 31, 35, 38, 4, 10, 16, 22] (fun ts => [nthN ts 0, nthN ts 1, nthN ts 2, nthN ts 3, nthN ts 4, nthN ts 5, nthN ts 6, nthN ts 7, nthN ts 8, nthN ts 9, 3, nthN ts 10])]
    · constructor
      · open Mine PySem.Calls PySem.Spec PySem.Challenge.cw_pk0039_01_holds in grind only [show E_f0w P0 w (ktop_219 w.params) from fun c c0 c1 c2 c3 ft b ks col x y A B ct pa xt yt ro at_ bt Hp rc rx ry rs rbg re rrn rqn ri rl rh hx hy HL => ckG (unq [13,24,27,1,6,11,5,2,29] [0x1411401af226222222622222262222268666111475115511411411411411455,0x78900cf9007f111701cf33338333333551] [.p [0, 1] (fun al tau => mkCk Hp), .p [6, 21, 1, 2, 3, 7, 8, 9, 10, 11, 12, 13, 14] (fun al tau => mkCk (HL [al 1, al 2, al 3, al 4, al 5, al 6, al 7, al 8, al 9, al 10] [tau 5, tau 6, tau 7, tau 8, tau 9, tau 10, tau 11, tau 12, tau 13, tau 14, tau 15, tau 16] (al 0) (al 15) (nthN [tau 0, tau 1, tau 2, tau 3, tau 4, tau 17, tau 18, tau 19]))), .p [22, 5] (fun al tau => pTupEq (al 16) ro rx (tau 24) ry (tau 25) A at_ B bt hx hy)]) [] [] (fun _ => [])]
      · open Mine PySem.Calls PySem.Spec PySem.Challenge.cw_pk0039_01_holds in grind only [show E_f1w P0 w (ktop_219 w.params) from fun c c0 c1 c2 c3 ft b ks col x y A B ct pa xt yt ro at_ bt Hp rc rx ry rs rbg re rrn rqn ri rl rh hx hy HL => ckG (unq [13,24,27,1,6,11,5,2,29] [0x1411401af226222222622222262222268666111475115511411411411411455,0x78900cf9007f111701cf33338333333551] [.p [0, 1] (fun al tau => mkCk Hp), .p [6, 21, 1, 2, 3, 7, 8, 9, 10, 11, 12, 13, 14] (fun al tau => mkCk (HL [al 1, al 2, al 3, al 4, al 5, al 6, al 7, al 8, al 9, al 10] [tau 5, tau 6, tau 7, tau 8, tau 9, tau 10, tau 11, tau 12, tau 13, tau 14, tau 15, tau 16] (al 0) (al 15) (nthN [tau 0, tau 1, tau 2, tau 3, tau 4, tau 17, tau 18, tau 19]))), .p [22, 5] (fun al tau => pTupEq (al 16) ro rx (tau 24) ry (tau 25) A at_ B bt hx hy)]) [] [] (fun _ => [])]
    · constructor
      · open Mine PySem.Calls PySem.Spec PySem.Challenge.cw_pk0039_01_holds in grind only [show E_h000 P0 w (ktop_219 w.params) from fun a d had ft => ckX (unq [6,13,26,15,25,1,12,9,5,27,8,2,7,3] [0x484462222222229c9489e48446222222222013f27777c77777781111100af00af8811,0x1111111111bb6111dddd100bf00bf444011f222229c9489e484462222222229c9489e,0x1113aa555613111313131113a1aa6aa61111113131111111111111111111,0x113bbbb6555613111313131113a555613111313131113a55561311131313,0xb555613111313131] [.p [] (fun al tau => pStrI ((St [a, a, a, a])) ((ft)) ((0)) (tau 7) a rfl rfl), .p [] (fun al tau => pStrI ((St [a, a, a, a])) ((ft)) ((1)) (tau 4) a rfl rfl), .p [] (fun al tau => pNeS (⟨#[a]⟩ : Str) (tau 8) (⟨#[a]⟩ : Str) (tau 9) false (ne_self _)), .p [] (fun al tau => pStrI ((St [a, a, a, a])) ((ft)) ((1)) (tau 13) a rfl rfl), .p [] (fun al tau => pStrI ((St [a, a, a, a])) ((ft)) ((2)) (tau 10) a rfl rfl), .p [] (fun al tau => pNeS (⟨#[a]⟩ : Str) (tau 14) (⟨#[a]⟩ : Str) (tau 15) false (ne_self _)), .p [] (fun al tau => pStrI ((St [a, a, a, a])) ((ft)) ((2)) (tau 19) a rfl rfl), .p [] (fun al tau => pStrI ((St [a, a, a, a])) ((ft)) ((3)) (tau 16) a rfl rfl), .p [] (fun al tau => pNeS (⟨#[a]⟩ : Str) (tau 20) (⟨#[a]⟩ : Str) (tau 21) false (ne_self _))]) [18, 17, 16, 1, 3, 2, 6, 10, 11, 20, 15, 13] [36, 34, 38, 41, 39, 43, 46, 22, 23, 24, 25, 29, 30] [12, 14] (fun ts es => [nthN ts 0, nthN ts 1, nthN ts 2, nthN ts 3, nthN ts 4, nthN ts 5, nthN ts 6, 0, 0, 0, 0, nthN ts 7, nthN ts 8, nthN ts 9, nthN ts 10, nthN ts 11, nthN ts 12, nthN es 0, nthN es 1])]
      · open Mine PySem.Calls PySem.Spec PySem.Challenge.cw_pk0039_01_holds in grind only [show E_h001 P0 w (ktop_219 w.params) from fun a d had ft => ckX (unq [6,13,26,15,25,1,12,9,5,27,8,2,14,7] [0x484462222222229c9489003f48446222222222013f27777c77777781111100af00af8811,0x11111bb6111eeee100bf00bf444011f22222dddd49c9489003f484462222222229c9489003f,0xa555613111313131113a1aa6aa6111111313111111111111111111111111,0xbb6555613111313131113a555613111313131113a555613111313131113a,0xb555613111313131113bb] [.p [] (fun al tau => pStrI ((St [a, a, a, d])) ((ft)) ((0)) (tau 7) a rfl rfl), .p [] (fun al tau => pStrI ((St [a, a, a, d])) ((ft)) ((1)) (tau 4) a rfl rfl), .p [] (fun al tau => pNeS (⟨#[a]⟩ : Str) (tau 8) (⟨#[a]⟩ : Str) (tau 9) false (ne_self _)), .p [] (fun al tau => pStrI ((St [a, a, a, d])) ((ft)) ((1)) (tau 13) a rfl rfl), .p [] (fun al tau => pStrI ((St [a, a, a, d])) ((ft)) ((2)) (tau 10) a rfl rfl), .p [] (fun al tau => pNeS (⟨#[a]⟩ : Str) (tau 14) (⟨#[a]⟩ : Str) (tau 15) false (ne_self _)), .p [] (fun al tau => pStrI ((St [a, a, a, d])) ((ft)) ((2)) (tau 19) a rfl rfl), .p [] (fun al tau => pStrI ((St [a, a, a, d])) ((ft)) ((3)) (tau 16) d rfl rfl), .p [] (fun al tau => pNeS (⟨#[a]⟩ : Str) (tau 20) (⟨#[d]⟩ : Str) (tau 21) true (ne_1 had))]) [18, 17, 16, 1, 3, 2, 6, 10, 11, 20, 15, 13] [36, 34, 38, 41, 39, 43, 46, 16, 22, 23, 24, 25, 29, 30] [12, 14] (fun ts es => [nthN ts 0, nthN ts 1, nthN ts 2, nthN ts 3, nthN ts 4, nthN ts 5, nthN ts 6, nthN ts 7, 0, 0, 1, nthN ts 8, nthN ts 9, nthN ts 10, nthN ts 11, nthN ts 12, nthN ts 13, nthN es 0, nthN es 1])]
      · open Mine PySem.Calls PySem.Spec PySem.Challenge.cw_pk0039_01_holds in grind only [show E_h010 P0 w (ktop_219 w.params) from fun a d had ft => ckX (unq [6,13,26,15,25,1,12,9,5,27,8,2,14,7] [0x484462222222229c9489003f48446222222222013f27777c77777781111100af00af8811,0x11111bb6111eeee100bf00bf444011f222229c9489003f48446222222222dddd49c9489003f,0xa555613111313131113a1aa6aa6111111313111111111111111111111111,0xbb6555613111313131113a555613111313131113a555613111313131113a,0xb555613111313131113bb] [.p [] (fun al tau => pStrI ((St [a, a, d, d])) ((ft)) ((0)) (tau 7) a rfl rfl), .p [] (fun al tau => pStrI ((St [a, a, d, d])) ((ft)) ((1)) (tau 4) a rfl rfl), .p [] (fun al tau => pNeS (⟨#[a]⟩ : Str) (tau 8) (⟨#[a]⟩ : Str) (tau 9) false (ne_self _)), .p [] (fun al tau => pStrI ((St [a, a, d, d])) ((ft)) ((1)) (tau 13) a rfl rfl), .p [] (fun al tau => pStrI ((St [a, a, d, d])) ((ft)) ((2)) (tau 10) d rfl rfl), .p [] (fun al tau => pNeS (⟨#[a]⟩ : Str) (tau 14) (⟨#[d]⟩ : Str) (tau 15) true (ne_1 had)), .p [] (fun al tau => pStrI ((St [a, a, d, d])) ((ft)) ((2)) (tau 19) d rfl rfl), .p [] (fun al tau => pStrI ((St [a, a, d, d])) ((ft)) ((3)) (tau 16) d rfl rfl), .p [] (fun al tau => pNeS (⟨#[d]⟩ : Str) (tau 20) (⟨#[d]⟩ : Str) (tau 21) false (ne_self _))]) [18, 17, 16, 1, 3, 2, 6, 10, 11, 20, 15, 13] [36, 34, 38, 41, 39, 43, 46, 10, 22, 23, 24, 25, 29, 30] [12, 14] (fun ts es => [nthN ts 0, nthN ts 1, nthN ts 2, nthN ts 3, nthN ts 4, nthN ts 5, nthN ts 6, nthN ts 7, 0, 0, 1, nthN ts 8, nthN ts 9, nthN ts 10, nthN ts 11, nthN ts 12, nthN ts 13, nthN es 0, nthN es 1])]
      · open Mine PySem.Calls PySem.Spec PySem.Challenge.cw_pk0039_01_holds in grind only [show E_h011 P0 w (ktop_219 w.params) from fun a d had ft => ckX (unq [6,13,26,15,25,1,12,9,5,27,14,8,2,7] [0x484462222222229d9489003f48446222222222013f27777d77777781111100af00af8811,0xcc6111eeee100bf00bf444011f22222bbbb49d9489003f48446222222222bbbb49d9489003f,0x13111313131113a1aa6aa611111131311111111111111111111111111111,0x5613111313131113a555613111313131113a555613111313131113aa5556,0xc555613111313131113cccc655] [.p [] (fun al tau => pStrI ((St [a, a, d, a])) ((ft)) ((0)) (tau 7) a rfl rfl), .p [] (fun al tau => pStrI ((St [a, a, d, a])) ((ft)) ((1)) (tau 4) a rfl rfl), .p [] (fun al tau => pNeS (⟨#[a]⟩ : Str) (tau 8) (⟨#[a]⟩ : Str) (tau 9) false (ne_self _)), .p [] (fun al tau => pStrI ((St [a, a, d, a])) ((ft)) ((1)) (tau 13) a rfl rfl), .p [] (fun al tau => pStrI ((St [a, a, d, a])) ((ft)) ((2)) (tau 10) d rfl rfl), .p [] (fun al tau => pNeS (⟨#[a]⟩ : Str) (tau 14) (⟨#[d]⟩ : Str) (tau 15) true (ne_1 had)), .p [] (fun al tau => pStrI ((St [a, a, d, a])) ((ft)) ((2)) (tau 19) d rfl rfl), .p [] (fun al tau => pStrI ((St [a, a, d, a])) ((ft)) ((3)) (tau 16) a rfl rfl), .p [] (fun al tau => pNeS (⟨#[d]⟩ : Str) (tau 20) (⟨#[a]⟩ : Str) (tau 21) true (ne_1' had))]) [18, 17, 16, 1, 3, 2, 6, 10, 11, 20, 15, 13] [36, 34, 38, 41, 39, 43, 46, 10, 16, 22, 23, 24, 25, 29, 30] [12, 14] (fun ts es => [nthN ts 0, nthN ts 1, nthN ts 2, nthN ts 3, nthN ts 4, nthN ts 5, nthN ts 6, nthN ts 7, nthN ts 8, 0, 2, nthN ts 9, nthN ts 10, nthN ts 11, nthN ts 12, nthN ts 13, nthN ts 14, nthN es 0, nthN es 1])]
      · open Mine PySem.Calls PySem.Spec PySem.Challenge.cw_pk0039_01_holds in grind only [show E_h100 P0 w (ktop_219 w.params) from fun a d had ft => ckX (unq [6,13,26,15,25,1,12,9,5,27,8,2,14,7] [0x222222222dddd49c9489003f48446222222222013f27777c77777781111100af00af8811,0x11111bb6111eeee100bf00bf444011f222229c9489003f484462222222229c9489003f48446,0xa555613111313131113a1aa6aa6111111313111111111111111111111111,0xbb6555613111313131113a555613111313131113a555613111313131113a,0xb555613111313131113bb] [.p [] (fun al tau => pStrI ((St [a, d, d, d])) ((ft)) ((0)) (tau 7) a rfl rfl), .p [] (fun al tau => pStrI ((St [a, d, d, d])) ((ft)) ((1)) (tau 4) d rfl rfl), .p [] (fun al tau => pNeS (⟨#[a]⟩ : Str) (tau 8) (⟨#[d]⟩ : Str) (tau 9) true (ne_1 had)), .p [] (fun al tau => pStrI ((St [a, d, d, d])) ((ft)) ((1)) (tau 13) d rfl rfl), .p [] (fun al tau => pStrI ((St [a, d, d, d])) ((ft)) ((2)) (tau 10) d rfl rfl), .p [] (fun al tau => pNeS (⟨#[d]⟩ : Str) (tau 14) (⟨#[d]⟩ : Str) (tau 15) false (ne_self _)), .p [] (fun al tau => pStrI ((St [a, d, d, d])) ((ft)) ((2)) (tau 19) d rfl rfl), .p [] (fun al tau => pStrI ((St [a, d, d, d])) ((ft)) ((3)) (tau 16) d rfl rfl), .p [] (fun al tau => pNeS (⟨#[d]⟩ : Str) (tau 20) (⟨#[d]⟩ : Str) (tau 21) false (ne_self _))]) [18, 17, 16, 1, 3, 2, 6, 10, 11, 20, 15, 13] [36, 34, 38, 41, 39, 43, 46, 4, 22, 23, 24, 25, 29, 30] [12, 14] (fun ts es => [nthN ts 0, nthN ts 1, nthN ts 2, nthN ts 3, nthN ts 4, nthN ts 5, nthN ts 6, nthN ts 7, 0, 0, 1, nthN ts 8, nthN ts 9, nthN ts 10, nthN ts 11, nthN ts 12, nthN ts 13, nthN es 0, nthN es 1])]
      · open Mine PySem.Calls PySem.Spec PySem.Challenge.cw_pk0039_01_holds in grind only [show E_h101 P0 w (ktop_219 w.params) from fun a d had ft => ckX (unq [6,13,26,15,25,1,12,9,5,27,14,8,2,7] [0x222222222bbbb49d9489003f48446222222222013f27777d77777781111100af00af8811,0xcc6111eeee100bf00bf444011f22222bbbb49d9489003f484462222222229d9489003f48446,0x13111313131113a1aa6aa611111131311111111111111111111111111111,0x5613111313131113a555613111313131113a555613111313131113aa5556,0xc555613111313131113cccc655] [.p [] (fun al tau => pStrI ((St [a, d, d, a])) ((ft)) ((0)) (tau 7) a rfl rfl), .p [] (fun al tau => pStrI ((St [a, d, d, a])) ((ft)) ((1)) (tau 4) d rfl rfl), .p [] (fun al tau => pNeS (⟨#[a]⟩ : Str) (tau 8) (⟨#[d]⟩ : Str) (tau 9) true (ne_1 had)), .p [] (fun al tau => pStrI ((St [a, d, d, a])) ((ft)) ((1)) (tau 13) d rfl rfl), .p [] (fun al tau => pStrI ((St [a, d, d, a])) ((ft)) ((2)) (tau 10) d rfl rfl), .p [] (fun al tau => pNeS (⟨#[d]⟩ : Str) (tau 14) (⟨#[d]⟩ : Str) (tau 15) false (ne_self _)), .p [] (fun al tau => pStrI ((St [a, d, d, a])) ((ft)) ((2)) (tau 19) d rfl rfl), .p [] (fun al tau => pStrI ((St [a, d, d, a])) ((ft)) ((3)) (tau 16) a rfl rfl), .p [] (fun al tau => pNeS (⟨#[d]⟩ : Str) (tau 20) (⟨#[a]⟩ : Str) (tau 21) true (ne_1' had))]) [18, 17, 16, 1, 3, 2, 6, 10, 11, 20, 15, 13] [36, 34, 38, 41, 39, 43, 46, 4, 16, 22, 23, 24, 25, 29, 30] [12, 14] (fun ts es => [nthN ts 0, nthN ts 1, nthN ts 2, nthN ts 3, nthN ts 4, nthN ts 5, nthN ts 6, nthN ts 7, nthN ts 8, 0, 2, nthN ts 9, nthN ts 10, nthN ts 11, nthN ts 12, nthN ts 13, nthN ts 14, nthN es 0, nthN es 1])]
      · open Mine PySem.Calls PySem.Spec PySem.Challenge.cw_pk0039_01_holds in grind only [show E_h110 P0 w (ktop_219 w.params) from fun a d had ft => ckX (unq [6,13,26,15,25,1,12,9,5,27,14,8,2,7] [0x222222222bbbb49d9489003f48446222222222013f27777d77777781111100af00af8811,0xcc6111eeee100bf00bf444011f222229d9489003f48446222222222bbbb49d9489003f48446,0x13111313131113a1aa6aa611111131311111111111111111111111111111,0x5613111313131113a555613111313131113a555613111313131113aa5556,0xc555613111313131113cccc655] [.p [] (fun al tau => pStrI ((St [a, d, a, a])) ((ft)) ((0)) (tau 7) a rfl rfl), .p [] (fun al tau => pStrI ((St [a, d, a, a])) ((ft)) ((1)) (tau 4) d rfl rfl), .p [] (fun al tau => pNeS (⟨#[a]⟩ : Str) (tau 8) (⟨#[d]⟩ : Str) (tau 9) true (ne_1 had)), .p [] (fun al tau => pStrI ((St [a, d, a, a])) ((ft)) ((1)) (tau 13) d rfl rfl), .p [] (fun al tau => pStrI ((St [a, d, a, a])) ((ft)) ((2)) (tau 10) a rfl rfl), .p [] (fun al tau => pNeS (⟨#[d]⟩ : Str) (tau 14) (⟨#[a]⟩ : Str) (tau 15) true (ne_1' had)), .p [] (fun al tau => pStrI ((St [a, d, a, a])) ((ft)) ((2)) (tau 19) a rfl rfl), .p [] (fun al tau => pStrI ((St [a, d, a, a])) ((ft)) ((3)) (tau 16) a rfl rfl), .p [] (fun al tau => pNeS (⟨#[a]⟩ : Str) (tau 20) (⟨#[a]⟩ : Str) (tau 21) false (ne_self _))]) [18, 17, 16, 1, 3, 2, 6, 10, 11, 20, 15, 13] [36, 34, 38, 41, 39, 43, 46, 4, 10, 22, 23, 24, 25, 29, 30] [12, 14] (fun ts es => [nthN ts 0, nthN ts 1, nthN ts 2, nthN ts 3, nthN ts 4, nthN ts 5, nthN ts 6, nthN ts 7, nthN ts 8, 0, 2, nthN ts 9, nthN ts 10, nthN ts 11, nthN ts 12, nthN ts 13, nthN ts 14, nthN es 0, nthN es 1])]
      · open Mine PySem.Calls PySem.Spec PySem.Challenge.cw_pk0039_01_holds in grind only [show E_h111 P0 w (ktop_219 w.params) from fun a d had ft => ckX (unq [6,13,26,15,25,1,14,12,9,5,27,8,2,7] [0x22222222277774ada49a003f49446222222222013f28888d88888891111100af00af9911,0x1eeee100bf00bf444011f2222277774ada49a003f4944622222222277774ada49a003f49446,0x313131113b1bb6bb611111131311111111111111111111111111111cc611,0x11313131113b555613111313131113b555613111313131113bb555613111,0xc555613111313131113cccc65556131] [.p [] (fun al tau => pStrI ((St [a, d, a, d])) ((ft)) ((0)) (tau 7) a rfl rfl), .p [] (fun al tau => pStrI ((St [a, d, a, d])) ((ft)) ((1)) (tau 4) d rfl rfl), .p [] (fun al tau => pNeS (⟨#[a]⟩ : Str) (tau 8) (⟨#[d]⟩ : Str) (tau 9) true (ne_1 had)), .p [] (fun al tau => pStrI ((St [a, d, a, d])) ((ft)) ((1)) (tau 13) d rfl rfl), .p [] (fun al tau => pStrI ((St [a, d, a, d])) ((ft)) ((2)) (tau 10) a rfl rfl), .p [] (fun al tau => pNeS (⟨#[d]⟩ : Str) (tau 14) (⟨#[a]⟩ : Str) (tau 15) true (ne_1' had)), .p [] (fun al tau => pStrI ((St [a, d, a, d])) ((ft)) ((2)) (tau 19) a rfl rfl), .p [] (fun al tau => pStrI ((St [a, d, a, d])) ((ft)) ((3)) (tau 16) d rfl rfl), .p [] (fun al tau => pNeS (⟨#[a]⟩ : Str) (tau 20) (⟨#[d]⟩ : Str) (tau 21) true (ne_1 had))]) [18, 17, 16, 1, 3, 2, 6, 10, 11, 20, 15, 13] [36, 34, 38, 41, 39, 43, 46, 4, 10, 16, 22, 23, 24, 25, 29, 30] [12, 14] (fun ts es => [nthN ts 0, nthN ts 1, nthN ts 2, nthN ts 3, nthN ts 4, nthN ts 5, nthN ts 6, nthN ts 7, nthN ts 8, nthN ts 9, 3, nthN ts 10, nthN ts 11, nthN ts 12, nthN ts 13, nthN ts 14, nthN ts 15, nthN es 0, nthN es 1])]
      · open Mine PySem.Calls PySem.Spec PySem.Challenge.cw_pk0039_01_holds in grind only [show E_o000 P0 w (ktop_219 w.params) from fun c p t => ckX (unq [6,31,17,44,1,30,24,25,32,9,18,2,26,43] [0x16f00ff00ff016f00ff00cf1100df014f014f013f1013f013fbb5010f007f00bf00bf300af1aa111a111a111a111a111a3133533533511,0x1111100ef005fc00cfb01df801df8c801df8007f015f00ef015f015fddd01cf77017f77778888dc013fddd577017f7777028f7017fc017f017f016f00ff,0x966651211121212111291995995111111212111111111111111111111111,0xbb5666512111212121112966651211121212111296665121112121211129,0x11121112111211123335111211123335b666512111212121112b111008f008f008f008f007f,0x3c33c3333533502ef44e444444e444444e44444eceee88888015f014f1028f029f029f61221112] [.p [] (fun al tau => pNeS ((St [p.c0, p.c1, p.c2, p.c3])) ((p.ft)) ((St [p.c0, p.c1, p.c2, p.c3])) ((p.ft)) false (ne_str _))]) [23] [21, 22, 23, 26, 27] [18, 19, 20, 21, 22] (fun ts es => [nthN ts 1, nthN ts 0, nthN ts 2, nthN es 0, nthN es 1, nthN es 2, nthN es 3, nthN es 4, nthN ts 3, nthN ts 4])]
      · open Mine PySem.Calls PySem.Spec PySem.Challenge.cw_pk0039_01_holds in grind only [show E_o001 P0 w (ktop_219 w.params) from fun c p t => ckX (unq [6,31,17,24,44,1,25,30,26,32,2,9,18,43] [0x16f00ff00ff016f00ff00cf1100df014f014f013f1013f013fdd6010f007f00bf00bf300af1cc111c111c111c111c111c3133633633611,0x7f015f00ef015f015f99901cf44017f444477779b013f999644017f444477779b013f999644017f4444028f4017fb017f017f016f00ff,0x2a1aa6aa61111112121111111111111111111111111111100ef005fb00cfd01df701df7b701df7,0x112a888612111212121112a888612111212121112aa88861211121212111,0x36111211123336d888612111212121112d111008f008f008f008f007fdd6888612111212121,0x55555e555555e55555ebeee77777015f014f1028f029f029f81221112111211121112111233,0x3b33b3333633602ef55e5] [.p [] (fun al tau => pNeS ((St [p.c0, p.c1, p.c2, p.c3])) ((p.ft)) ((St [p.c0, p.c1, p.c2, p.c3])) ((p.ft)) false (ne_str _))]) [23] [22, 23, 24, 27, 28] [18, 19, 20, 21, 22] (fun ts es => [nthN ts 1, nthN ts 0, nthN ts 2, nthN es 0, nthN es 1, nthN es 2, nthN es 3, nthN es 4, nthN ts 3, nthN ts 4])]
      · open Mine PySem.Calls PySem.Spec PySem.Challenge.cw_pk0039_01_holds in grind only [show E_o010 P0 w (ktop_219 w.params) from fun c p t => ckX (unq [6,31,17,24,44,1,25,30,26,32,2,9,18,43] [0x16f00ff00ff016f00ff00cf1100df014f014f013f1013f013fdd6010f007f00bf00bf300af1cc111c111c111c111c111c3133633633611,0x7f015f00ef015f015f99901cf44017f444477779b013f999644017f444477779b013f999644017f4444028f4017fb017f017f016f00ff,0x2a1aa6aa61111112121111111111111111111111111111100ef005fb00cfd01df701df7b701df7,0x112a888612111212121112a888612111212121112aa88861211121212111,0x36111211123336d888612111212121112d111008f008f008f008f007fdd6888612111212121,0x55555e555555e55555ebeee77777015f014f1028f029f029f81221112111211121112111233,0x3b33b3333633602ef55e5] [.p [] (fun al tau => pNeS ((St [p.c0, p.c1, p.c2, p.c3])) ((p.ft)) ((St [p.c0, p.c1, p.c2, p.c3])) ((p.ft)) false (ne_str _))]) [23] [22, 23, 24, 27, 28] [18, 19, 20, 21, 22] (fun ts es => [nthN ts 1, nthN ts 0, nthN ts 2, nthN es 0, nthN es 1, nthN es 2, nthN es 3, nthN es 4, nthN ts 3, nthN ts 4])]
      · open Mine PySem.Calls PySem.Spec PySem.Challenge.cw_pk0039_01_holds in grind only [show E_o011 P0 w (ktop_219 w.params) from fun c p t => ckX (unq [6,31,24,17,25,1,44,30,26,2,32,9,18,23] [0x16f00ff00ff016f00ff00cf1100df014f014f013f1013f013fdd6010f007f00bf00bf400af1cc111c111c111c111c111c4144644644611,0x559a013f999633e333355559a013f999633e333355559a013f999633e3333028f3eaee016f00ff,0x1111111111111111111111111111100ef005fa00cfd01df501df5a501df5007f015f00ef015f015f99901cf33e333355,0x1112b888612111212121112bb888612111212121112b1bb6bb6111111212,0x612111212121112d111008f008f008f008f007fdd6888612111212121112b88861211121212,0x2bfa02bf02bf02bf55555015f014f1028f029f029f8122111211121112111211124446111211124446d888,0x4a44a4444644602ef7702bf77777702bf77777702bf77777] [.p [] (fun al tau => pNeS ((St [p.c0, p.c1, p.c2, p.c3])) ((p.ft)) ((St [p.c0, p.c1, p.c2, p.c3])) ((p.ft)) false (ne_str _))]) [23] [23, 24, 25, 28, 29] [18, 19, 20, 21, 22] (fun ts es => [nthN ts 1, nthN ts 0, nthN ts 2, nthN es 0, nthN es 1, nthN es 2, nthN es 3, nthN es 4, nthN ts 3, nthN ts 4])]
      · open Mine PySem.Calls PySem.Spec PySem.Challenge.cw_pk0039_01_holds in grind only [show E_o100 P0 w (ktop_219 w.params) from fun c p t => ckX (unq [6,17,31,60,1,24,44,53,67,25,2,30,59,9] [0x16f00ff00ff016f00ff00cf1100df014f014f013f1013f013f012f012f5010f007f00bf00bf200af1ee111e111e111e111e111e2122522522511,0x7f015f00ef015f015f01af01af01af01cf66017f6666aaaa01afb013f01af01af01af566017f6666aaaa01afb013f01af01af01af566017f6666028f6017fb017f017f016f00ff,0x3020f1020f020f5020f020f51111113131111111111111111111111111111100ef005fb00cf012f01dfa01dfaba01dfa,0x113020fccc513111313131113020fccc513111313131113020f020fccc51311131313111,0x25111311132225012fccc513111313131113012f111008f008f008f008f007f012f012f5ccc513111313131,0x7777702bf77777702bf7777702bfb02bf02bf02bfaaaaa015f014f1028f029f029fc1331113111311131113111322,0x30f030f02ff02ff5010f007f00bf00bf2200af1ee111e111e111e111e111e2b222252b22b2222522502ef7702bf7,0x39f88034f8888036f036f036f036f037fb030f037f037f037f588034f8888b030f037f037f037f588034f8888062f8034fb034f034f033f00ff033f00ff00ff033f00ff00cf1100df031f031f030f1,0x51111114141111111111111111111111111111100ef005fb00cf02ff03af036f03af036fb036f03af036f007f032f00ef032f032f037f037f037f,0x1411141414111403dfddd51411141414111403df03dfddd51411141414111403df103df03df503df03df,0x41114222502ffddd51411141414111402ff111008f007f02ff02ff5ddd51411141414111403dfddd5,0x999042f999999042f99999042fb042f042f042f036f036f036f036f036f032f031f1028f040f040fd144111411141114111411142111,0x2b22225225045f99042f999] [.p [] (fun al tau => pNeS ((St [p.c0, p.c1, p.c2, p.c3])) ((p.ft)) ((St [p.c0, p.c1, p.c2, p.c3])) ((p.ft)) false (ne_str _)), .p [] (fun al tau => pNeS ((St [p.c0, p.c1, p.c2, p.c3])) ((p.ft)) ((St [p.c0, p.c1, p.c2, p.c3])) ((p.ft)) false (ne_str _))]) [23, 14, 13, 24, 3, 4, 8, 17, 16] [22, 23, 24, 27, 28, 13, 11, 15, 18, 16, 20, 30, 6] [18, 19, 20, 21, 22] (fun ts es => [nthN ts 1, nthN ts 0, nthN ts 2, nthN es 0, nthN es 1, nthN es 2, nthN es 3, nthN es 4, nthN ts 3, nthN ts 4, nthN ts 5, nthN ts 6, nthN ts 7, nthN ts 8, nthN ts 9, nthN ts 10, nthN ts 11, p.dt, p.kt 0, 2, nthN ts 12, 0, 0])]
      · open Mine PySem.Calls PySem.Spec PySem.Challenge.cw_pk0039_01_holds in grind only [show E_o101 P0 w (ktop_219 w.params) from fun c p t => ckX (unq [6,17,31,60,1,24,53,25,44,67,2,54,30,59] [0x16f00ff00ff016f00ff00cf1100df014f014f013f1013f013f012f012f5010f007f00bf00bf200af1009f009f111009f111009f111009f111009f111009f2122522522511,0x8801afb013f01af01af01af566017f6666888801afb013f01af01af01af566017f6666888801afb013f01af01af01af566017f6666028f6017fb017f017f016f00ff,0x1111111111111111111111111111100ef005fb00cf012f01df801df8b801df8007f015f00ef015f015f01af01af01af01cf66017f666688,0x1113020fddd513111313131113020f020fddd513111313131113020f1020f020f5020f020f5111111313,0x513111313131113012f111008f008f008f008f007f012f012f5ddd513111313131113020fddd51311131313,0x2bfb02bf02bf02bf88888015f014f1028f029f029fd133111311131113111311132225111311132225012fddd,0x9f111009f111009f111009f111009f2b222252b22b2222522502ef9902bf99999902bf99999902bf99999,0x577034f7777b030f037f037f037f577034f7777062f7034fb034f034f033f00ff033f00ff00ff033f00ff00cf1100df031f031f030f1030f030f02ff02ff5010f007f00bf00bf2200af1009f009f111,0x11100ef005fb00cf02ff03afc03afcbc03afc007f032f00ef032f032f037f037f037f039f77034f7777cccc037fb030f037f037f037f577034f7777cccc037fb030f037f037f037f,0xee51411141414111403df103df03df503df03df511111141411111111111111111111111111,0x5eee51411141414111403dfeee51411141414111403dfeee51411141414111403df03dfe,0x11141114111411141114211141114222502ffeee51411141414111402ff111008f007f02ff02ff,0x2b22225225045faa042faaaaaa042faaaaaa042faaaaa042fb042f042f042fccccc032f031f1028f040f040fe144] [.p [] (fun al tau => pNeS ((St [p.c0, p.c1, p.c2, p.c3])) ((p.ft)) ((St [p.c0, p.c1, p.c2, p.c3])) ((p.ft)) false (ne_str _)), .p [] (fun al tau => pNeS ((St [p.c0, p.c1, p.c2, p.c3])) ((p.ft)) ((St [p.c0, p.c1, p.c2, p.c3])) ((p.ft)) false (ne_str _))]) [23, 14, 13, 24, 3, 4, 8, 17, 16] [23, 24, 25, 28, 29, 14, 12, 16, 19, 17, 21, 31, 6] [18, 19, 20, 21, 22] (fun ts es => [nthN ts 1, nthN ts 0, nthN ts 2, nthN es 0, nthN es 1, nthN es 2, nthN es 3, nthN es 4, nthN ts 3, nthN ts 4, nthN ts 5, nthN ts 6, nthN ts 7, nthN ts 8, nthN ts 9, nthN ts 10, nthN ts 11, p.dt, p.kt 0, 3, p.kt 1, nthN ts 12, 0])]
      · open Mine PySem.Calls PySem.Spec PySem.Challenge.cw_pk0039_01_holds in grind only [show E_o110 P0 w (ktop_219 w.params) from fun c p t => ckX (unq [6,17,31,60,1,24,53,25,44,67,2,54,30,59] [0x16f00ff00ff016f00ff00cf1100df014f014f013f1013f013f012f012f5010f007f00bf00bf200af1009f009f111009f111009f111009f111009f111009f2122522522511,0x8801afb013f01af01af01af566017f6666888801afb013f01af01af01af566017f6666888801afb013f01af01af01af566017f6666028f6017fb017f017f016f00ff,0x1111111111111111111111111111100ef005fb00cf012f01df801df8b801df8007f015f00ef015f015f01af01af01af01cf66017f666688,0x1113020fddd513111313131113020f020fddd513111313131113020f1020f020f5020f020f5111111313,0x513111313131113012f111008f008f008f008f007f012f012f5ddd513111313131113020fddd51311131313,0x2bfb02bf02bf02bf88888015f014f1028f029f029fd133111311131113111311132225111311132225012fddd,0x9f111009f111009f111009f111009f2b222252b22b2222522502ef9902bf99999902bf99999902bf99999,0x577034f7777b030f037f037f037f577034f7777062f7034fb034f034f033f00ff033f00ff00ff033f00ff00cf1100df031f031f030f1030f030f02ff02ff5010f007f00bf00bf2200af1009f009f111,0x11100ef005fb00cf02ff03afc03afcbc03afc007f032f00ef032f032f037f037f037f039f77034f7777cccc037fb030f037f037f037f577034f7777cccc037fb030f037f037f037f,0xee51411141414111403df103df03df503df03df511111141411111111111111111111111111,0x5eee51411141414111403dfeee51411141414111403dfeee51411141414111403df03dfe,0x11141114111411141114211141114222502ffeee51411141414111402ff111008f007f02ff02ff,0x2b22225225045faa042faaaaaa042faaaaaa042faaaaa042fb042f042f042fccccc032f031f1028f040f040fe144] [.p [] (fun al tau => pNeS ((St [p.c0, p.c1, p.c2, p.c3])) ((p.ft)) ((St [p.c0, p.c1, p.c2, p.c3])) ((p.ft)) false (ne_str _)), .p [] (fun al tau => pNeS ((St [p.c0, p.c1, p.c2, p.c3])) ((p.ft)) ((St [p.c0, p.c1, p.c2, p.c3])) ((p.ft)) false (ne_str _))]) [23, 14, 13, 24, 3, 4, 8, 17, 16] [23, 24, 25, 28, 29, 14, 12, 16, 19, 17, 21, 31, 6] [18, 19, 20, 21, 22] (fun ts es => [nthN ts 1, nthN ts 0, nthN ts 2, nthN es 0, nthN es 1, nthN es 2, nthN es 3, nthN es 4, nthN ts 3, nthN ts 4, nthN ts 5, nthN ts 6, nthN ts 7, nthN ts 8, nthN ts 9, nthN ts 10, nthN ts 11, p.dt, p.kt 0, 3, p.kt 1, nthN ts 12, 0])]
      · open Mine PySem.Calls PySem.Spec PySem.Challenge.cw_pk0039_01_holds in grind only [show E_o111 P0 w (ktop_219 w.params) from fun c p t => ckX (unq [6,17,1,31,60,24,53,25,54,2,26,44,67,55] [0x16f00ff00ff016f00ff00cf1100df014f014f013f1013f013f012f012f3010f007f00bf00bf200af1009f009f111009f111009f111009f111009f111009f2122322322311,0x88ba013fbbb366017f66668888ba013fbbb366017f66668888ba013fbbb366017f6666028f6017fa017f017f016f00ff,0x1111111111100ef005fa00cf012f01df801df8a801df8007f015f00ef015f015fbbb01cf66017f66668888ba013fbbb366017f666688,0x41114020f020f01ef01ef01ef314111414141114020f1020f020f3020f020f3111111414111111111111111111,0x1008f008f008f008f007f012f012f301ef01ef01ef314111414141114020f01ef01ef01ef314111414141114020f01ef01ef01ef3141114141,0x44111411141114111411142223111411142223012f01ef01ef01ef314111414141114012f11,0xa222232a22a2222322302efcc02bfcccccc02bfcccccc02bfccccc02bfa02bf02bf02bf88888015f014f1028f029f029f01ef1,0x777062f7034fa034f034f033f00ff033f00ff00ff033f00ff00cf1100df031f031f030f1030f030f02ff02ff3010f007f00bf00bf2200af1009f009f111009f111009f111009f111009f111009f2,0xea030feee377034f77779999ea030feee377034f77779999ea030feee377034f7777a030feee377034f7,0x11111111111111111111111111100ef005fa00cf02ff03af903af9a903af9007f032f00ef032f032feee039f77034f77779999,0x1503df03bf03bf03bf31511151515111503df03df03bf03bf03bf31511151515111503df103df03df303df03df311111151511,0x3bf31511151515111502ff111008f007f02ff02ff303bf03bf03bf31511151515111503df03bf03bf03bf3151115151511,0xdddd042fa042f042f042f99999032f031f1028f040f040f03bf15511151115111511151115211151115222302ff03bf03bf,0x2a22223223045fdd042fdddddd042fdddddd042fd] [.p [] (fun al tau => pNeS ((St [p.c0, p.c1, p.c2, p.c3])) ((p.ft)) ((St [p.c0, p.c1, p.c2, p.c3])) ((p.ft)) false (ne_str _)), .p [] (fun al tau => pNeS ((St [p.c0, p.c1, p.c2, p.c3])) ((p.ft)) ((St [p.c0, p.c1, p.c2, p.c3])) ((p.ft)) false (ne_str _))]) [23, 14, 13, 24, 3, 4, 8, 17, 16] [24, 25, 26, 29, 30, 15, 13, 17, 20, 18, 22, 32, 6] [18, 19, 20, 21, 22] (fun ts es => [nthN ts 1, nthN ts 0, nthN ts 2, nthN es 0, nthN es 1, nthN es 2, nthN es 3, nthN es 4, nthN ts 3, nthN ts 4, nthN ts 5, nthN ts 6, nthN ts 7, nthN ts 8, nthN ts 9, nthN ts 10, nthN ts 11, p.dt, p.kt 0, 4, p.kt 1, p.kt 2, nthN ts 12])]
    · constructor
      · open Mine PySem.Calls PySem.Spec PySem.Challenge.cw_pk0039_01_holds in grind only [show E_zN0 P0 w (ktop_219 w.params) from fun c p cuts q r x y t hc hx hy hd1 hd2 hm S H => ckG (unq [7,8,1,5,2,6] [0x4113151113411154003f1111341111311111346111611351113222222222] [.p [2, 3, 4, 5, 6, 7, 8, 9, 10, 11] (fun al tau => mkCk (S ((t 0)))), .p [] (fun al tau => pFdiv ((y)) ((t 2)) ((x)) ((t 1)) (Int.fdiv y x) hx hd1 rfl), .p [] (fun al tau => pStrI ((St [p.c0, p.c1, p.c2, p.c3])) ((p.ft)) ((0)) (tau 21) 48 rfl hc), .p [] (fun al tau => pMul ((1)) (tau 16) ((x)) ((t 1)) hm), .a [0, 1, 2, 3, 12, 4, 5, 6, 7, 8, 9, 10, 11] (fun al tau => mkCk (H (al 0) [tau 5, tau 6, tau 7, tau 8, tau 9, tau 10, tau 11, tau 12, tau 13, tau 14] (nthN [(tau 1), (tau 4), (tau 15), 0, (tau 17), (tau 19)]) (nthN [(tau 3), (t 1), (tau 25), (tau 0), (tau 3), 0, 0, (tau 16), (tau 18)])))]) [0] [29, 30, 31, 32, 33, 34, 35, 36, 37, 1, 4, 15, 17, 19, 5, 6, 7, 8, 9, 10, 11, 12, 13, 14] (fun ts => [nthN ts 0, nthN ts 1, nthN ts 2, nthN ts 3, nthN ts 4, nthN ts 5, nthN ts 6, nthN ts 7, nthN ts 8, nthN ts 9, nthN ts 10, nthN ts 11, 0, nthN ts 12, nthN ts 13, nthN ts 14, nthN ts 15, nthN ts 16, nthN ts 17, nthN ts 18, nthN ts 19, nthN ts 20, nthN ts 21, nthN ts 22, nthN ts 23])]
      · open Mine PySem.Calls PySem.Spec PySem.Challenge.cw_pk0039_01_holds in grind only [show E_zE0 P0 w (ktop_219 w.params) from fun c p cuts q r x y t hc hx hy hd1 hd2 hm rs S H => ckG (unq [7,6,30,8,1,2,20,29,5,25,22] [0xaa018f017f2013fbb015f277222722272227222722271111592111211561115444444444,0x9003f111159111151161161611115115020f338333333833333383333386888aaa,0x911516111591116] [.p [2, 3, 4, 5, 6, 7, 8, 9, 10, 11] (fun al tau => mkCk (S ((t 0)))), .p [] (fun al tau => pFdiv ((y)) ((t 2)) ((x)) ((t 1)) (Int.fdiv y x) hx hd1 rfl), .p [] (fun al tau => pStrI ((St [p.c0, p.c1, p.c2, p.c3])) ((p.ft)) ((0)) (tau 39) 48 rfl hc), .p [] (fun al tau => pMul ((1)) (tau 34) ((x)) ((t 1)) hm), .a [0, 1, 2, 3, 12, 4, 5, 6, 7, 8, 9, 10, 11] (fun al tau => mkCk (H (al 0) [tau 5, tau 6, tau 7, tau 8, tau 9, tau 10, tau 11, tau 12, tau 13, tau 14] (nthN [(tau 1), (tau 4), (tau 28), (tau 32), (tau 35), (tau 37)]) (nthN [(tau 22), (t 1), (tau 43), (tau 0), (tau 22), 0, (tau 23), (tau 34), (tau 36)]) (al 1)))]) [0] [47, 48, 49, 50, 51, 52, 53, 54, 55, 1, 4, 28, 32, 35, 37, 5, 6, 7, 8, 9, 10, 11, 12, 13, 14] (idN 25)]
      · open Mine PySem.Calls PySem.Spec PySem.Challenge.cw_pk0039_01_holds in grind only [show E_zN1 P0 w (ktop_219 w.params) from fun c p cuts q r x y t hc hx hy hd1 hd2 hm S H => ckG (unq [7,8,1,5,2,6] [0x3151113411111341154003f1111341111311111346111611351113222222222,0x411] [.p [2, 3, 4, 5, 6, 7, 8, 9, 10, 11] (fun al tau => mkCk (S ((t 0)))), .p [] (fun al tau => pFdiv ((y)) ((t 2)) ((x)) ((t 1)) (Int.fdiv y x) hx hd1 rfl), .p [] (fun al tau => pStrI ((St [p.c0, p.c1, p.c2, p.c3])) ((p.ft)) ((0)) (tau 21) 49 rfl hc), .p [] (fun al tau => pFdiv ((x)) ((t 1)) ((y)) ((t 2)) (Int.fdiv x y) hy hd2 rfl), .p [] (fun al tau => pMul ((1)) (tau 16) ((y)) ((t 2)) hm), .a [0, 1, 2, 3, 12, 4, 5, 6, 7, 8, 9, 10, 11] (fun al tau => mkCk (H (al 0) [tau 5, tau 6, tau 7, tau 8, tau 9, tau 10, tau 11, tau 12, tau 13, tau 14] (nthN [(tau 1), (tau 4), (tau 15), 0, (tau 17), (tau 19)]) (nthN [(tau 3), (tau 27), (t 2), (tau 0), (tau 3), 0, 0, (tau 16), (tau 24)])))]) [0] [31, 32, 33, 34, 35, 36, 37, 38, 39, 1, 4, 15, 17, 19, 5, 6, 7, 8, 9, 10, 11, 12, 13, 14] (fun ts => [nthN ts 0, nthN ts 1, nthN ts 2, nthN ts 3, nthN ts 4, nthN ts 5, nthN ts 6, nthN ts 7, nthN ts 8, nthN ts 9, nthN ts 10, nthN ts 11, 0, nthN ts 12, nthN ts 13, nthN ts 14, nthN ts 15, nthN ts 16, nthN ts 17, nthN ts 18, nthN ts 19, nthN ts 20, nthN ts 21, nthN ts 22, nthN ts 23])]
      · open Mine PySem.Calls PySem.Spec PySem.Challenge.cw_pk0039_01_holds in grind only [show E_zE1 P0 w (ktop_219 w.params) from fun c p cuts q r x y t hc hx hy hd1 hd2 hm rs S H => ckG (unq [7,6,30,1,8,2,20,29,5,25,22] [0xaa018f017f2013fbb015f277222722272227222722271111492111211461114555555555,0x9003f111149111141161161611114114020f338333333833333383333386888aaa,0x911416111491111149116] [.p [2, 3, 4, 5, 6, 7, 8, 9, 10, 11] (fun al tau => mkCk (S ((t 0)))), .p [] (fun al tau => pFdiv ((y)) ((t 2)) ((x)) ((t 1)) (Int.fdiv y x) hx hd1 rfl), .p [] (fun al tau => pStrI ((St [p.c0, p.c1, p.c2, p.c3])) ((p.ft)) ((0)) (tau 39) 49 rfl hc), .p [] (fun al tau => pFdiv ((x)) ((t 1)) ((y)) ((t 2)) (Int.fdiv x y) hy hd2 rfl), .p [] (fun al tau => pMul ((1)) (tau 34) ((y)) ((t 2)) hm), .a [0, 1, 2, 3, 12, 4, 5, 6, 7, 8, 9, 10, 11] (fun al tau => mkCk (H (al 0) [tau 5, tau 6, tau 7, tau 8, tau 9, tau 10, tau 11, tau 12, tau 13, tau 14] (nthN [(tau 1), (tau 4), (tau 28), (tau 32), (tau 35), (tau 37)]) (nthN [(tau 22), (tau 45), (t 2), (tau 0), (tau 22), 0, (tau 23), (tau 34), (tau 42)]) (al 1)))]) [0] [49, 50, 51, 52, 53, 54, 55, 56, 57, 1, 4, 28, 32, 35, 37, 5, 6, 7, 8, 9, 10, 11, 12, 13, 14] (idN 25)]
    · constructor
      · open Mine PySem.Calls PySem.Spec PySem.Challenge.cw_pk0039_01_holds in grind only [show E_f0c P0 w (ktop_219 w.params) from fun c0 c1 c2 c3 ft ks x y A B ct pa xt yt ro at_ bt Hp rc rx ry rs rbg re rrn rqn ri rl rh hx hy HL => ckG (unq [10,23,26,1,6,8,5,2,29] [0x14114019f226222222622222262222268666111475115511411411411411455,0x789009f9007f111701bf33338333333551] [.p [0] (fun al tau => mkCk Hp), .p [3, 20, 14, 15, 4, 5, 6, 7, 8, 9, 10, 11] (fun al tau => mkCk (HL [al 1, al 2, al 3, al 4, al 5, al 6, al 7, al 8, al 9, al 10, al 11, al 12] [tau 5, tau 6, tau 7, tau 8, tau 9, tau 10, tau 11, tau 12, tau 13, tau 14, tau 15, tau 16, tau 17, tau 18, tau 19, tau 20, tau 21, tau 22, tau 23] (al 0) (al 17) (nthN [tau 0, tau 1, tau 2, tau 3, tau 4, tau 24, tau 25, tau 26]))), .p [22, 2] (fun al tau => pTupEq (al 19) ro rx (tau 31) ry (tau 32) A at_ B bt hx hy)]) [11, 12, 18] [17, 18, 19, 20, 21, 22, 23, 45, 46, 47, 48, 49, 50, 51, 52, 53, 54] (idN 17)]
      · open Mine PySem.Calls PySem.Spec PySem.Challenge.cw_pk0039_01_holds in grind only [show E_f1c P0 w (ktop_219 w.params) from fun c0 c1 c2 c3 ft ks x y A B ct pa xt yt ro at_ bt Hp rc rx ry rs rbg re rrn rqn ri rl rh hx hy HL => ckG (unq [10,23,26,1,6,8,5,2,29] [0x14114019f226222222622222262222268666111475115511411411411411455,0x789009f9007f111701bf33338333333551] [.p [0] (fun al tau => mkCk Hp), .p [3, 20, 14, 15, 4, 5, 6, 7, 8, 9, 10, 11] (fun al tau => mkCk (HL [al 1, al 2, al 3, al 4, al 5, al 6, al 7, al 8, al 9, al 10, al 11, al 12] [tau 5, tau 6, tau 7, tau 8, tau 9, tau 10, tau 11, tau 12, tau 13, tau 14, tau 15, tau 16, tau 17, tau 18, tau 19, tau 20, tau 21, tau 22, tau 23] (al 0) (al 17) (nthN [tau 0, tau 1, tau 2, tau 3, tau 4, tau 24, tau 25, tau 26]))), .p [22, 2] (fun al tau => pTupEq (al 19) ro rx (tau 31) ry (tau 32) A at_ B bt hx hy)]) [11, 12, 18] [17, 18, 19, 20, 21, 22, 23, 45, 46, 47, 48, 49, 50, 51, 52, 53, 54] (idN 17)]
    · constructor
      · open Mine PySem.Calls PySem.Spec PySem.Challenge.cw_pk0039_01_holds in grind only [show E_lh0 P0 w (ktop_219 w.params) from fun vs n hl hl2 n0 n1 tf rest hrl hn ra rb hra hrb hla hlb hga hgb k hk hke w1 w2 hw1 hw2 first second hp1 hp2 hsz hpar N1 L1 N2 L2 G1 G2 G3 T Du m1 m2 hc1 hc2 hN1 hL1 hN2 hL2 => ckH (unq [6,10,42,5,1,45,37,47,17,44,41,24,18,20] [0x1122599999299999222549999924999992225400ff00ff00ff4007f00ef007f400cf00cf00cf42112122511,0x24424242225225016fee013feeeeee013feeeeee013feeeee013f002f013f013f013f4002fddddd2114002fddddd2,0x221225002f42225441449999922122254144999992212252254017f017f017f424424424,0x26f026f511111171711111111111111111111111111111019f019f5111009f009f009f009f1101bf01bf01af01af111,0x24f517111717171117026f024f024f024f517111717171117026f026f024f024f024f517111717171117026f1026f026f5,0x24f71111711171117019f024f024f024f517111717171117019f019f019f019f5024f024f024f517111717171117026f024f024f,0x11111111111111111111111111019f1027f027f027f027f028f027f027f027f027f024f17711171117028f1028f028f5028f028f5111,0x1302bfbbb51311131313111302bf02bfbbb51311131313111302bf102bf02bf502bf02bf511111131311,0x222541b311113111311132225bbb51311131313111302bfbbb5131113131311,0x131113030f1030f030f5030f030f5111666662b311113111311132225b133111311132ccccc,0xb13311131113031f1031f031f5031f031f5111666662b311113111311132aaaa030faaaab13311,0x11b311113111311132666628888b133111311132ccccc288882aaaa031faaaa,0x888222541216666aaaaaaaaab13311131113033faaaaab13311131113033f1033f033f51,0xccc288882666641b311113111311132666628888b133111311132ccccc28,0x132ccccc288882666641b311113111311132666628888b133111311132cc,0x242112254242114002f6077f6007f22224002f034f057f034f007f41ddddd2ddddd2128888b133111311,0x4f07df07cf002f07cf07cf499924002f807af8007f2222222254] [.p [0] (fun al tau => pLenL 114 vs n (by omega)), .p [5, 6] (fun al tau => pCutL (al 2) ([.int 2 (tau 1), .int 6 (tau 2), .int 11 (tau 3), .int 4 (tau 4)] : List Value) 0 (al 3) (.int ((vs.length : Nat) : Int) (tau 5)) .none (some ((vs.length : Nat) : Int)) none (.int _ _) .none (([.int 2 (tau 1), .int 6 (tau 2), .int 11 (tau 3), .int 4 (tau 4)] : List Value).drop vs.length) (by first | exact lnA hl2 | exact lnB hl2 | exact lnC) (cut_from _ _)), .p [0, 7] (fun al tau => pAddL 114 vs n (al 4) (([.int 2 (tau 1), .int 6 (tau 2), .int 11 (tau 3), .int 4 (tau 4)] : List Value).drop vs.length) 0 (by first | exact lnA hl2 | exact lnB hl2 | exact lnC)), .p [8, 9] (fun al tau => pCutL (al 5) (app vs (([.int 2 (tau 1), .int 6 (tau 2), .int 11 (tau 3), .int 4 (tau 4)] : List Value).drop vs.length)) 0 (al 6) .none (.int 5 (tau 6)) none (some 5) .none (.int _ _) (.int n0 (tf 0 (tau 1) (tau 2) (tau 3) (tau 4)) :: .int n1 (tf 1 (tau 1) (tau 2) (tau 3) (tau 4)) :: rest (tau 1) (tau 2) (tau 3) (tau 4)) (by first | exact lnA hl2 | exact lnB hl2 | exact lnC) (by rw [cut_to5, hn])), .p [] (fun al tau => pMod ((n0)) ((tf 0 (clamp tau 7 1) (clamp tau 7 2) (clamp tau 7 3) (clamp tau 7 4))) ((1000)) (tau 9) ra rfl hra), .p [] (fun al tau => pMod ((n1)) ((tf 1 (clamp tau 7 1) (clamp tau 7 2) (clamp tau 7 3) (clamp tau 7 4))) ((1000)) (tau 14) rb rfl hrb), .p [] (fun al tau => pRepr ((ra + 1)) (tau 12) hga (Nat.le_trans hla (by decide))), .p [] (fun al tau => pRepr ((rb + 1)) (tau 17) hgb (Nat.le_trans hlb (by decide))), .p [] (fun al tau => pAdd ((strI (ra + 1))) (tau 24) ((St [46])) (tau 29) (szq (by repeat (first | exact lfs hsz | exact hla | exact hlb | apply lapp | exact lz _)) (by decide))), .p [] (fun al tau => pAdd ((strI (ra + 1) ++ St [46])) (tau 30) ((strI (rb + 1))) (tau 26) (szq (by repeat (first | exact lfs hsz | exact hla | exact hlb | apply lapp | exact lz _)) (by decide))), .p [] (fun al tau => pAdd ((St [43])) (tau 32) ((strI (ra + 1))) (tau 24) (szq (by repeat (first | exact lfs hsz | exact hla | exact hlb | apply lapp | exact lz _)) (by decide))), .p [] (fun al tau => pAdd ((St [43] ++ strI (ra + 1))) (tau 33) ((St [46, 48])) (tau 34) (szq (by repeat (first | exact lfs hsz | exact hla | exact hlb | apply lapp | exact lz _)) (by decide))), .p [] (fun al tau => pAdd ((St [43] ++ strI (ra + 1) ++ St [46, 48])) (tau 35) ((strI (rb + 1))) (tau 26) (szq (by repeat (first | exact lfs hsz | exact hla | exact hlb | apply lapp | exact lz _)) (by decide))), .p [] (fun al tau => pAdd ((St [32])) (tau 37) ((strI (ra + 1))) (tau 24) (szq (by repeat (first | exact lfs hsz | exact hla | exact hlb | apply lapp | exact lz _)) (by decide))), .p [] (fun al tau => pAdd ((St [32] ++ strI (ra + 1))) (tau 38) ((St [32, 46, 10])) (tau 39) (szq (by repeat (first | exact lfs hsz | exact hla | exact hlb | apply lapp | exact lz _)) (by decide))), .p [] (fun al tau => pAdd ((St [32] ++ strI (ra + 1) ++ St [32, 46, 10])) (tau 40) ((strI (rb + 1))) (tau 26) (szq (by repeat (first | exact lfs hsz | exact hla | exact hlb | apply lapp | exact lz _)) (by decide))), .p [] (fun al tau => pAdd ((St [32] ++ strI (ra + 1) ++ St [32, 46, 10] ++ strI (rb + 1))) (tau 41) ((St [32])) (tau 42) (szq (by repeat (first | exact lfs hsz | exact hla | exact hlb | apply lapp | exact lz _)) (by decide))), .p [] (fun al tau => pMod ((n0 + n1)) (tau 21) ((3)) (tau 44) k rfl hke), .p [16] (fun al tau => pListI (al 13) [.str (strI (ra + 1) ++ (⟨#[46]⟩ : Str) ++ strI (rb + 1)) (tau 31), .str ((⟨#[43]⟩ : Str) ++ strI (ra + 1) ++ (⟨#[46, 48]⟩ : Str) ++ strI (rb + 1)) (tau 36), .str ((⟨#[32]⟩ : Str) ++ strI (ra + 1) ++ (⟨#[32, 46, 10]⟩ : Str) ++ strI (rb + 1) ++ (⟨#[32]⟩ : Str)) (tau 43)] 0 ((↑k)) (tau 45) _ (by omega) (by omega) (word3 (ra + 1) (rb + 1) (tau 31) (tau 36) (tau 43) k hk)), .p [] (fun al tau => pFdiv ((n0)) ((tf 0 (clamp tau 7 1) (clamp tau 7 2) (clamp tau 7 3) (clamp tau 7 4))) ((2)) (tau 50) (Int.fdiv n0 2) rfl rfl rfl), .p [] (fun al tau => pMod ((n0.fdiv 2)) (tau 51) ((64)) (tau 52) w1 rfl hw1), .p [] (fun al tau => mkCk (hp1 ((nthN [clamp tau 46 31, clamp tau 46 36, clamp tau 46 43] k)) (tau 53))), .p [] (fun al tau => pFdiv ((n1)) ((tf 1 (clamp tau 7 1) (clamp tau 7 2) (clamp tau 7 3) (clamp tau 7 4))) ((2)) (tau 57) (Int.fdiv n1 2) rfl rfl rfl), .p [] (fun al tau => pMod ((n1.fdiv 2)) (tau 58) ((64)) (tau 59) w2 rfl hw2), .p [] (fun al tau => mkCk (hp2 (tau 47) (tau 60))), .p [] (fun al tau => pAdd ((first)) (tau 54) ((second)) (tau 61) (szq (by repeat (first | exact lfs hsz | exact hla | exact hlb | apply lapp | exact lz _)) (by decide))), .p [] (fun al tau => pMod ((n0 + n1)) (tau 21) ((2)) (tau 64) 0 rfl hpar), .p [37, 35, 34, 30, 29, 28, 27, 19, 20, 17] (fun al tau => gtK (G1 (lpM w (fun i => al (15 + i)) (fun i => tau (69 + i)) (first ++ second) (tau 62) (al 14) 0) ⟨0, 1, (tau 67), (tau 100)⟩ 0 rfl rfl rfl)), .p [37, 35, 34] (fun al tau => mkCk (T (lpM w (fun i => al (15 + i)) (fun i => tau (69 + i)) (first ++ second) (tau 62) (al 14) 0) L1 (tau 112) (tau 113) 3)), .p [37, 35, 34, 30, 29, 28, 27, 19, 20, 17] (fun al tau => gtK (G2 (lpM w (fun i => al (15 + i)) (fun i => tau (69 + i)) (first ++ second) (tau 62) (al 14) 0) ⟨N1, L1, (tau 111), (tau 112)⟩ 64 rfl rfl rfl)), .p [37, 35, 34, 30, 29, 28, 27, 19, 20, 17] (fun al tau => gtK (G3 (lpM w (fun i => al (15 + i)) (fun i => tau (69 + i)) (first ++ second) (tau 62) (al 14) 0) ⟨N2, L2, (tau 199), (tau 200)⟩ 64 rfl rfl rfl)), .p [] (fun al tau => mkCk (Du (tau 12) (tau 17))), .p [45, 80, 46, 47, 48, 49, 50, 51, 52, 53, 54, 55, 56, 57, 58, 59, 60, 61, 62, 63, 64, 65, 66, 67, 68, 69, 70, 71, 72, 73, 74, 75, 76, 81, 82, 83, 84, 85, 86, 87, 88, 89, 90, 91, 92, 93, 94, 95, 96, 97, 98, 99, 100, 101, 102, 103, 104, 105, 106, 107, 108, 109, 110, 111] (fun al tau => pNeLP (al 42) (mapN Value.ref (listFrom al 43 31)) 31 (al 77) (mapN Value.ref (listFrom al 78 31)) 31 (R.appendR (zipN (listFrom al 43 31) (tupsOf (trV (ra + 1) (rb + 1)) (listFrom tau 134 62))) (zipN (listFrom al 78 31) (tupsOf (dueV (ra + 1) (rb + 1)) (listFrom tau 211 62)))) (same_td _ _ _ _ _ _ (lf_len _ _ _) (lf_len _ _ _))), .p [38, 112] (fun al tau => pNeLS (al 35) [.str (wordOf (ra + 1) (rb + 1) k) (tau 113), .str (wordOf (ra + 1) (rb + 1) k) (tau 113), .str (⟨#[35, 32, 34, 92, 110, 32]⟩ : Str) (tau 201), .str (⟨#[]⟩ : Str) (tau 206)] 3 (al 109) [.str (wordOf (ra + 1) (rb + 1) k) ((nthN [clamp tau 46 31, clamp tau 46 36, clamp tau 46 43] k)), .str (wordOf (ra + 1) (rb + 1) k) ((nthN [clamp tau 46 31, clamp tau 46 36, clamp tau 46 43] k)), .str (⟨#[35, 32, 34, 92, 110, 32]⟩ : Str) (tau 47), .str (⟨#[]⟩ : Str) (tau 273)] 0 (fun A s => ⟨eqS A s _ _ _, eqS A s _ _ _, eqS A s _ _ _, eqS A s _ _ _, trivial⟩)), .p [] (fun al tau => pLenS ((first)) (tau 54) (by first | omega | (simp only [len_app]; omega))), .p [] (fun al tau => pCnt first (tau 54) ⟨#[10]⟩ (tau 276) m1 hc1), .p [] (fun al tau => pLenS ((first ++ second)) (tau 62) (by first | omega | (simp only [len_app]; omega))), .p [] (fun al tau => pCnt (first ++ second) (tau 62) ⟨#[10]⟩ (tau 282) m2 hc2), .p [40, 115, 39, 43, 77, 78, 79, 113, 114] (fun al tau => pNeLP (al 37) [.ref (al 36), .ref (al 40), .ref (al 74), .ref (al 75), .ref (al 76)] 4 (al 112) [.ref (al 110), .ref (al 110), .ref (al 110), .ref (al 111), .ref (al 111)] 0 [(al 36, prO N1 (tau 111) L1 (tau 112)), (al 40, prO N1 (tau 111) L1 (tau 112)), (al 74, prO N1 (tau 111) L1 (tau 112)), (al 75, prO N2 (tau 199) L2 (tau 200)), (al 76, prO N2 (tau 204) L2 (tau 205)), (al 110, prO ((first.length : Nat) : Int) (tau 274) (1 + ((m1 : Nat) : Int)) (tau 278)), (al 111, prO ((((first ++ second).length : Nat) : Nat) : Int) (tau 280) (1 + ((m2 : Nat) : Int)) (tau 284))] (.cons (al 36) (al 110) N1 L1 ((first.length : Nat) : Int) (1 + ((m1 : Nat) : Int)) _ _ _ _ (by repeat (first | exact List.Mem.head _ | apply List.Mem.tail)) (by repeat (first | exact List.Mem.head _ | apply List.Mem.tail)) hN1 hL1 (.cons (al 40) (al 110) N1 L1 ((first.length : Nat) : Int) (1 + ((m1 : Nat) : Int)) _ _ _ _ (by repeat (first | exact List.Mem.head _ | apply List.Mem.tail)) (by repeat (first | exact List.Mem.head _ | apply List.Mem.tail)) hN1 hL1 (.cons (al 74) (al 110) N1 L1 ((first.length : Nat) : Int) (1 + ((m1 : Nat) : Int)) _ _ _ _ (by repeat (first | exact List.Mem.head _ | apply List.Mem.tail)) (by repeat (first | exact List.Mem.head _ | apply List.Mem.tail)) hN1 hL1 (.cons (al 75) (al 111) N2 L2 ((((first ++ second).length : Nat) : Nat) : Int) (1 + ((m2 : Nat) : Int)) _ _ _ _ (by repeat (first | exact List.Mem.head _ | apply List.Mem.tail)) (by repeat (first | exact List.Mem.head _ | apply List.Mem.tail)) hN2 hL2 (.cons (al 76) (al 111) N2 L2 ((((first ++ second).length : Nat) : Nat) : Int) (1 + ((m2 : Nat) : Int)) _ _ _ _ (by repeat (first | exact List.Mem.head _ | apply List.Mem.tail)) (by repeat (first | exact List.Mem.head _ | apply List.Mem.tail)) hN2 hL2 (.nil _))))))), .p [10, 116] (fun al tau => pCutL (al 7) (.int n0 (tf 0 (tau 1) (tau 2) (tau 3) (tau 4)) :: .int n1 (tf 1 (tau 1) (tau 2) (tau 3) (tau 4)) :: rest (tau 1) (tau 2) (tau 3) (tau 4)) 0 (al 113) (.int 2 (tau 286)) .none (some ((2 : Nat) : Int)) none (.int _ _) .none (rest (tau 1) (tau 2) (tau 3) (tau 4)) (lnD (hrl (tau 1) (tau 2) (tau 3) (tau 4))) (cut_from _ 2))]) [] [0, 1, 8, 114, 115, 42, 43, 44, 45, 46, 47, 48, 49, 50, 51, 52, 53, 54, 55, 56, 57, 58, 59, 60, 61, 62, 63, 64, 65, 66, 67, 68, 69, 70, 71, 72, 73] [0, 7, 18, 22, 27, 28, 46, 48, 55, 63, 68, 110, 114, 117, 196, 279, 285, 21, 26, 24, 31, 36, 43, 47, 54, 62, 12, 17, 1, 2, 3, 4, 134, 135, 136, 137, 138, 139, 140, 141, 142, 143, 144, 145, 146, 147, 148, 149, 150, 151, 152, 153, 154, 155, 156, 157, 158, 159, 160, 161, 162, 163, 164, 165, 166, 167, 168, 169, 170, 171, 172, 173, 174, 175, 176, 177, 178, 179, 180, 181, 182, 183, 184, 185, 186, 187, 188, 189, 190, 191, 192, 193, 194, 195] [7, 14, 32, 35, 37, 110, 111, 24] (fun ts es => [nthN ts 0, nthN ts 1, nthN ts 2, nthN ts 3, nthN ts 4, nthN ts 5, nthN ts 6, nthN ts 7, nthN ts 8, nthN ts 9, nthN ts 10, nthN ts 11, nthN ts 12, nthN ts 13, nthN ts 14, nthN ts 15, nthN ts 16, nthN ts 17, nthN ts 18, nthN ts 19, nthN [nthN ts 20, nthN ts 21, nthN ts 22] k, nthN ts 23, nthN ts 24, nthN ts 25, nthN es 0, nthN es 1, nthN es 2, nthN es 3, nthN es 4, nthN es 5, nthN es 6, nthN ts 26, nthN ts 27, nthN ts 28, nthN ts 29, nthN ts 30, nthN ts 31, nthN es 7, nthN ts 32, nthN ts 33, nthN ts 34, nthN ts 35, nthN ts 36, nthN ts 37, nthN ts 38, nthN ts 39, nthN ts 40, nthN ts 41, nthN ts 42, nthN ts 43, nthN ts 44, nthN ts 45, nthN ts 46, nthN ts 47, nthN ts 48, nthN ts 49, nthN ts 50, nthN ts 51, nthN ts 52, nthN ts 53, nthN ts 54, nthN ts 55, nthN ts 56, nthN ts 57, nthN ts 58, nthN ts 59, nthN ts 60, nthN ts 61, nthN ts 62, nthN ts 63, nthN ts 64, nthN ts 65, nthN ts 66, nthN ts 67, nthN ts 68, nthN ts 69, nthN ts 70, nthN ts 71, nthN ts 72, nthN ts 73, nthN ts 74, nthN ts 75, nthN ts 76, nthN ts 77, nthN ts 78, nthN ts 79, nthN ts 80, nthN ts 81, nthN ts 82, nthN ts 83, nthN ts 84, nthN ts 85, nthN ts 86, nthN ts 87, nthN ts 88, nthN ts 89, nthN ts 90, nthN ts 91, nthN ts 92, nthN ts 93])]
      · open Mine PySem.Calls PySem.Spec PySem.Challenge.cw_pk0039_01_holds in grind only [show E_lh1 P0 w (ktop_219 w.params) from fun vs n hl hl2 n0 n1 tf rest hrl hn ra rb hra hrb hla hlb hga hgb k hk hke w1 w2 hw1 hw2 first second hp1 hp2 hsz hpar text htx htl N1 L1 N2 L2 G1 G2 G3 T Du m1 m2 hc1 hc2 hN1 hL1 hN2 hL2 => ckH (unq [6,10,43,5,1,46,38,48,17,45,42,25,18,20] [0x1122599999299999222549999924999992225400ff00ff00ff4007f00ef007f400cf00cf00cf42112122511,0x24424242225225016fee013feeeeee013feeeeee013feeeee013f002f013f013f013f4002fddddd2114002fddddd2,0x2254003f2002f42225441449999922122254144999992212252254017f017f017f424424424,0x1117171111111111111111111111111111101af01af5111009f009f009f009f1101cf01cf01bf01bf111221225,0x1717171117027f025f025f025f517111717171117027f027f025f025f025f517111717171117027f1027f027f5027f027f5111,0x71117111701af025f025f025f51711171717111701af01af01af01af5025f025f025f517111717171117027f025f025f025f51711,0x1111111111111111111101af1028f028f028f028f029f028f028f028f028f025f17711171117029f1029f029f5029f029f5111025f71111,0x51311131313111302cf02cfbbb51311131313111302cf102cf02cf502cf02cf511111131311111111,0xb311113111311132225bbb51311131313111302cfbbb51311131313111302cfbbb,0x31f1031f031f5031f031f5111666662b311113111311132225b133111311132ccccc222541,0x131113032f1032f032f5032f032f5111666662b311113111311132aaaa031faaaab13311131113,0x113111311132666628888b133111311132ccccc288882aaaa032faaaab13311,0x541216666aaaaaaaaab13311131113034faaaaab13311131113034f1034f034f5111b311,0x882666641b311113111311132666628888b133111311132ccccc28888222,0xcc288882666641b311113111311132666628888b133111311132ccccc288,0x254242114002f6078f6007f22224002f035f058f035f007f41ddddd2ddddd2128888b133111311132ccc,0x4f07ef07df002f07df07df499924002f807bf8007f2222222254242112] [.p [0] (fun al tau => pLenL 114 vs n (by omega)), .p [5, 6] (fun al tau => pCutL (al 2) ([.int 2 (tau 1), .int 6 (tau 2), .int 11 (tau 3), .int 4 (tau 4)] : List Value) 0 (al 3) (.int ((vs.length : Nat) : Int) (tau 5)) .none (some ((vs.length : Nat) : Int)) none (.int _ _) .none (([.int 2 (tau 1), .int 6 (tau 2), .int 11 (tau 3), .int 4 (tau 4)] : List Value).drop vs.length) (by first | exact lnA hl2 | exact lnB hl2 | exact lnC) (cut_from _ _)), .p [0, 7] (fun al tau => pAddL 114 vs n (al 4) (([.int 2 (tau 1), .int 6 (tau 2), .int 11 (tau 3), .int 4 (tau 4)] : List Value).drop vs.length) 0 (by first | exact lnA hl2 | exact lnB hl2 | exact lnC)), .p [8, 9] (fun al tau => pCutL (al 5) (app vs (([.int 2 (tau 1), .int 6 (tau 2), .int 11 (tau 3), .int 4 (tau 4)] : List Value).drop vs.length)) 0 (al 6) .none (.int 5 (tau 6)) none (some 5) .none (.int _ _) (.int n0 (tf 0 (tau 1) (tau 2) (tau 3) (tau 4)) :: .int n1 (tf 1 (tau 1) (tau 2) (tau 3) (tau 4)) :: rest (tau 1) (tau 2) (tau 3) (tau 4)) (by first | exact lnA hl2 | exact lnB hl2 | exact lnC) (by rw [cut_to5, hn])), .p [] (fun al tau => pMod ((n0)) ((tf 0 (clamp tau 7 1) (clamp tau 7 2) (clamp tau 7 3) (clamp tau 7 4))) ((1000)) (tau 9) ra rfl hra), .p [] (fun al tau => pMod ((n1)) ((tf 1 (clamp tau 7 1) (clamp tau 7 2) (clamp tau 7 3) (clamp tau 7 4))) ((1000)) (tau 14) rb rfl hrb), .p [] (fun al tau => pRepr ((ra + 1)) (tau 12) hga (Nat.le_trans hla (by decide))), .p [] (fun al tau => pRepr ((rb + 1)) (tau 17) hgb (Nat.le_trans hlb (by decide))), .p [] (fun al tau => pAdd ((strI (ra + 1))) (tau 24) ((St [46])) (tau 29) (szq (by repeat (first | exact lfs hsz | exact hla | exact hlb | apply lapp | exact lz _)) (by decide))), .p [] (fun al tau => pAdd ((strI (ra + 1) ++ St [46])) (tau 30) ((strI (rb + 1))) (tau 26) (szq (by repeat (first | exact lfs hsz | exact hla | exact hlb | apply lapp | exact lz _)) (by decide))), .p [] (fun al tau => pAdd ((St [43])) (tau 32) ((strI (ra + 1))) (tau 24) (szq (by repeat (first | exact lfs hsz | exact hla | exact hlb | apply lapp | exact lz _)) (by decide))), .p [] (fun al tau => pAdd ((St [43] ++ strI (ra + 1))) (tau 33) ((St [46, 48])) (tau 34) (szq (by repeat (first | exact lfs hsz | exact hla | exact hlb | apply lapp | exact lz _)) (by decide))), .p [] (fun al tau => pAdd ((St [43] ++ strI (ra + 1) ++ St [46, 48])) (tau 35) ((strI (rb + 1))) (tau 26) (szq (by repeat (first | exact lfs hsz | exact hla | exact hlb | apply lapp | exact lz _)) (by decide))), .p [] (fun al tau => pAdd ((St [32])) (tau 37) ((strI (ra + 1))) (tau 24) (szq (by repeat (first | exact lfs hsz | exact hla | exact hlb | apply lapp | exact lz _)) (by decide))), .p [] (fun al tau => pAdd ((St [32] ++ strI (ra + 1))) (tau 38) ((St [32, 46, 10])) (tau 39) (szq (by repeat (first | exact lfs hsz | exact hla | exact hlb | apply lapp | exact lz _)) (by decide))), .p [] (fun al tau => pAdd ((St [32] ++ strI (ra + 1) ++ St [32, 46, 10])) (tau 40) ((strI (rb + 1))) (tau 26) (szq (by repeat (first | exact lfs hsz | exact hla | exact hlb | apply lapp | exact lz _)) (by decide))), .p [] (fun al tau => pAdd ((St [32] ++ strI (ra + 1) ++ St [32, 46, 10] ++ strI (rb + 1))) (tau 41) ((St [32])) (tau 42) (szq (by repeat (first | exact lfs hsz | exact hla | exact hlb | apply lapp | exact lz _)) (by decide))), .p [] (fun al tau => pMod ((n0 + n1)) (tau 21) ((3)) (tau 44) k rfl hke), .p [16] (fun al tau => pListI (al 13) [.str (strI (ra + 1) ++ (⟨#[46]⟩ : Str) ++ strI (rb + 1)) (tau 31), .str ((⟨#[43]⟩ : Str) ++ strI (ra + 1) ++ (⟨#[46, 48]⟩ : Str) ++ strI (rb + 1)) (tau 36), .str ((⟨#[32]⟩ : Str) ++ strI (ra + 1) ++ (⟨#[32, 46, 10]⟩ : Str) ++ strI (rb + 1) ++ (⟨#[32]⟩ : Str)) (tau 43)] 0 ((↑k)) (tau 45) _ (by omega) (by omega) (word3 (ra + 1) (rb + 1) (tau 31) (tau 36) (tau 43) k hk)), .p [] (fun al tau => pFdiv ((n0)) ((tf 0 (clamp tau 7 1) (clamp tau 7 2) (clamp tau 7 3) (clamp tau 7 4))) ((2)) (tau 50) (Int.fdiv n0 2) rfl rfl rfl), .p [] (fun al tau => pMod ((n0.fdiv 2)) (tau 51) ((64)) (tau 52) w1 rfl hw1), .p [] (fun al tau => mkCk (hp1 ((nthN [clamp tau 46 31, clamp tau 46 36, clamp tau 46 43] k)) (tau 53))), .p [] (fun al tau => pFdiv ((n1)) ((tf 1 (clamp tau 7 1) (clamp tau 7 2) (clamp tau 7 3) (clamp tau 7 4))) ((2)) (tau 57) (Int.fdiv n1 2) rfl rfl rfl), .p [] (fun al tau => pMod ((n1.fdiv 2)) (tau 58) ((64)) (tau 59) w2 rfl hw2), .p [] (fun al tau => mkCk (hp2 (tau 47) (tau 60))), .p [] (fun al tau => pAdd ((first)) (tau 54) ((second)) (tau 61) (szq (by repeat (first | exact lfs hsz | exact hla | exact hlb | apply lapp | exact lz _)) (by decide))), .p [] (fun al tau => pMod ((n0 + n1)) (tau 21) ((2)) (tau 64) 1 rfl hpar), .p [17] (fun al tau => pButL (first ++ second) (tau 62) (al 14) (-1) (tau 68) text (htx _ _) (Nat.le_trans htl (by decide))), .p [38, 36, 35, 31, 30, 29, 28, 20, 21, 18] (fun al tau => gtK (G1 (lpM w (fun i => al (16 + i)) (fun i => tau (73 + i)) text (tau 69) (al 15) 0) ⟨0, 1, (tau 71), (tau 104)⟩ 0 rfl rfl rfl)), .p [38, 36, 35] (fun al tau => mkCk (T (lpM w (fun i => al (16 + i)) (fun i => tau (73 + i)) text (tau 69) (al 15) 0) L1 (tau 116) (tau 117) 3)), .p [38, 36, 35, 31, 30, 29, 28, 20, 21, 18] (fun al tau => gtK (G2 (lpM w (fun i => al (16 + i)) (fun i => tau (73 + i)) text (tau 69) (al 15) 0) ⟨N1, L1, (tau 115), (tau 116)⟩ 64 rfl rfl rfl)), .p [38, 36, 35, 31, 30, 29, 28, 20, 21, 18] (fun al tau => gtK (G3 (lpM w (fun i => al (16 + i)) (fun i => tau (73 + i)) text (tau 69) (al 15) 0) ⟨N2, L2, (tau 203), (tau 204)⟩ 64 rfl rfl rfl)), .p [] (fun al tau => mkCk (Du (tau 12) (tau 17))), .p [46, 81, 47, 48, 49, 50, 51, 52, 53, 54, 55, 56, 57, 58, 59, 60, 61, 62, 63, 64, 65, 66, 67, 68, 69, 70, 71, 72, 73, 74, 75, 76, 77, 82, 83, 84, 85, 86, 87, 88, 89, 90, 91, 92, 93, 94, 95, 96, 97, 98, 99, 100, 101, 102, 103, 104, 105, 106, 107, 108, 109, 110, 111, 112] (fun al tau => pNeLP (al 43) (mapN Value.ref (listFrom al 44 31)) 31 (al 78) (mapN Value.ref (listFrom al 79 31)) 31 (R.appendR (zipN (listFrom al 44 31) (tupsOf (trV (ra + 1) (rb + 1)) (listFrom tau 138 62))) (zipN (listFrom al 79 31) (tupsOf (dueV (ra + 1) (rb + 1)) (listFrom tau 215 62)))) (same_td _ _ _ _ _ _ (lf_len _ _ _) (lf_len _ _ _))), .p [39, 113] (fun al tau => pNeLS (al 36) [.str (wordOf (ra + 1) (rb + 1) k) (tau 117), .str (wordOf (ra + 1) (rb + 1) k) (tau 117), .str (⟨#[35, 32, 34, 92, 110, 32]⟩ : Str) (tau 205), .str (⟨#[]⟩ : Str) (tau 210)] 3 (al 110) [.str (wordOf (ra + 1) (rb + 1) k) ((nthN [clamp tau 46 31, clamp tau 46 36, clamp tau 46 43] k)), .str (wordOf (ra + 1) (rb + 1) k) ((nthN [clamp tau 46 31, clamp tau 46 36, clamp tau 46 43] k)), .str (⟨#[35, 32, 34, 92, 110, 32]⟩ : Str) (tau 47), .str (⟨#[]⟩ : Str) (tau 277)] 0 (fun A s => ⟨eqS A s _ _ _, eqS A s _ _ _, eqS A s _ _ _, eqS A s _ _ _, trivial⟩)), .p [] (fun al tau => pLenS ((first)) (tau 54) (by first | omega | (simp only [len_app]; omega))), .p [] (fun al tau => pCnt first (tau 54) ⟨#[10]⟩ (tau 280) m1 hc1), .p [] (fun al tau => pLenS ((text)) (tau 69) (by first | omega | (simp only [len_app]; omega))), .p [] (fun al tau => pCnt text (tau 69) ⟨#[10]⟩ (tau 286) m2 hc2), .p [41, 116, 40, 44, 78, 79, 80, 114, 115] (fun al tau => pNeLP (al 38) [.ref (al 37), .ref (al 41), .ref (al 75), .ref (al 76), .ref (al 77)] 4 (al 113) [.ref (al 111), .ref (al 111), .ref (al 111), .ref (al 112), .ref (al 112)] 0 [(al 37, prO N1 (tau 115) L1 (tau 116)), (al 41, prO N1 (tau 115) L1 (tau 116)), (al 75, prO N1 (tau 115) L1 (tau 116)), (al 76, prO N2 (tau 203) L2 (tau 204)), (al 77, prO N2 (tau 208) L2 (tau 209)), (al 111, prO ((first.length : Nat) : Int) (tau 278) (1 + ((m1 : Nat) : Int)) (tau 282)), (al 112, prO (((text.length : Nat) : Nat) : Int) (tau 284) (1 + ((m2 : Nat) : Int)) (tau 288))] (.cons (al 37) (al 111) N1 L1 ((first.length : Nat) : Int) (1 + ((m1 : Nat) : Int)) _ _ _ _ (by repeat (first | exact List.Mem.head _ | apply List.Mem.tail)) (by repeat (first | exact List.Mem.head _ | apply List.Mem.tail)) hN1 hL1 (.cons (al 41) (al 111) N1 L1 ((first.length : Nat) : Int) (1 + ((m1 : Nat) : Int)) _ _ _ _ (by repeat (first | exact List.Mem.head _ | apply List.Mem.tail)) (by repeat (first | exact List.Mem.head _ | apply List.Mem.tail)) hN1 hL1 (.cons (al 75) (al 111) N1 L1 ((first.length : Nat) : Int) (1 + ((m1 : Nat) : Int)) _ _ _ _ (by repeat (first | exact List.Mem.head _ | apply List.Mem.tail)) (by repeat (first | exact List.Mem.head _ | apply List.Mem.tail)) hN1 hL1 (.cons (al 76) (al 112) N2 L2 (((text.length : Nat) : Nat) : Int) (1 + ((m2 : Nat) : Int)) _ _ _ _ (by repeat (first | exact List.Mem.head _ | apply List.Mem.tail)) (by repeat (first | exact List.Mem.head _ | apply List.Mem.tail)) hN2 hL2 (.cons (al 77) (al 112) N2 L2 (((text.length : Nat) : Nat) : Int) (1 + ((m2 : Nat) : Int)) _ _ _ _ (by repeat (first | exact List.Mem.head _ | apply List.Mem.tail)) (by repeat (first | exact List.Mem.head _ | apply List.Mem.tail)) hN2 hL2 (.nil _))))))), .p [10, 117] (fun al tau => pCutL (al 7) (.int n0 (tf 0 (tau 1) (tau 2) (tau 3) (tau 4)) :: .int n1 (tf 1 (tau 1) (tau 2) (tau 3) (tau 4)) :: rest (tau 1) (tau 2) (tau 3) (tau 4)) 0 (al 114) (.int 2 (tau 290)) .none (some ((2 : Nat) : Int)) none (.int _ _) .none (rest (tau 1) (tau 2) (tau 3) (tau 4)) (lnD (hrl (tau 1) (tau 2) (tau 3) (tau 4))) (cut_from _ 2))]) [] [0, 1, 8, 115, 116, 43, 44, 45, 46, 47, 48, 49, 50, 51, 52, 53, 54, 55, 56, 57, 58, 59, 60, 61, 62, 63, 64, 65, 66, 67, 68, 69, 70, 71, 72, 73, 74] [0, 7, 18, 22, 27, 28, 46, 48, 55, 63, 72, 114, 118, 121, 200, 283, 289, 21, 26, 24, 31, 36, 43, 47, 54, 69, 12, 17, 1, 2, 3, 4, 138, 139, 140, 141, 142, 143, 144, 145, 146, 147, 148, 149, 150, 151, 152, 153, 154, 155, 156, 157, 158, 159, 160, 161, 162, 163, 164, 165, 166, 167, 168, 169, 170, 171, 172, 173, 174, 175, 176, 177, 178, 179, 180, 181, 182, 183, 184, 185, 186, 187, 188, 189, 190, 191, 192, 193, 194, 195, 196, 197, 198, 199] [7, 15, 33, 36, 38, 111, 112, 25] (fun ts es => [nthN ts 0, nthN ts 1, nthN ts 2, nthN ts 3, nthN ts 4, nthN ts 5, nthN ts 6, nthN ts 7, nthN ts 8, nthN ts 9, nthN ts 10, nthN ts 11, nthN ts 12, nthN ts 13, nthN ts 14, nthN ts 15, nthN ts 16, nthN ts 17, nthN ts 18, nthN ts 19, nthN [nthN ts 20, nthN ts 21, nthN ts 22] k, nthN ts 23, nthN ts 24, nthN ts 25, nthN es 0, nthN es 1, nthN es 2, nthN es 3, nthN es 4, nthN es 5, nthN es 6, nthN ts 26, nthN ts 27, nthN ts 28, nthN ts 29, nthN ts 30, nthN ts 31, nthN es 7, nthN ts 32, nthN ts 33, nthN ts 34, nthN ts 35, nthN ts 36, nthN ts 37, nthN ts 38, nthN ts 39, nthN ts 40, nthN ts 41, nthN ts 42, nthN ts 43, nthN ts 44, nthN ts 45, nthN ts 46, nthN ts 47, nthN ts 48, nthN ts 49, nthN ts 50, nthN ts 51, nthN ts 52, nthN ts 53, nthN ts 54, nthN ts 55, nthN ts 56, nthN ts 57, nthN ts 58, nthN ts 59, nthN ts 60, nthN ts 61, nthN ts 62, nthN ts 63, nthN ts 64, nthN ts 65, nthN ts 66, nthN ts 67, nthN ts 68, nthN ts 69, nthN ts 70, nthN ts 71, nthN ts 72, nthN ts 73, nthN ts 74, nthN ts 75, nthN ts 76, nthN ts 77, nthN ts 78, nthN ts 79, nthN ts 80, nthN ts 81, nthN ts 82, nthN ts 83, nthN ts 84, nthN ts 85, nthN ts 86, nthN ts 87, nthN ts 88, nthN ts 89, nthN ts 90, nthN ts 91, nthN ts 92, nthN ts 93])]
    · constructor
      · open Mine PySem.Calls PySem.Spec PySem.Challenge.cw_pk0039_01_holds in grind only [show E_w0 P0 w (ktop_219 w.params) from fun q pv ls nn un hx leaf c0 c1 c2 c3 b0 b1 b2 b3 Bi q1 q2 q3 q4 a1 a2 a3 a4 P1 P2 P3 P4 x1 y1 x2 y2 x3 y3 x4 y4 A B t Hc H11 H20 H21 H30 H31 H40 H41 => ckA (unq [7,26,20,5,6,21,22,1,11,8,25,19,3,2] [0x366664e447a5577833c333366664e447a5577833c3333020f3ceccaa411184009f,0x511866777018f33c333366664e447a5577833c333366664e447a5577833c333,0x22222224511115451111511849994dd1a111182222222222bbbbebbbbbb5,0x511849994dd1a111182222222224511115451111511849994dd1a1111822,0x4f01ff222224511115451111511849994dd1a111182222222224511115451111] [.p [2, 3] (fun al tau => pListNext q.it q.ls ls 0 0 (.int nn un) hx), .p [] (fun al tau => pMod nn ((un)) 16 (tau 1) leaf rfl Bi.m), .p [] (fun al tau => pFdiv leaf (tau 2) 8 (tau 4) (Int.fdiv leaf 8) rfl rfl rfl), .p [] (fun al tau => pMod (Int.fdiv leaf 8) (tau 9) 2 (tau 10) b0 rfl Bi.f0), .p [] (fun al tau => pReprC b0 (tau 11) c0 Bi.s0 Bi.g0), .p [] (fun al tau => pFdiv leaf (tau 2) 4 (tau 5) (Int.fdiv leaf 4) rfl rfl rfl), .p [] (fun al tau => pMod (Int.fdiv leaf 4) (tau 14) 2 (tau 15) b1 rfl Bi.f1), .p [] (fun al tau => pReprC b1 (tau 16) c1 Bi.s1 Bi.g1), .p [] (fun al tau => pFdiv leaf (tau 2) 2 (tau 6) (Int.fdiv leaf 2) rfl rfl rfl), .p [] (fun al tau => pMod (Int.fdiv leaf 2) (tau 19) 2 (tau 20) b2 rfl Bi.f2), .p [] (fun al tau => pReprC b2 (tau 21) c2 Bi.s2 Bi.g2), .p [] (fun al tau => pFdiv leaf (tau 2) 1 (tau 7) (Int.fdiv leaf 1) rfl rfl rfl), .p [] (fun al tau => pMod (Int.fdiv leaf 1) (tau 24) 2 (tau 25) b3 rfl Bi.f3), .p [] (fun al tau => pReprC b3 (tau 26) c3 Bi.s3 Bi.g3), .p [] (fun al tau => pFdiv leaf (tau 2) 8 (tau 40) q1 rfl rfl P1.d), .p [4] (fun al tau => pListI q.pl pv 31 (2 + q1 - 1) (tau 44) (.ref a1) P1.h0 P1.h1 P1.hx), .p [11, 5, 9] (fun al tau => mkCk (Hc (tau 28) (tau 33) a1 (t 2) (t 3) q.ro (t 0) (t 1))), .p [11, 20, 21, 22, 5, 9] (fun al tau => mkCk (H11 (wc1 (wc0 (al 8) (al 9) (listFrom tau 46 17)) (al 10) (dropN 7 (listFrom tau 46 17))) (tau 28) (tau 33) a1 (t 2) (t 3) q.ro (t 0) (t 1))), .p [] (fun al tau => pFdiv leaf (tau 2) 4 (tau 70) q2 rfl rfl P2.d), .p [4] (fun al tau => pListI q.pl pv 31 (4 + q2 - 1) (tau 74) (.ref a2) P2.h0 P2.h1 P2.hx), .p [11, 20, 21, 22, 6, 9] (fun al tau => mkCk (H20 (wc1 (wc0 (al 8) (al 9) (listFrom tau 46 17)) (al 10) (dropN 7 (listFrom tau 46 17))) (tau 28) (tau 63) a2 (t 4) (t 5) q.ro (t 0) (t 1))), .p [11, 20, 21, 22, 6, 9] (fun al tau => mkCk (H21 (wc1 (wc0 (al 8) (al 9) (listFrom tau 46 17)) (al 10) (dropN 7 (listFrom tau 46 17))) (tau 28) (tau 63) a2 (t 4) (t 5) q.ro (t 0) (t 1))), .p [] (fun al tau => pFdiv leaf (tau 2) 2 (tau 83) q3 rfl rfl P3.d), .p [4] (fun al tau => pListI q.pl pv 31 (8 + q3 - 1) (tau 87) (.ref a3) P3.h0 P3.h1 P3.hx), .p [11, 20, 21, 22, 7, 9] (fun al tau => mkCk (H30 (wc1 (wc0 (al 8) (al 9) (listFrom tau 46 17)) (al 10) (dropN 7 (listFrom tau 46 17))) (tau 28) (tau 76) a3 (t 6) (t 7) q.ro (t 0) (t 1))), .p [11, 20, 21, 22, 7, 9] (fun al tau => mkCk (H31 (wc1 (wc0 (al 8) (al 9) (listFrom tau 46 17)) (al 10) (dropN 7 (listFrom tau 46 17))) (tau 28) (tau 76) a3 (t 6) (t 7) q.ro (t 0) (t 1))), .p [] (fun al tau => pFdiv leaf (tau 2) 1 (tau 96) q4 rfl rfl P4.d), .p [4] (fun al tau => pListI q.pl pv 31 (16 + q4 - 1) (tau 100) (.ref a4) P4.h0 P4.h1 P4.hx), .p [11, 20, 21, 22, 8, 9] (fun al tau => mkCk (H40 (wc1 (wc0 (al 8) (al 9) (listFrom tau 46 17)) (al 10) (dropN 7 (listFrom tau 46 17))) (tau 28) (tau 89) a4 (t 8) (t 9) q.ro (t 0) (t 1))), .p [11, 20, 21, 22, 8, 9] (fun al tau => mkCk (H41 (wc1 (wc0 (al 8) (al 9) (listFrom tau 46 17)) (al 10) (dropN 7 (listFrom tau 46 17))) (tau 28) (tau 89) a4 (t 8) (t 9) q.ro (t 0) (t 1)))]) [8, 9, 10] [46, 47, 48, 49, 50, 51, 52, 53, 54, 55, 56, 57, 58, 59, 60, 61, 62, 0, 29, 34, 45, 28, 89, 2] [] (fun ts es => [nthN ts 0, nthN ts 1, nthN ts 2, nthN ts 3, nthN ts 4, nthN ts 5, nthN ts 6, nthN ts 7, nthN ts 8, nthN ts 9, nthN ts 10, nthN ts 11, nthN ts 12, nthN ts 13, nthN ts 14, nthN ts 15, nthN ts 16, nthN ts 17, nthN ts 18, nthN ts 19, nthN ts 20, nthN ts 21, nthN ts 22, nthN ts 23])]
      · open Mine PySem.Calls PySem.Spec PySem.Challenge.cw_pk0039_01_holds in grind only [show E_w1 P0 w (ktop_219 w.params) from fun c e1 e2 e3 e4 e5 q pv ls ix nn un hx leaf c0 c1 c2 c3 b0 b1 b2 b3 Bi q1 q2 q3 q4 a1 a2 a3 a4 P1 P2 P3 P4 x1 y1 x2 y2 x3 y3 x4 y4 A B t H10 H11 H20 H21 H30 H31 H40 H41 => ckA (unq [7,29,23,5,6,24,25,1,11,8,28,22,3,2] [0x366664e447a5577833c333366664e447a5577833c3333026f3ceccaa411184009f,0x51186677701bf33c333366664e447a5577833c333366664e447a5577833c333,0x22222224511115451111511849994dd1a111182222222222bbbbebbbbbb5,0x511849994dd1a111182222222224511115451111511849994dd1a1111822,0x4f01ff222224511115451111511849994dd1a111182222222224511115451111] [.p [2, 3] (fun al tau => pListNext q.it q.ls ls 0 ix (.int nn un) hx), .p [] (fun al tau => pMod nn ((un)) 16 (tau 1) leaf rfl Bi.m), .p [] (fun al tau => pFdiv leaf (tau 2) 8 (tau 4) (Int.fdiv leaf 8) rfl rfl rfl), .p [] (fun al tau => pMod (Int.fdiv leaf 8) (tau 9) 2 (tau 10) b0 rfl Bi.f0), .p [] (fun al tau => pReprC b0 (tau 11) c0 Bi.s0 Bi.g0), .p [] (fun al tau => pFdiv leaf (tau 2) 4 (tau 5) (Int.fdiv leaf 4) rfl rfl rfl), .p [] (fun al tau => pMod (Int.fdiv leaf 4) (tau 14) 2 (tau 15) b1 rfl Bi.f1), .p [] (fun al tau => pReprC b1 (tau 16) c1 Bi.s1 Bi.g1), .p [] (fun al tau => pFdiv leaf (tau 2) 2 (tau 6) (Int.fdiv leaf 2) rfl rfl rfl), .p [] (fun al tau => pMod (Int.fdiv leaf 2) (tau 19) 2 (tau 20) b2 rfl Bi.f2), .p [] (fun al tau => pReprC b2 (tau 21) c2 Bi.s2 Bi.g2), .p [] (fun al tau => pFdiv leaf (tau 2) 1 (tau 7) (Int.fdiv leaf 1) rfl rfl rfl), .p [] (fun al tau => pMod (Int.fdiv leaf 1) (tau 24) 2 (tau 25) b3 rfl Bi.f3), .p [] (fun al tau => pReprC b3 (tau 26) c3 Bi.s3 Bi.g3), .p [] (fun al tau => pFdiv leaf (tau 2) 8 (tau 40) q1 rfl rfl P1.d), .p [4] (fun al tau => pListI q.pl pv 31 (2 + q1 - 1) (tau 44) (.ref a1) P1.h0 P1.h1 P1.hx), .p [11, 12, 13, 14, 5, 9] (fun al tau => mkCk (H10 (tau 28) (tau 33) a1 (t 2) (t 3) q.ro (t 0) (t 1))), .p [11, 12, 13, 14, 5, 9] (fun al tau => mkCk (H11 (tau 28) (tau 33) a1 (t 2) (t 3) q.ro (t 0) (t 1))), .p [] (fun al tau => pFdiv leaf (tau 2) 4 (tau 53) q2 rfl rfl P2.d), .p [4] (fun al tau => pListI q.pl pv 31 (4 + q2 - 1) (tau 57) (.ref a2) P2.h0 P2.h1 P2.hx), .p [11, 12, 13, 14, 6, 9] (fun al tau => mkCk (H20 (tau 28) (tau 46) a2 (t 4) (t 5) q.ro (t 0) (t 1))), .p [11, 12, 13, 14, 6, 9] (fun al tau => mkCk (H21 (tau 28) (tau 46) a2 (t 4) (t 5) q.ro (t 0) (t 1))), .p [] (fun al tau => pFdiv leaf (tau 2) 2 (tau 66) q3 rfl rfl P3.d), .p [4] (fun al tau => pListI q.pl pv 31 (8 + q3 - 1) (tau 70) (.ref a3) P3.h0 P3.h1 P3.hx), .p [11, 12, 13, 14, 7, 9] (fun al tau => mkCk (H30 (tau 28) (tau 59) a3 (t 6) (t 7) q.ro (t 0) (t 1))), .p [11, 12, 13, 14, 7, 9] (fun al tau => mkCk (H31 (tau 28) (tau 59) a3 (t 6) (t 7) q.ro (t 0) (t 1))), .p [] (fun al tau => pFdiv leaf (tau 2) 1 (tau 79) q4 rfl rfl P4.d), .p [4] (fun al tau => pListI q.pl pv 31 (16 + q4 - 1) (tau 83) (.ref a4) P4.h0 P4.h1 P4.hx), .p [11, 12, 13, 14, 8, 9] (fun al tau => mkCk (H40 (tau 28) (tau 72) a4 (t 8) (t 9) q.ro (t 0) (t 1))), .p [11, 12, 13, 14, 8, 9] (fun al tau => mkCk (H41 (tau 28) (tau 72) a4 (t 8) (t 9) q.ro (t 0) (t 1)))]) [] [28, 72, 2] [] (fun ts es => [nthN ts 0, nthN ts 1, nthN ts 2])]
      · open Mine PySem.Calls PySem.Spec PySem.Challenge.cw_pk0039_01_holds in grind only [show E_we P0 w (ktop_219 w.params) from fun q ls ix hx => ckG (unq [] [0xaf005f007f] [.p [0, 1] (fun al tau => pListEnd q.it q.ls ls 0 ix hx)]) [] [] (fun _ => [])]
    · exact ⟨Mine.oAt (PySem.Challenge.cw_pk0039_01_holds.ktop_219 w.params) 35, Mine.fdOf (PySem.Challenge.cw_pk0039_01_holds.ktop_219 w.params) 35, by kernel_rfl, by kernel_rfl⟩
  k_fill
  intro w s₀ s₁ mg mb G y fa o pm cd doc dV kV ho hd hcd hD hmg hg args vals as L hpre hlay hrd hwl hlo
  z_open y L KX ZH ZN ZT
  refine Ground.open G ?_
  intro T B D TE TW
  wrow_args hpre hlay hrd hwl hlo
  obtain ⟨hat, hsz⟩ := script_at L
  rw [ZN] at hat hsz
  subst hat
  x_fa T KX hmg
  all_lens
  refine Mine.law_end (X w) ZH T.nolimit (script_obj L (by assumption)) (by assumption) (by omega) hsz hg ?_ ?_ ?_ ?_ ?_ (fun _ => rfl) ?_
  · kernel_rfl
  · kernel_rfl
  · kernel_rfl
  · exact ⟨by kernel_rfl, by kernel_rfl, by kernel_rfl, by kernel_rfl⟩
  · exact ⟨by kernel_rfl, by kernel_rfl, by kernel_rfl, by kernel_rfl⟩
  · first | rfl | wrow_post
