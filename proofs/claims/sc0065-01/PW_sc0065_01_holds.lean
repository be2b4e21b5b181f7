import PyProof.Rows.All
import Wide.All
import OpenK.AllK
import Wide.FinOn
import PySem.Challenge.RW_sc0065_01
set_option Elab.async false
set_option rowWalk.seconds 0
set_option compiler.extract_closed false
section
open PySem PySem.W PyProof.Rows
set_option maxRecDepth 100000
set_option maxHeartbeats 8000000
namespace Mine
open_top hd for PySem.Challenge.rw_sc0065_01
end Mine
end
section
open PySem PySem.W PyProof.Rows
namespace Mine
theorem up_lt {d a b : Nat} (h : d < a) (e : Nat.ble a b = true) : d < b := Nat.lt_of_lt_of_le h (Nat.le_of_ble_eq_true e)
theorem up_lt1 {d k a b : Nat} (h : d < a) (e : Nat.ble (a + k) b = true) : d + k < b := Nat.lt_of_lt_of_le (Nat.add_lt_add_right h k) (Nat.le_of_ble_eq_true e)
theorem up_lt2 {d k l a b : Nat} (h : d < a) (e : Nat.ble (a + k + l) b = true) : d + k + l < b := up_lt1 (Nat.add_lt_add_right h k) e
theorem up_le {d a b : Nat} (h : d ≤ a) (e : Nat.ble a b = true) : d ≤ b := Nat.le_trans h (Nat.le_of_ble_eq_true e)
theorem up_eq {d a b : Nat} (h : d = a) (e : Nat.ble a b = true) : d ≤ b := Nat.le_trans (Nat.le_of_eq h) (Nat.le_of_ble_eq_true e)
/-- each of some addresses is below one -/
noncomputable def Lts (d : Nat) : List Nat → Prop
  | [] => True
  | a :: r => (@LT.lt Nat _ a d) ∧ Lts d r
theorem lts_of {d : Addr} : ∀ {l : List (Addr × Obj)}, (∀ p ∈ l, p.1 < d) → Lts d (l.map (·.1))
  | [], _ => trivial
  | _ :: _, h => ⟨h _ (.head _), lts_of fun q hq => h q (.tail _ hq)⟩
theorem lts_lt {d : Nat} : ∀ {l : List Nat} {a : Nat}, Lts d l → List.Mem a l → @LT.lt Nat _ a d
  | _ :: _, _, h, .head _ => h.1
  | _ :: _, _, h, .tail _ m => lts_lt h.2 m
theorem lts_ne {d : Nat} {l : List Nat} {a : Nat} (h : Lts d l) (m : List.Mem a l) : @Ne Nat a d := Nat.ne_of_lt (lts_lt h m)
theorem lts_ne' {d : Nat} {l : List Nat} {a : Nat} (h : Lts d l) (m : List.Mem a l) : @Ne Nat d a := Nat.ne_of_gt (lts_lt h m)
theorem lts_one {d a : Nat} (h : Lts d [a]) : @LT.lt Nat _ a d := h.1
theorem lts_add {d k : Nat} {l : List Nat} {a : Nat} (h : Lts d l) (m : List.Mem a l) : @Ne Nat a (d + k) := Nat.ne_of_lt (Nat.lt_of_lt_of_le (lts_lt h m) (Nat.le_add_right d k))
theorem lts_add' {d k : Nat} {l : List Nat} {a : Nat} (h : Lts d l) (m : List.Mem a l) : @Ne Nat (d + k) a := Ne.symm (lts_add h m)
theorem lts_add2 {d j k : Nat} {l : List Nat} {a : Nat} (h : Lts d l) (m : List.Mem a l) : @Ne Nat a (d + j + k) := Nat.add_assoc d j k ▸ lts_add h m
theorem lts_add2' {d j k : Nat} {l : List Nat} {a : Nat} (h : Lts d l) (m : List.Mem a l) : @Ne Nat (d + j + k) a := Ne.symm (lts_add2 h m)
theorem lts_lta {d k : Nat} {l : List Nat} {a : Nat} (h : Lts d l) (m : List.Mem a l) : @LT.lt Nat _ a (d + k) := Nat.lt_of_lt_of_le (lts_lt h m) (Nat.le_add_right d k)
theorem lts_all {d : Addr} {l : List (Addr × Obj)} {as : List Nat} (h : Lts d as) (e : l.map (·.1) = as) : ∀ p ∈ l, p.1 ≠ d := fun _ hp => lts_ne h (e ▸ List.mem_map_of_mem hp)
/-- addresses, rising -/
noncomputable def Asc : List Nat → Prop
  | a :: b :: r => (@LT.lt Nat _ a b) ∧ Asc (b :: r)
  | _ => True
theorem Asc.lt : ∀ {a : Nat} {l : List Nat}, Asc (a :: l) → ∀ b ∈ l, @LT.lt Nat _ a b
  | _, [], _ => fun _ hb => nomatch hb
  | _, c :: l, h => fun b hb => by
    rcases List.mem_cons.mp hb with rfl | hb
    · exact h.1
    · exact Nat.lt_trans h.1 (Asc.lt h.2 b hb)
theorem Asc.tail : ∀ {a : Nat} {l : List Nat}, Asc (a :: l) → Asc l
  | _, [], _ => trivial
  | _, _ :: _, h => h.2
/-- one stands ahead of another in a list -/
inductive Bef (a b : Nat) : List Nat → Prop
  | here {l} : List.Mem b l → Bef a b (a :: l)
  | next {x l} : Bef a b l → Bef a b (x :: l)
theorem asc_lt {a b : Nat} {l : List Nat} (h : Asc l) (m : Bef a b l) : @LT.lt Nat _ a b := by
  induction m with
  | here m => exact h.lt _ m
  | next _ ih => exact ih h.tail
theorem asc_ne {a b : Nat} {l : List Nat} (h : Asc l) (m : Bef a b l) : @Ne Nat a b := Nat.ne_of_lt (asc_lt h m)
theorem asc_ne' {a b : Nat} {l : List Nat} (h : Asc l) (m : Bef a b l) : @Ne Nat b a := Nat.ne_of_gt (asc_lt h m)
theorem asc_mid {d : Nat} : ∀ {l post : List Nat}, Asc (l ++ d :: post) → ∀ a ∈ l, @LT.lt Nat _ a d
  | _ :: l, post, h, _, .head _ => h.lt d (List.mem_append_right _ (List.mem_cons_self ..))
  | _ :: l, post, h, a, .tail _ m => asc_mid (l := l) (post := post) h.tail a m
theorem lts_mk {d : Nat} : ∀ {l : List Nat}, (∀ a ∈ l, @LT.lt Nat _ a d) → Lts d l
  | [], _ => trivial
  | _ :: _, h => ⟨h _ (.head _), lts_mk fun a m => h a (.tail _ m)⟩
theorem Asc.cut {p q : List Nat} {d : Nat} (h : Asc (p ++ d :: q)) : Lts d p := lts_mk (asc_mid h)
theorem asc_all {d : Addr} {l : List (Addr × Obj)} {as post : List Nat} (h : Asc as) (e : as = (l.map (·.1)).reverse ++ d :: post) : ∀ p ∈ l, p.1 ≠ d := fun _ hp =>
  Nat.ne_of_lt (asc_mid (l := (l.map (·.1)).reverse) (post := post) (e ▸ h) _ (List.mem_reverse.mpr (List.mem_map_of_mem hp)))
end Mine
end
section
open PySem PySem.W PyProof.Rows PySem.Calls
set_option maxRecDepth 100000
namespace Mine
/-- a goal laid aside, whole -/
structure Stop (P : Prop) : Prop where
  out : P
/-- a continuation told by its name alone: what it asks stands behind it -/
structure Kept {α : Type} (Q Q' : α → Shared → Prop) : Prop where
  out : ∀ a s, Q a s → Q' a s
theorem Kept.use {α : Type} {Q Q' : α → Shared → Prop} (k : Kept Q Q') {a : α} {s : Shared} (h : Q a s) : Q' a s := k.out a s h
theorem hide_cons {M : Model} {A : Around} {st : Stmt} {rest : List Stmt} {env : Env} {Q : Flow → Shared → Prop} {E : Value → Shared → Prop} {s : Shared}
    (h : ∀ Q' : Flow → Shared → Prop, Kept (fun f s' => match f with | .next => wpAny M A (execs rest env) Q E s' | f => Q f s') Q' → wpAny M A (exec st env) Q' E s) : wpAny M A (execs (st :: rest) env) Q E s :=
  wpAny_execs_cons (h _ ⟨fun _ _ q => q⟩)
theorem hideQ {α : Type} {M : Model} {A : Around} {t : Sem α} {Q : α → Shared → Prop} {E : Value → Shared → Prop} {s : Shared}
    (h : ∀ Q' : α → Shared → Prop, Kept Q Q' → wpAny M A t Q' E s) : wpAny M A t Q E s := h Q ⟨fun _ _ q => q⟩
theorem wrapG {G : Prop} (h : ∀ P : Prop, (G → P) → P) : G := h G id
noncomputable abbrev prog : Program := PySem.Challenge.rw_sc0065_01.row.prog
/-- the surroundings of a call of one of the text's defs, written out but for its depth -/
noncomputable abbrev arnd (d u : Nat) (fs : List Env) (gs : Option (List Code)) : Around := { handled := none, depth := d, frames := some fs, guards := gs, units := u }
/-- a frame's block, of whatever def -/
noncomputable abbrev envL (nm : List (Str × NameKind)) (gen co : Bool) (more : List (Str × Const)) (loc gl : Addr) (cl : List (Str × Addr)) (qual : Str) (fn : Option Addr) (code : Value) (L : Addr) (blt : Addr) : Env :=
  { scope := { kind := .function, names := nm, isGenerator := gen, isCoroutine := co, more := more }, locals := loc, globals := gl, cells := cl, qual := qual, func := fn, code := code, frame := some L, builtins := blt }
theorem room {d : Nat} (h : d < 900) : d < recursionLimit := Nat.lt_trans h (by decide)
theorem cline {d : Nat} (h : d < 9000) : d < cLine := Nat.lt_trans h (by decide)

section
variable {prog : Program} {w : World} {A A₀ : Around} {E : Value → Shared → Prop} {s : Shared} {K : Frag} {L : Addr} {h₀ base : Heap} {m mg mb : Str → Option Value} {news : List (Addr × Obj)} {p : Program} {loose : List Str} {mean : ExcName → Option Value}
/-- a call of a def with cells: the ground keeps all but the ledger's own objects -/
theorem code_defCG {env : Env} {outer : List Env} {R : Result → Shared → Prop} {name qual : Str} {params : Arguments} {body : List Stmt} {scope : Scope} {dV kV doc pm cdv ct oc : Value} {an od : Option Addr} {osl : Array (Option Value)} {f : Addr} {args : Args} {binds : List (Str × Value)}
    (B : Below A₀ base outer h₀) (F : Fr h₀ L s.heap m) (X₀ : K.In h₀) (N : News h₀ L s.heap news) (T : Top p loose mean mg mb h₀) (hA : A.frames = some (env :: outer)) (hf : env.frame = some L) (hke : env.scope.kind = .function)
    (ho : K.lookup f = some ⟨oc, od, .func (fnOf name qual params body scope dV kV doc pm an cdv ct), osl⟩) (hcd : codeIn K cdv qual = true) (hroom : A.depth < recursionLimit)
    (hbind : BindsTo s (fnOf name qual params body scope dV kV doc pm an cdv ct) args binds) (hkind : (binds.all fun y => scope.names.lookup y.1 == some .local || scope.names.lookup y.1 == some .cell) = true)
    (hnd : ((cellsFrom 0 scope.names []).map (·.1)).Nodup)
    (h : ∀ g L' h₁ tk cells, Fr h₀ L g m → Fr g L' h₁ (bindL (envOfC qual scope L' f cdv).kindOf binds fun _ => none) → News g L' h₁ (cells ++ news) →
      CellsAre (bindC (envOfC qual scope L' f cdv).kindOf binds fun _ => none) (cellsFrom (L' + 1) scope.names []) cells → Below A base (env :: outer) g → K.In g → Top p loose mean mg mb g → (∀ p ∈ news, p.1 < L') → GSub s.heap g (news.map (·.1)) →
      wpAny (model prog w) (A.deeper (envOfC qual scope L' f cdv)) (execs body (envOfC qual scope L' f cdv))
        (fun fl s' => LeaveK h₀ L m g R (match fl with | .ret v => v | _ => .none) s')
        (fun e s' => wpAny (model prog w) (A.deeper (envOfC qual scope L' f cdv)) (leaving (envOfC qual scope L' f cdv) e) (fun _ s'' => R (.error e) s'') (fun e' s'' => R (.error e') s'') s')
        { s with heap := h₁, toks := tk })
    (hco : scope.isCoroutine = false) (hgen : scope.isGenerator = false) (hk : scope.kind = .function) : codeAny (model prog w) A (.call (.ref f) args) R s := by
  obtain ⟨FG, BG, st, lv⟩ := groundX (R := R) B F N hA hf hke
  refine codeAny_call_function hroom ((X₀.keeps F.keep) _ _ ho) rfl hco hgen rfl (codeRec_of (X₀.keeps F.keep) hcd) (hbind _ _ _ _ ?_)
  refine wpAny_newFunctionEnv_cells hk (kindsX hkind _) fun env' he s' x => ?_
  subst he
  refine ⟨(T.nolimit.keeps F.keep).keeps x.toInCall.keep, codeAny_func ?_⟩
  obtain ⟨h₁, tk, rfl, _⟩ := x.done
  have hk₁ := x.toInCall.keep
  obtain ⟨cells, NC, Y⟩ := Cl.news (h₀ := s.heap) (Nat.le_refl _) fun n c hm => ⟨x.cell n c (lookup_of_mem_nodup (cellsFrom_names scope.names 0 (s.heap.objs.size + 1) [] [] rfl ▸ hnd) hm), x.above n c hm⟩
  refine wpAny_mono (h _ s.heap.objs.size h₁ tk cells FG ⟨x.toInCall.ns, fun b o e => hk₁ b o (of_hideAll _ e), Nat.le_of_eq (hideAll_size _ _)⟩ (fun p hp => ?_) Y BG (X₀.keeps st) (T.keeps st) (fun p hp => Heap.lt_size (N p hp).1) (fun b o e n => hideAll_get _ e n)) (fun fl s' hl => lv _ _ hl) fun _ _ y => y
  rcases List.mem_append.mp hp with hp | hp
  · refine ⟨(NC p hp).1, (NC p hp).2.1, ?_⟩
    cases q : (hideAll s.heap (news.map (·.1))).get? p.1 with
    | none => rfl
    | some o => have := of_hideAll _ q; rw [(NC p hp).2.2] at this; cases this
  · exact ⟨hk₁ _ _ (N p hp).1, Nat.ne_of_lt (Heap.lt_size (N p hp).1), hideAll_none _ (List.mem_map_of_mem hp)⟩
end
section
variable {prog : Program} {w : World} {A A₀ : Around} {s : Shared} {K : Frag} {L : Addr} {h₀ base : Heap} {m mg mb : Str → Option Value} {news : List (Addr × Obj)} {p : Program} {loose : List Str} {mean : ExcName → Option Value}
/-- a call of a made def: the ground keeps all but the ledger's own objects -/
theorem code_nestG {env : Env} {outer : List Env} {R : Result → Shared → Prop} {name qual : Str} {params : Arguments} {body : List Stmt} {scope : Scope} {cl : List (Str × Addr)} {doc pm ctv : Value} {c' : Addr} {f : Addr} {args : Args} {binds : List (Str × Value)}
    (B : Below A₀ base outer h₀) (F : Fr h₀ L s.heap m) (X₀ : K.In h₀) (N : News h₀ L s.heap news) (T : Top p loose mean mg mb h₀) (hA : A.frames = some (env :: outer)) (hf : env.frame = some L) (hke : env.scope.kind = .function)
    (ho : (f, fnMade name qual params body scope cl doc pm c' ctv) ∈ news) (hcd : s.heap.CodeRec (.ref c') qual) (hroom : A.depth < recursionLimit)
    (hbind : BindsTo s (fnX name qual params body scope cl .none .none doc pm none (.ref c') ctv) args binds) (hloc : ∀ y ∈ binds, scope.names.lookup y.1 = some .local)
    (h : ∀ g L' h₁, Fr h₀ L g m → Fr g L' h₁ (fun y => binds.reverse.lookup y) → News g L' h₁ news → Below A base (env :: outer) g → K.In g → Top p loose mean mg mb g → GSub s.heap g (news.map (·.1)) →
      wpAny (model prog w) (A.deeper (envX qual scope L' f (.ref c') cl)) (execs body (envX qual scope L' f (.ref c') cl))
        (fun fl s' => LeaveK h₀ L m g R (match fl with | .ret v => v | _ => .none) s')
        (fun e s' => wpAny (model prog w) (A.deeper (envX qual scope L' f (.ref c') cl)) (leaving (envX qual scope L' f (.ref c') cl) e) (fun _ s'' => R (.error e) s'') (fun e' s'' => R (.error e') s'') s')
        { s with heap := h₁, toks := s.toks + binds.length })
    (hco : scope.isCoroutine = false) (hgen : scope.isGenerator = false) (hk : scope.kind = .function)
    (hcell : ∀ x ∈ scope.names, x.2 ≠ .cell) : codeAny (model prog w) A (.call (.ref f) args) R s := by
  obtain ⟨FG, BG, st, lv⟩ := groundX (R := R) B F N hA hf hke
  refine codeAny_call_def (fd := fnX name qual params body scope cl .none .none doc pm none (.ref c') ctv) (body := body) (binds := binds) hroom (N _ ho).1 rfl (T.nolimit.keeps F.keep) hcd rfl hbind hcell hloc (fun h₁ hns hk₁ => ?_) hco hgen hk
  exact wpAny_mono (h _ s.heap.objs.size h₁ FG ⟨hns, fun b o e => hk₁ b o (of_hideAll _ e), Nat.le_of_eq (hideAll_size _ _)⟩
    (fun p hp => ⟨hk₁ _ _ (N p hp).1, Nat.ne_of_lt (Heap.lt_size (N p hp).1), hideAll_none _ (List.mem_map_of_mem hp)⟩) BG (X₀.keeps st) (T.keeps st) (fun b o e n => hideAll_get _ e n)) (fun fl s' hl => lv _ _ hl) fun _ _ y => y
end
/-- what a heap keeps but at some places -/
noncomputable abbrev KeepBut (h h' : Heap) (adr : List Addr) : Prop := ∀ b o, h.get? b = some o → b ∉ adr → h'.get? b = some o
theorem keepBut_of {H g h' : Heap} {adr : List Addr} {L' : Addr} {m' : Str → Option Value} (G : GSub H g adr) (F' : Fr g L' h' m') : KeepBut H h' adr := fun b o e n => F'.keep b o (G b o e n)
theorem newsAfter {h₀ h h' : Heap} {L : Addr} {big small big' : List (Addr × Obj)} {adr : List Addr} (N : News h₀ L h big) (hk : KeepBut h h' adr) (N' : News h₀ L h' small) (hb : ∀ p ∈ big', p ∈ small ∨ (p ∈ big ∧ p.1 ∉ adr)) : News h₀ L h' big' := fun p hp => by
  rcases hb p hp with q | ⟨q, n⟩
  · exact N' p q
  · exact ⟨hk _ _ (N p q).1 n, (N p q).2⟩
/-- a lexer's dict: its line, its stream, its blanks, its waiting words -/
noncomputable abbrev lexD (w : World) (t0 t1 t2 t3 t4 : Tok) (ln : Int) (tl : Tok) (st : Value) (pb : Addr) : Obj := dictOf [
  ⟨PyData.keyHash w.params "lineno", .str "lineno" t0, .int ln tl⟩, ⟨PyData.keyHash w.params "instream", .str "instream" t1, st⟩,
  ⟨PyData.keyHash w.params "whitespace", .str "whitespace" t2, .str "\n\t\r " t3⟩, ⟨PyData.keyHash w.params "pushback", .str "pushback" t4, .ref pb⟩] 4
/-- the stream's dict: as a lexer's, and a def for its reads -/
noncomputable abbrev strD (w : World) (t0 t1 t2 t3 t4 t5 t6 : Tok) (pb f : Addr) : Obj := dictOf [
  ⟨PyData.keyHash w.params "lineno", .str "lineno" t0, .int 1 t5⟩, ⟨PyData.keyHash w.params "instream", .str "instream" t1, .none⟩,
  ⟨PyData.keyHash w.params "whitespace", .str "whitespace" t2, .str "\n\t\r " t3⟩, ⟨PyData.keyHash w.params "pushback", .str "pushback" t4, .ref pb⟩,
  ⟨PyData.keyHash w.params "read", .str "read" t6, .ref f⟩] 5
theorem subNil {big : List (Addr × Obj)} : ∀ p ∈ ([] : List (Addr × Obj)), p ∈ big := fun _ h => nomatch h
theorem subCons {a : Addr × Obj} {l big : List (Addr × Obj)} (h : a ∈ big) (r : ∀ p ∈ l, p ∈ big) : ∀ p ∈ a :: l, p ∈ big := fun p hp => by
  rcases List.mem_cons.mp hp with rfl | hp
  · exact h
  · exact r p hp
theorem newsSub {h₀ h : Heap} {L : Addr} {big small : List (Addr × Obj)} (N : News h₀ L h big) (hs : ∀ p ∈ small, p ∈ big) : News h₀ L h small := fun p hp => N p (hs p hp)
/-- a number off a list -/
noncomputable def Off (a : Nat) : List Nat → Prop
  | [] => True
  | b :: r => (@Ne Nat a b) ∧ Off a r
theorem Off.not {a : Nat} : ∀ {l : List Nat}, Off a l → a ∉ l
  | [], _ => List.not_mem_nil
  | b :: r, h => fun hm => by
    rcases List.mem_cons.mp hm with e | hm
    · exact h.1 e
    · exact Off.not h.2 hm
theorem off_of {a : Nat} : ∀ {l : List Nat}, (∀ b ∈ l, @Ne Nat a b) → Off a l
  | [], _ => trivial
  | _ :: _, h => ⟨h _ (List.mem_cons_self ..), off_of fun b hb => h b (List.mem_cons_of_mem _ hb)⟩
theorem Asc.offRev {a : Nat} {l : List Nat} (h : Asc (a :: l)) : Off a l.reverse := off_of fun b hb => Nat.ne_of_lt (h.lt b (List.mem_reverse.mp hb))
theorem Asc.below : ∀ {l : List Nat} {z : Nat}, Asc (l ++ [z]) → ∀ b ∈ l ++ [z], b ≤ z
  | [], _, _ => fun b hb => by rw [List.mem_singleton.mp hb]; exact Nat.le_refl _
  | a :: l, z, h => fun b hb => by
    rcases List.mem_cons.mp hb with rfl | hb
    · exact Nat.le_of_lt (h.lt z (List.mem_append_right _ (List.mem_singleton.mpr rfl)))
    · refine Asc.below (l := l) ?_ b hb
      cases l with
      | nil => exact trivial
      | cons c l => exact h.2
theorem Asc.offUp {l : List Nat} {z I : Nat} (h : Asc (l ++ [z])) (hz : @LT.lt Nat _ z I) : Off I (l ++ [z]).reverse :=
  off_of fun b hb => Nat.ne_of_gt (Nat.lt_of_le_of_lt (h.below b (List.mem_reverse.mp hb)) hz)
noncomputable abbrev intL (k : Int) (t : Tok) : Obj := PySem.W.listOf #[.int k t] 0
/-- the sign of a text at a place, or none -/
noncomputable def sgn (x : Str) (k : Nat) : Str := ⟨((x.cps.toList.drop k).take 1).toArray⟩
theorem sgn_slice {x : Str} {k : Nat} {a b : Int} (ha : a = (k : Int)) (hb : b = (k : Int) + 1) : Txt.slice x (some a) (some b) = sgn x k := by
  subst ha hb
  by_cases h : k < x.length
  · have := StrLaws.sliceText_nat x (a := k) (b := k + 1) (by lia) (by lia)
    rw [show k + 1 - k = 1 by lia] at this
    exact this
  · have e : Txt.slice x (some (k : Int)) (some ((k : Int) + 1)) = StrLaws.sliceText x (some (x.length : Int)) (some (x.length : Int)) := by
      show StrLaws.sliceText x _ _ = _
      unfold StrLaws.sliceText
      have e0 : PySem.Builtin.Str.strSliceIndices (some (k : Int)) (some ((k : Int) + 1)) 1 x.length = PySem.Builtin.Str.strSliceIndices (some (x.length : Int)) (some (x.length : Int)) 1 x.length := by
        have a1 : ¬ (k : Int) < 0 := by lia
        have a2 : ¬ ((k : Int) + 1 < 0) := by lia
        have a3 : ¬ ((x.length : Int) < 0) := by lia
        have e1 : max (0 : Int) (min (k : Int) (x.length : Int)) = x.length := by lia
        have e2 : max (0 : Int) (min ((k : Int) + 1) (x.length : Int)) = x.length := by lia
        have e3 : max (0 : Int) (min (x.length : Int) (x.length : Int)) = x.length := by lia
        simp [PySem.Builtin.Str.strSliceIndices, a1, a2, a3, e1, e2, e3]
      rw [e0]
    rw [e, StrLaws.sliceText_nat x (Nat.le_refl _) (Nat.le_refl _)]
    unfold sgn
    have hl : x.cps.toList.length ≤ k := by unfold Str.length at h; simp at h ⊢; lia
    rw [List.drop_eq_nil_of_le hl]
    simp
/-- what the made def of the reads does: one place on, the sign there -/
noncomputable def ReadSpec (w : World) (f : Addr) (fo : Obj) (c : Addr) (oc : Obj) (pl cp : Addr) (ocp : Obj) (ct : Addr) (oct : Obj) (text : Str) : Prop :=
  ∀ {A₀ : Around} {E : Value → Shared → Prop} {s : Shared} {base h₀ : Heap} {outer : List Env} {L : Addr} {m : Str → Option Value} {mg mb : Str → Option Value} {p : Program} {loose : List Str} {mean : ExcName → Option Value} {Q : Value → Shared → Prop} {d u : Nat} {gs : Option (List Code)}
    {nm : List (Str × NameKind)} {gen co : Bool} {more : List (Str × Const)} {loc gl : Addr} {cl : List (Str × Addr)} {qual : Str} {fn : Option Addr} {code : Value} {blt : Addr} {k : Nat} {tk t1 : Tok},
    Below A₀ base outer h₀ → Fr h₀ L s.heap m → (hd.heap_39 w.params).In h₀ → News h₀ L s.heap [(f, fo), (c, oc), (pl, intL k tk), (cp, ocp), (ct, oct)] → Top p loose mean mg mb h₀ → d < 850 → u < 8500 → k ≤ 4000 →
    (∀ h' tk' t' t'', Fr h₀ L h' m → News h₀ L h' [(f, fo), (c, oc), (pl, intL ((k + 1 : Nat) : Int) t'), (cp, ocp), (ct, oct)] → KeepBut s.heap h' [f, c, pl, cp, ct] → Q (.str (sgn text k) t'') { s with heap := h', toks := tk' }) →
    wpAny (model prog w) (arnd d u (envL nm gen co more loc gl cl qual fn code L blt :: outer) gs) (call (.ref f) [.int 1 t1]) Q E s
noncomputable abbrev fnO (foc : Value) (fod : Option Addr) (fd : FuncData) (fsl : Array (Option Value)) : Obj := ⟨foc, fod, .func fd, fsl⟩
/-- the ledger behind a call that changed one object of it -/
theorem newsAfter1 {h₀ h h' : Heap} {L a : Addr} {o o' : Obj} {news small : List (Addr × Obj)} {g : Obj → List (Addr × Obj)} {adr : List Addr} (N : News h₀ L h news) (U : UpdF a o news g) (hk : KeepBut h h' adr) (N' : News h₀ L h' small)
    (hs : ∀ b ∈ adr, b = a ∨ ∃ ob, (b, ob) ∈ news ∧ (b, ob) ∈ small) (ha : (a, o') ∈ small) : News h₀ L h' (g o') := by
  obtain ⟨own, rest, rfl, hg, h1, h2⟩ := U.split
  rw [hg]
  intro p hp
  have key : ∀ p ∈ own ++ (a, o) :: rest, p.1 ≠ a → h'.get? p.1 = some p.2 ∧ p.1 ≠ L ∧ h₀.get? p.1 = none := fun p hp hne => by
    by_cases hb : p.1 ∈ adr
    · rcases hs _ hb with e | ⟨ob, m1, m2⟩
      · exact absurd e hne
      · have e1 := (N _ m1).1
        have e2 := (N p hp).1
        rw [e1] at e2
        have e3 : p = (p.1, ob) := Prod.ext rfl (Option.some.inj e2).symm
        rw [e3]
        exact N' _ m2
    · exact ⟨hk _ _ (N p hp).1 hb, (N p hp).2⟩
  rcases List.mem_append.mp hp with hp | hp
  · exact key p (List.mem_append_left _ hp) (h1 p hp)
  · rcases List.mem_cons.mp hp with rfl | hp
    · exact N' _ ha
    · exact key p (List.mem_append_right _ (List.mem_cons_of_mem _ hp)) (h2 p hp)
theorem pop0 {prog : Program} {w : World} {A : Around} {E : Value → Shared → Prop} {s : Shared} {h₀ : Heap} {L D : Addr} {m : Str → Option Value} {news news' : List (Addr × Obj)} {v : Value} {vs : List Value} {n : Nat} {u : Tok} {Q : Value → Shared → Prop} (F : Fr h₀ L s.heap m) (N : News h₀ L s.heap news)
    (U : Upd D (PySem.W.listOf (v :: vs).toArray n) (PySem.W.listOf vs.toArray (n + 1)) news news') (hz : vs.length ≤ 1000) (h : ∀ h', Fr h₀ L h' m → News h₀ L h' news' → Q v { s with heap := h' }) :
    wpAny (model prog w) A (call (.builtin "list.pop") [.ref D, .int 0 u]) Q E s := by
  refine kl_popAt (k := 0) (p := []) (q := vs) (y := v) F N (by decide) ?_ rfl U ?_ h
  · rw [List.size_toArray, List.length_cons]
    unfold seqIndex?
    have e1 : ¬ (0 : Int) < 0 := by lia
    simp only [e1, if_false]
    have e2 : ¬ ((0 : Int) < 0 ∨ ((vs.length + 1 : Nat) : Int) ≤ 0) := by lia
    simp
  · simp only [sizeLine_eq, List.length_cons]; lia
section
variable {w : World} {A₀ : Around} {E : Value → Shared → Prop} {s : Shared} {base h₀ : Heap} {outer : List Env} {L : Addr} {m : Str → Option Value} {news : List (Addr × Obj)} {mg mb : Str → Option Value} {p : Program} {loose : List Str} {mean : ExcName → Option Value} {Q : Value → Shared → Prop} {d u : Nat} {gs : Option (List Code)}
  {nm : List (Str × NameKind)} {gen co : Bool} {more : List (Str × Const)} {loc gl : Addr} {cl : List (Str × Addr)} {qual : Str} {fn : Option Addr} {code : Value} {blt : Addr}
theorem use_read {f : Addr} {fo : Obj} {c : Addr} {oc : Obj} {pl cp : Addr} {ocp : Obj} {ct : Addr} {oct : Obj} {text : Str} {g : Obj → List (Addr × Obj)} {k : Nat} {tk t1 : Tok} (hR : ReadSpec w f fo c oc pl cp ocp ct oct text)
    (B : Below A₀ base outer h₀) (F : Fr h₀ L s.heap m) (X₀ : (hd.heap_39 w.params).In h₀) (N : News h₀ L s.heap news) (T : Top p loose mean mg mb h₀) (m1 : (f, fo) ∈ news) (m2 : (c, oc) ∈ news) (m3 : (cp, ocp) ∈ news) (m4 : (ct, oct) ∈ news)
    (U : UpdF pl (intL k tk) news g) (hd' : d < 850) (hu : u < 8500) (hk : k ≤ 4000)
    (h : ∀ h' tk' t' t'', Fr h₀ L h' m → News h₀ L h' (g (intL ((k + 1 : Nat) : Int) t')) → Q (.str (sgn text k) t'') { s with heap := h', toks := tk' }) :
    wpAny (model prog w) (arnd d u (envL nm gen co more loc gl cl qual fn code L blt :: outer) gs) (call (.ref f) [.int 1 t1]) Q E s := by
  have hm : (pl, intL k tk) ∈ news := by obtain ⟨own, rest, e, _⟩ := U.split; rw [e]; simp
  refine hR B F X₀ (newsSub N (subCons m1 (subCons m2 (subCons hm (subCons m3 (subCons m4 subNil)))))) T hd' hu hk fun h' tk' t' t'' F' N' hk' => h h' tk' t' t'' F' ?_
  refine newsAfter1 N U hk' N' (fun b hb => ?_) (by simp)
  simp only [List.mem_cons, List.not_mem_nil, or_false] at hb
  rcases hb with rfl | rfl | rfl | rfl | rfl
  · exact .inr ⟨_, m1, by simp⟩
  · exact .inr ⟨_, m2, by simp⟩
  · exact .inl rfl
  · exact .inr ⟨_, m3, by simp⟩
  · exact .inr ⟨_, m4, by simp⟩
end
end Mine
end
section
open PySem PySem.W PyProof.Rows PySem.Calls
set_option maxRecDepth 100000
namespace Mine
theorem fresh_of {H g h : Heap} {L D : Addr} {o : Obj} {news : List (Addr × Obj)} {adr : List Addr} (G : GSub H g adr) (N : News g L h news) (hm : (D, o) ∈ news) : ∀ q ob, H.get? q = some ob → q ∉ adr → q ≠ D := fun q ob e n z => by
  have e1 := G q ob e n
  rw [z, (N _ hm).2.2] at e1
  cases e1
theorem fresh0 {H g h : Heap} {L D : Addr} {o : Obj} {news : List (Addr × Obj)} (G : GSub H g []) (N : News g L h news) (hm : (D, o) ∈ news) : ∀ q ob, H.get? q = some ob → q ≠ D := fun q ob e => fresh_of G N hm q ob e List.not_mem_nil
theorem freshOff {H h₀ : Heap} {L D : Addr} : ∀ {news : List (Addr × Obj)} (_ : News h₀ L H news) (_ : ∀ q ob, H.get? q = some ob → q ≠ D), LCg.Off1 D news
  | [], _, _ => trivial
  | p :: r, N, f => ⟨f _ _ (N p (List.mem_cons_self ..)).1, freshOff (fun q hq => N q (List.mem_cons_of_mem _ hq)) f⟩
/-- the ledger behind a call that changes nothing -/
theorem news0 {h₀ h h' : Heap} {L : Addr} {news small : List (Addr × Obj)} (N : News h₀ L h news) (hk : KeepBut h h' []) (N' : News h₀ L h' small) : News h₀ L h' (small ++ news) :=
  newsAfter N hk N' (adr := []) fun p hp => by
    rcases List.mem_append.mp hp with hp | hp
    · exact .inl hp
    · exact .inr ⟨hp, List.not_mem_nil⟩
end Mine
end
section
open PySem PySem.W PyProof.Rows PySem.Calls
set_option maxRecDepth 100000
set_option maxHeartbeats 4000000
namespace Mine
theorem slot_cit_next : Slot "callable_iterator" "__next__" "callable_iterator.__next__" :=
  .of (owner := "callable_iterator") (n := "__next__") (by rw [typeLookup_type, builtinLookup_eq_fast]; kernel_rfl) (by decide +kernel) (by decide +kernel) (by decide +kernel)
    (by first | exact .inl (by decide +kernel) | exact .inr (by decide +kernel)) (by rw [isSubtype_type]; kernel_rfl)
theorem slot_cit_iter : Slot "callable_iterator" "__iter__" "callable_iterator.__iter__" :=
  .of (owner := "callable_iterator") (n := "__iter__") (by rw [typeLookup_type, builtinLookup_eq_fast]; kernel_rfl) (by decide +kernel) (by decide +kernel) (by decide +kernel)
    (by first | exact .inl (by decide +kernel) | exact .inr (by decide +kernel)) (by rw [isSubtype_type]; kernel_rfl)
theorem entry_cit_next : entryFor table "callable_iterator.__next__" = some Builtin.«callable_iterator.__next__» := entryFor_of_tree (by kernel_rfl)
theorem entry_cit_iter : entryFor table "callable_iterator.__iter__" = some Builtin.«dict_keyiterator.__iter__» := by
  kernel_rfl
theorem args_cit_next (a : Value) : argsOk "callable_iterator.__next__" ⟨[a], []⟩ := by unfold argsOk; kernel_rfl
theorem args_cit_iter (a : Value) : argsOk "callable_iterator.__iter__" ⟨[a], []⟩ := by unfold argsOk; kernel_rfl
theorem entry_iter : entryFor table "iter" = some Builtin.«iter» := entryFor_of_tree (by kernel_rfl)
theorem args_iter (a b : Value) : argsOk "iter" ⟨[a, b], []⟩ := by unfold argsOk; kernel_rfl

noncomputable abbrev citObj (f st : Value) : Obj := { cls := .type "callable_iterator", data := .fields #[f, st, .bool false] }

theorem callBorrowed_eq (f : Value) (pos : List Value) : callBorrowed f pos = (call f pos []).keep [borrowed] := by
  unfold callBorrowed call runValue run
  show Sem.call _ _ _ _ _ = _
  simp only [bind, Sem.bind, Sem.keep, List.append_nil]
  congr 1
  funext r
  cases r with
  | error e => rfl
  | ok f => cases f <;> rfl
section
variable {prog : Program} {w : World} {A : Around} {E : Value → Shared → Prop} {s : Shared}
theorem wpAny_callBorrowed {M : Model} {f : Value} {pos : List Value} {Q : Value → Shared → Prop} (h : wpAny M A (call f pos) Q E s) : wpAny M A (callBorrowed f pos) Q E s := by
  rw [callBorrowed_eq]; exact wpAny_keep h
theorem wpAny_borrows {q f : Addr} {self : Value} {fd : FuncData} {o : Obj} {Q : Bool → Shared → Prop} {M : Model} (hq : s.heap.get? q = some (methodObj (.ref f) self)) (hf : s.heap.get? f = some o) (hd : o.data = .func fd) (h : Q true s) :
    wpAny M A (borrowsExactly (.ref q)) Q E s := by
  unfold borrowsExactly
  refine wpAny_bind (wpAny_load hq ?_)
  show wpAny M A (if (Value.type "method" == Value.type "method") = true then _ else _) Q E s
  rw [if_pos (by simp)]
  show wpAny M A (load f >>= _) Q E s
  refine wpAny_bind (wpAny_load hf ?_)
  rw [hd]
  exact wpAny_pure h

theorem cit_next_item {I q f : Addr} {self : Value} {fd : FuncData} {o : Obj} {t : Tok} {Q : Option Value → Shared → Prop}
    (hI : s.heap.get? I = some (citObj (.ref q) (.str "" t))) (hq : s.heap.get? q = some (methodObj (.ref f) self)) (hf : s.heap.get? f = some o) (hd : o.data = .func fd)
    (h : wpAny (model prog w) A.in1 (call (.ref q) []) (fun r s' => ∃ c u, r = .str c u ∧ c ≠ "" ∧ s'.heap.get? I = some (citObj (.ref q) (.str "" t)) ∧ Q (some r) s') (fun _ _ => False) s) :
    wpAny (model prog w) A (pyNext (.ref I)) Q E s := by
  have hT : s.TypeIs (.ref I) "callable_iterator" := ⟨_, hI, rfl⟩
  unfold pyNext
  refine wpAny_bind (wpAny_attempt (wpAny_callSpecial?_slot (name := Str.ofString "__next__") hT slot_cit_next (wpAny_call_entry slot_cit_next hT entry_cit_next ?_ (args_cit_next _))))
  show wpAny _ _ (field (.ref I) 2 >>= _) _ _ s
  refine wpAny_bind (wpAny_field hI rfl (x := .bool false) rfl ?_)
  show wpAny _ _ (field (.ref I) 0 >>= _) _ _ s
  refine wpAny_bind (wpAny_field hI rfl (x := .ref q) rfl ?_)
  show wpAny _ _ ((callOutOfASlot (.ref q)).attempt >>= _) _ _ s
  refine wpAny_bind (wpAny_attempt ?_)
  unfold callOutOfASlot
  refine wpAny_bind (wpAny_borrows hq hf hd ?_)
  show wpAny _ _ (callBorrowed (.ref q) []) _ _ s
  refine wpAny_callBorrowed (wpAny_mono h (fun r s' hr => ?_) fun _ _ e => e.elim)
  obtain ⟨c, u, rfl, hc, hI', hQ⟩ := hr
  show wpAny _ _ (field (.ref I) 2 >>= _) _ _ s'
  refine wpAny_bind (wpAny_field hI' rfl (x := .bool false) rfl ?_)
  show wpAny _ _ (field (.ref I) 1 >>= _) _ _ s'
  refine wpAny_bind (wpAny_field hI' rfl (x := .str "" t) rfl ?_)
  show wpAny _ _ (holding _ (eqBool _ _) >>= _) _ _ s'
  refine wpAny_bind (wpAny_holding (wpAny_eqBool_str ?_))
  rw [decide_eq_false (fun e => hc e.symm)]
  exact wpAny_pure ⟨_, rfl, wpAny_pure hQ⟩

theorem cit_next_end {I q f : Addr} {self : Value} {fd : FuncData} {o : Obj} {t : Tok} {Q : Option Value → Shared → Prop} (hh : A.handled = none)
    (hI : s.heap.get? I = some (citObj (.ref q) (.str "" t))) (hq : s.heap.get? q = some (methodObj (.ref f) self)) (hf : s.heap.get? f = some o) (hd : o.data = .func fd)
    (h : wpAny (model prog w) A.in1 (call (.ref q) []) (fun r s' => ∃ u, r = .str "" u ∧ s'.heap.get? I = some (citObj (.ref q) (.str "" t)) ∧ s'.heap.get? q = some (methodObj (.ref f) self) ∧ s'.heap.get? f = some o ∧
      ∀ h', (∀ b o, b ≠ I → s'.heap.get? b = some o → h'.get? b = some o) → Q none { s' with heap := h' }) (fun _ _ => False) s) :
    wpAny (model prog w) A (pyNext (.ref I)) Q E s := by
  have hT : s.TypeIs (.ref I) "callable_iterator" := ⟨_, hI, rfl⟩
  unfold pyNext
  refine wpAny_bind (wpAny_attempt (wpAny_callSpecial?_slot (name := Str.ofString "__next__") hT slot_cit_next (wpAny_call_entry slot_cit_next hT entry_cit_next ?_ (args_cit_next _))))
  show wpAny _ _ (field (.ref I) 2 >>= _) _ _ s
  refine wpAny_bind (wpAny_field hI rfl (x := .bool false) rfl ?_)
  show wpAny _ _ (field (.ref I) 0 >>= _) _ _ s
  refine wpAny_bind (wpAny_field hI rfl (x := .ref q) rfl ?_)
  show wpAny _ _ ((callOutOfASlot (.ref q)).attempt >>= _) _ _ s
  refine wpAny_bind (wpAny_attempt ?_)
  unfold callOutOfASlot
  refine wpAny_bind (wpAny_borrows hq hf hd ?_)
  show wpAny _ _ (callBorrowed (.ref q) []) _ _ s
  refine wpAny_callBorrowed (wpAny_mono h (fun r s' hr => ?_) fun _ _ e => e.elim)
  obtain ⟨u, rfl, hI', hq', hf', hQ⟩ := hr
  show wpAny _ _ (field (.ref I) 2 >>= _) _ _ s'
  refine wpAny_bind (wpAny_field hI' rfl (x := .bool false) rfl ?_)
  show wpAny _ _ (field (.ref I) 1 >>= _) _ _ s'
  refine wpAny_bind (wpAny_field hI' rfl (x := .str "" t) rfl ?_)
  show wpAny _ _ (holding _ (eqBool _ _) >>= _) _ _ s'
  refine wpAny_bind (wpAny_holding (wpAny_eqBool_str ?_))
  rw [decide_eq_true rfl]
  refine wpAny_bind (wpAny_rule ?_)
  show wpAny _ _ ((field (.ref I) 0 >>= fun v => slotLetsGo _ v _ >>= fun _ => setField (.ref I) 0 .none >>= fun _ => setField (.ref I) 1 .none >>= fun _ => setField (.ref I) 2 (.bool true)) >>= _) _ _ s'
  refine wpAny_bind (wpAny_bind (wpAny_field hI' rfl (x := .ref q) rfl ?_))
  refine wpAny_bind ?_
  unfold slotLetsGo
  refine wpAny_bind (wpAny_borrows hq' hf' hd ?_)
  refine wpAny_pure ?_
  refine wpAny_bind (wpAny_setField_rec hI' (by simp) fun h₁ e₁ b₁ => ?_)
  refine wpAny_bind (wpAny_setField_rec e₁ (by simp) fun h₂ e₂ b₂ => ?_)
  refine wpAny_setField_rec e₂ (by simp) fun h₃ e₃ b₃ => ?_
  show wpAny _ _ (newExc (.type "StopIteration") [] >>= _) _ _ _
  refine wpAny_bind ?_
  simp only [newExc, newTuple]
  refine wpAny_bind (wpAny_newObj_type ?_ (by size_fits))
  refine wpAny_bind (m := firstArgMember _ _) (wpAny_of_eq (a := Value.none) (by first | rfl | (simp only [firstArgMember]; rfl)) ?_)
  refine wpAny_newObj_type ?_ (by size_fits)
  simp only [raiseNew]
  refine wpAny_bind (wpAny_handled ?_)
  rw [show A.in1.handled = none from hh]
  refine wpAny_bind (wpAny_pure (wpAny_throw ?_))
  refine wpAny_bind (wpAny_isInstance (T := "StopIteration") (b := true) ⟨_, Heap.get?_push_size _ rfl, rfl⟩ isSubtype_stop ?_)
  exact wpAny_pure (hQ _ fun b o hb e => Heap.get?_push_of_some _ (Heap.get?_push_of_some _ (b₃.extBut b o hb (b₂.extBut b o hb (b₁.extBut b o hb e)))))
theorem wpAny_pyIter_cit {I : Addr} {f st : Value} {Q : Value → Shared → Prop} (hI : s.heap.get? I = some (citObj f st)) (h : Q (.ref I) s) : wpAny (model prog w) A (pyIter (.ref I)) Q E s := by
  have hT : s.TypeIs (.ref I) "callable_iterator" := ⟨_, hI, rfl⟩
  refine wpAny_pyIter_slot hT slot_cit_iter (wpAny_call_entry slot_cit_iter hT entry_cit_iter ?_ (args_cit_iter _))
  show wpAny _ _ (ret (.ref I)) _ _ s
  exact wpAny_pure ⟨_, rfl, "callable_iterator", _, hT, slot_cit_next.lookup, h⟩
theorem call_iter2 {q : Addr} {f self st : Value} {Q : Value → Shared → Prop} (hq : s.heap.get? q = some (methodObj f self))
    (h : Q (.ref s.heap.objs.size) { s with heap := s.heap.push (citObj (.ref q) st) }) : wpAny (model prog w) A (call (.builtin "iter") [.ref q, st]) Q E s := by
  refine call_function_entry (by decide +kernel) (by decide +kernel) entry_iter (args_iter _ _) ?_
  have hT : s.TypeIs (.ref q) "method" := ⟨_, hq, rfl⟩
  show wpAny _ _ (specialOf (.ref q) "__call__" >>= _) _ _ s
  refine wpAny_bind (wpAny_specialOf hT (show typeLookup (.type "method") (Str.ofString "__call__") = pure (some (.builtin "method.__call__")) by rw [typeLookup_type, builtinLookup_eq_fast]; kernel_rfl) ?_)
  refine wpAny_bind (wpAny_rule ?_)
  show wpAny _ _ (newFields _ _ >>= _) _ _ s
  refine wpAny_bind (wpAny_newObj_type ?_ (by size_fits))
  exact wpAny_pure ⟨_, rfl, h⟩
end
end Mine
end
section
open PySem PySem.W PyProof.Rows PySem.Calls
set_option maxRecDepth 100000
set_option maxHeartbeats 4000000
namespace Mine
open PySem.Builtin.Re (reDrive reRunToEnd reWholeTarget ReTarget reRawOf reTurnSteps reSlice reNextFound reLiteralCannotBeTurned reSubstitute)
/-- the machine of the pattern run by turns, purely -/
noncomputable def driveP : Nat → Sre.M → Option Sre.M
  | 0, _ => none
  | k + 1, m => let m := m.runFor 4; if m.outcome.isSome then some m else driveP k m
section
variable {M : Model} {A : Around} {E : Value → Shared → Prop} {s : Shared}
theorem reDrive_of {Q : Sre.M → Shared → Prop} {m' : Sre.M} (q : Q m' s) : ∀ (k turns : Nat) (m : Sre.M), driveP k m = some m' → k ≤ turns → wpAny M A (reDrive turns m) Q E s
  | 0, _, _, h, _ => by cases h
  | k + 1, 0, _, _, hk => absurd hk (by lia)
  | k + 1, turns + 1, m, h, hk => by
    unfold driveP at h
    dsimp only at h
    unfold reDrive
    dsimp only
    show wpAny M A (if (m.runFor 4).outcome.isSome = true then pure (m.runFor 4) else rule "sre.turn" >>= fun _ => reDrive turns (m.runFor 4)) Q E s
    cases ho : (m.runFor 4).outcome.isSome with
    | true =>
      rw [ho, if_pos rfl] at h
      cases h
      rw [if_pos rfl]
      exact wpAny_pure q
    | false =>
      rw [ho, if_neg Bool.false_ne_true] at h
      rw [if_neg Bool.false_ne_true]
      exact wpAny_bind (wpAny_rule (reDrive_of q k turns _ h (by lia)))
theorem forIn_quiet {f : Nat → PUnit → Sem (ForInStep PUnit)} {Q : PUnit → Shared → Prop} (hf : ∀ i r (Q' : ForInStep PUnit → Shared → Prop), Q' (.yield ⟨⟩) s → wpAny M A (f i r) Q' E s) (q : Q ⟨⟩ s) : ∀ l : List Nat, wpAny M A (forIn l PUnit.unit f) Q E s
  | [] => wpAny_pure q
  | i :: l => by
    rw [List.forIn_cons]
    exact wpAny_bind (hf i _ _ (forIn_quiet hf q l))
theorem reRun_of {Q : Option Sre.M → Shared → Prop} {m m' : Sre.M} {k : Nat} (h : driveP k m = some m') (hk : k ≤ 2 ^ 64) (q : wpAny M A (match m'.outcome with
    | some .matched => pure (some m')
    | some .failed => pure none
    | some (.stuck why) => unsupported s!"_sre:{why}"
    | none => unsupported "internal:sre:no-outcome" : Sem (Option Sre.M)) Q E s) : wpAny M A (reRunToEnd m) Q E s := by
  unfold reRunToEnd
  refine wpAny_bind (reDrive_of ?_ k _ m h hk)
  refine wpAny_bind (forIn_quiet (fun i r Q' q' => ?_) ?_ _)
  · split
    · exact wpAny_bind (wpAny_rule (wpAny_pure q'))
    · exact wpAny_pure q'
  · exact q
/-- a pattern with these words of code stands there -/
structure PatAt (h : Heap) (P c : Addr) (code : Array Nat) : Prop where
  pat : ∃ v0 v1 v3 v4 t2 t6 n, h.get? P = some { cls := .type "re.Pattern", data := .fields #[v0, v1, .int 0 t2, v3, v4, .ref c, .int 0 t6] } ∧ ∃ items, h.get? c = some { cls := .type "tuple", data := .seq items n } ∧ (items.map reRawOf).map (·.toNat) = code
theorem whole_of {P c : Addr} {code : Array Nat} {x : Str} {t : Tok} {Q : ReTarget → Shared → Prop} (hp : PatAt s.heap P c code) (q : Q { pattern := .ref P, string := .str x t, code := code, text := x.cps, kind := 0, groups := 0, pos := 0, lim := x.cps.size } s) :
    wpAny M A (reWholeTarget (.ref P) (.str x t)) Q E s := by
  obtain ⟨v0, v1, v3, v4, t2, t6, n, e1, items, e2, rfl⟩ := hp.pat
  unfold reWholeTarget
  refine wpAny_bind (wpAny_fieldsOf e1 rfl ?_)
  show wpAny M A (PySem.Builtin.Re.reTextOf (.str x t) >>= _) Q E s
  refine wpAny_bind (wpAny_pure ?_)
  show wpAny M A (PySem.Builtin.Re.reRawItems (.ref c) >>= _) Q E s
  refine wpAny_bind ?_
  unfold PySem.Builtin.Re.reRawItems
  refine wpAny_bind ?_
  have hs : wpAny M A (seqItems? (.ref c)) (fun r s' => r = some items ∧ s' = s) E s := by
    have := wpAny_seqItems (M := M) (A := A) (E := E) (Q := fun r s' => r = some items ∧ s' = s) e2 rfl ⟨rfl, rfl⟩
    exact this
  refine wpAny_mono hs (fun r s' hr => ?_) fun _ _ e => e
  obtain ⟨rfl, rfl⟩ := hr
  exact wpAny_pure (wpAny_pure q)

theorem pushL {D : Addr} {xs : Array Value} {n : Nat} {v : Value} {Q : Unit → Shared → Prop} (h : s.heap.get? D = some (PySem.W.listOf xs n)) (hz : xs.size ≤ sizeLine)
    (q : ∀ h', (∃ n', h'.get? D = some (PySem.W.listOf (xs.push v) n')) → (∀ b o, b ≠ D → s.heap.get? b = some o → h'.get? b = some o) → Q () { s with heap := h' }) : wpAny M A (updateSeq D (·.push v)) Q E s := by
  refine wpAny_updateSeq h rfl (q _ ⟨_, PySem.IsL.update h _⟩ fun b o hb e => (Heap.SameBut.update (a := D) (h := s.heap) (f := Obj.mapSeq (·.push v))).extBut b o hb e)
/-- the pieces of a sub: what stands between the matches, and the replacement for each match -/
noncomputable def subP (code text : Array Nat) (repl : Str) (F : Nat) : Nat → Nat → Nat → Bool → Option (List Str)
  | 0, _, _, _ => none
  | k + 1, done, start, must =>
    match driveP F (Sre.forSearch code text 0 start text.size must) with
    | none => none
    | some m => match m.outcome with
      | some .matched => (subP code text repl F k m.handed m.handed (m.handed == m.start)).map fun r => (if done < m.start then [⟨text.extract done m.start⟩] else []) ++ repl :: r
      | some .failed => some (if done < text.size then [⟨text.extract done text.size⟩] else [])
      | _ => none
theorem reSlice_of {text : Array Nat} {b e : Nat} {Q : Value → Shared → Prop} (hz : text.size ≤ sizeLine) (q : ∀ t, Q (.str ⟨text.extract b e⟩ t) { s with toks := s.toks + 1 }) : wpAny M A (reSlice text 0 b e) Q E s := by
  show wpAny M A (mkStr ⟨text.extract b e⟩) Q E s
  refine wpAny_mkStr' (q _) ?_
  show (text.extract b e).size ≤ sizeLine
  rw [Array.size_extract]; lia
end
theorem slot_sub : Slot "re.Pattern" "sub" "re.Pattern.sub" :=
  .of (owner := "re.Pattern") (n := "sub") (by rw [typeLookup_type, builtinLookup_eq_fast]; kernel_rfl) (by decide +kernel) (by decide +kernel) (by decide +kernel)
    (by first | exact .inl (by decide +kernel) | exact .inr (by decide +kernel)) (by rw [isSubtype_type]; kernel_rfl)
theorem type_sub : typeOf (.builtin "re.Pattern.sub") = pure (.type "method_descriptor") := by show builtinType _ = _; rw [builtinType_eq_fast]; kernel_rfl
theorem entry_sub : entryFor table "re.Pattern.sub" = some Builtin.«re.Pattern.sub» := entryFor_of_tree (by kernel_rfl)
theorem entry_loop : entryFor table "re.Pattern.sub.loop" = some Builtin.«re.Pattern.sub.loop» := entryFor_of_tree (by kernel_rfl)
theorem args_sub (a b c : Value) : argsOk "re.Pattern.sub" ⟨[a, b, c], []⟩ := by unfold argsOk; kernel_rfl
end Mine
end
section
open PySem PySem.W PyProof.Rows PySem.Calls
set_option maxRecDepth 100000
set_option maxHeartbeats 4000000
namespace Mine
open PySem.Builtin.Re (reDrive reRunToEnd reWholeTarget ReTarget reRawOf reTurnSteps reSlice reNextFound reLiteralCannotBeTurned reSubstitute)
theorem plainAttrs_pat : PlainAttrs "re.Pattern" :=
  ⟨⟨"object.__getattribute__", by rw [typeLookup_type, builtinLookup_eq_fast]; kernel_rfl, by decide +kernel⟩, by rw [typeLookup_type, builtinLookup_eq_fast]; kernel_rfl⟩
section
variable {prog : Program} {w : World} {A : Around} {s : Shared}
theorem sub_loop {P c D : Addr} {code : Array Nat} {x repl : Str} {tx tr t1 t2 t3 t4 t5 : Tok} {F : Nat} {texts : List Str} {R : Result → Shared → Prop} (hF : F ≤ 2 ^ 64) (hx : x.length ≤ 1000) (hj : JoinOk ⟨x.cps.extract 0 0⟩ texts = true) (hne : texts ≠ [])
    (hQ : ∀ h' tk t, (∀ b o, b ≠ D → s.heap.get? b = some o → h'.get? b = some o) → R (.ok (.ret (.str (Txt.join ⟨x.cps.extract 0 0⟩ texts) t))) { s with heap := h', toks := tk }) (hPD : P ≠ D) (hcD : c ≠ D) (hp : PatAt s.heap P c code) :
    ∀ (k done start : Nat) (must : Bool) (n : Int) (l : List (Str × Tok)) (r : List Str) (nD : Nat) (h : Heap) (tk : Nat), subP code x.cps repl F k done start must = some r → l.map (·.1) ++ r = texts → l.length + 2 * k ≤ 3000 →
      h.get? D = some (PySem.W.listOf (strValues l).toArray nD) → (∀ b o, b ≠ D → s.heap.get? b = some o → h.get? b = some o) →
      codeAny (model prog w) A (.builtin "re.Pattern.sub.loop" ⟨[.ref P, .str x tx, .str repl tr, .int 0 t1, .int 0 t2, .int n t3, .int (done : Int) t4, .int (start : Int) t5, .bool must, .ref D, .bool false], []⟩) R { s with heap := h, toks := tk } := by
  intro k
  induction k generalizing t1 t2 t3 t4 t5 with
  | zero => intro _ _ _ _ _ _ _ _ _ hs; cases hs
  | succ k ih =>
    intro done start must n l r nD h tk hs htx hlen hD hk
    refine codeAny_builtin entry_loop ?_
    rw [Around.under_plainId (by decide +kernel)]
    have hp' : PatAt h P c code := by
      obtain ⟨v0, v1, v3, v4, a2, a6, m, e1, items, e2, e3⟩ := hp.pat
      exact ⟨v0, v1, v3, v4, a2, a6, m, hk _ _ hPD e1, items, hk _ _ hcD e2, e3⟩
    have hxs : x.cps.size ≤ sizeLine := by rw [sizeLine_eq]; unfold PySem.Str.length at hx; lia
    show wpAny _ _ (reWholeTarget (.ref P) (.str x tx) >>= _) _ _ _
    refine wpAny_bind (whole_of (s := { s with heap := h, toks := tk }) hp' ?_)
    show wpAny _ _ (reLiteralCannotBeTurned (.str repl tr) >>= _) _ _ _
    refine wpAny_bind ?_
    unfold reLiteralCannotBeTurned
    refine wpAny_bind (wpAny_pure (wpAny_pure ?_))
    show wpAny _ _ (reNextFound _ ((start : Int).toNat) must >>= _) _ _ _
    rw [Int.toNat_natCast]
    unfold subP at hs
    unfold reNextFound
    cases e : driveP F (Sre.forSearch code x.cps 0 start x.cps.size must) with
    | none => rw [e] at hs; cases hs
    | some m =>
      rw [e] at hs
      dsimp only at hs
      refine wpAny_bind (reRun_of e hF ?_)
      cases ho : m.outcome with
      | none => rw [ho] at hs; cases hs
      | some oc =>
        rw [ho] at hs
        cases oc with
        | stuck why => cases hs
        | matched =>
          refine wpAny_pure ?_
          dsimp only at hs ⊢
          obtain ⟨r', hs', rfl⟩ := Option.map_eq_some_iff.mp hs
          rw [Int.toNat_natCast]
          have tail : ∀ (h₁ : Heap) (tk₁ : Nat) (l₁ : List (Str × Tok)) (n₁ : Nat), h₁.get? D = some (PySem.W.listOf (strValues l₁).toArray n₁) → (∀ b o, b ≠ D → s.heap.get? b = some o → h₁.get? b = some o) → l₁.map (·.1) ++ (repl :: r') = texts → l₁.length ≤ l.length + 1 →
              wpAny (model prog w) A.in1 (updateSeq D (·.push (.str repl tr)) >>= fun _ => again (.builtin "re.Pattern.sub.loop" ⟨[.ref P, .str x tx, .str repl tr, rawInt 0, rawInt 0, rawInt (n + 1), rawInt m.handed, rawInt m.handed, .bool (m.handed == m.start), .ref D, .bool false], []⟩))
                (fun fin s' => match fin with | .done f => R (.ok f) s' | .again c' => c'.quiet = true ∧ codeAny (model prog w) A c' R s') (fun e s' => R (.error e) s') { s with heap := h₁, toks := tk₁ } := by
            intro h₁ tk₁ l₁ n₁ g1 g2 g3 g4
            refine wpAny_bind (pushL (s := { s with heap := h₁, toks := tk₁ }) g1 (by simp only [strValues, List.size_toArray, List.length_map, sizeLine_eq]; lia) fun h₂ ⟨n₂, g5⟩ g6 => ?_)
            refine wpAny_pure ⟨plainId_quiet (by decide +kernel) _, ?_⟩
            refine ih m.handed m.handed _ (n + 1) (l₁ ++ [(repl, tr)]) r' n₂ h₂ tk₁ hs' ?_ ?_ ?_ fun b o hb eb => g6 b o hb (g2 b o hb eb)
            · rw [← g3]; simp
            · rw [List.length_append]; simp only [List.length_cons, List.length_nil]; lia
            · rw [g5]; simp [strValues]
          by_cases hd : done < m.start
          · rw [if_pos hd]
            rw [if_pos hd] at htx
            refine wpAny_bind (reSlice_of (s := { s with heap := h, toks := tk }) hxs fun t => ?_)
            refine wpAny_bind (pushL (s := { s with heap := h, toks := tk + 1 }) hD (by simp only [strValues, List.size_toArray, List.length_map, sizeLine_eq]; lia) fun h₂ ⟨n₂, g5⟩ g6 => ?_)
            rw [if_pos (by rfl)]
            refine wpAny_bind (wpAny_pure ?_)
            rw [if_pos (by rfl)]
            refine tail h₂ _ (l ++ [(⟨x.cps.extract done m.start⟩, t)]) n₂ ?_ (fun b o hb eb => g6 b o hb (hk b o hb eb)) ?_ ?_
            · rw [g5]; simp [strValues]
            · rw [← htx]; simp
            · simp
          · rw [if_neg hd]
            rw [if_neg hd] at htx
            rw [if_pos (by rfl)]
            refine wpAny_bind (wpAny_pure ?_)
            rw [if_pos (by rfl)]
            exact tail h _ l nD hD hk (by rw [← htx]; simp) (by lia)
        | failed =>
          refine wpAny_pure ?_
          dsimp only at hs ⊢
          rw [Int.toNat_natCast]
          have tail : ∀ (h₁ : Heap) (tk₁ : Nat) (l₁ : List (Str × Tok)) (n₁ : Nat), h₁.get? D = some (PySem.W.listOf (strValues l₁).toArray n₁) → (∀ b o, b ≠ D → s.heap.get? b = some o → h₁.get? b = some o) → l₁.map (·.1) = texts →
              wpAny (model prog w) A.in1 (reSlice x.cps 0 0 0 >>= fun joiner => seqItems? (.ref D) >>= fun items => if (items.getD #[]).isEmpty = true then (pure joiner >>= fun text => ret text) else (call (.builtin "str.join") [joiner, .ref D] >>= fun text => ret text))
                (fun fin s' => match fin with | .done f => R (.ok f) s' | .again c' => c'.quiet = true ∧ codeAny (model prog w) A c' R s') (fun e s' => R (.error e) s') { s with heap := h₁, toks := tk₁ } := by
            intro h₁ tk₁ l₁ n₁ g1 g2 g3
            refine wpAny_bind (reSlice_of (s := { s with heap := h₁, toks := tk₁ }) hxs fun t => ?_)
            refine wpAny_bind (wpAny_seqItems (s := { s with heap := h₁, toks := tk₁ + 1 }) g1 rfl ?_)
            have hl1 : l₁ ≠ [] := fun z => hne (by rw [← g3, z]; rfl)
            rw [if_neg (by cases l₁ with | nil => exact absurd rfl hl1 | cons a r => simp [strValues])]
            refine wpAny_bind (SC.join (s := { s with heap := h₁, toks := tk₁ + 1 }) ⟨_, g1, rfl, _, rfl⟩ g3 hj fun t' k' => ?_)
            exact wpAny_pure (hQ h₁ _ _ g2)
          cases hs
          by_cases hd : done < x.cps.size
          · rw [if_pos hd]
            rw [if_pos hd] at htx
            refine wpAny_bind (reSlice_of (s := { s with heap := h, toks := tk }) hxs fun t => ?_)
            refine wpAny_bind (pushL (s := { s with heap := h, toks := tk + 1 }) hD (by simp only [strValues, List.size_toArray, List.length_map, sizeLine_eq]; lia) fun h₂ ⟨n₂, g5⟩ g6 => ?_)
            refine tail h₂ _ (l ++ [(⟨x.cps.extract done x.cps.size⟩, t)]) n₂ ?_ (fun b o hb eb => g6 b o hb (hk b o hb eb)) ?_
            · rw [g5]; simp [strValues]
            · rw [← htx]; simp
          · rw [if_neg hd]
            rw [if_neg hd] at htx
            exact tail h _ l nD hD hk (by rw [← htx]; simp)

theorem reNamed_sub (a b : Value) : PySem.Builtin.Re.reNamed "re.Pattern.sub" "sub" ["repl", "string", "count"] 2 [a, b] [] = pure [some a, some b, none] := by rfl
theorem call_sub {P c : Addr} {code : Array Nat} {x repl : Str} {tx tr : Tok} {F k : Nat} {texts : List Str} {E : Value → Shared → Prop} {Q : Value → Shared → Prop} (hF : F ≤ 2 ^ 64) (hk : k ≤ 1000) (hx : x.length ≤ 1000) (hr2 : repl.cps.contains 92 = false) (hj : JoinOk ⟨x.cps.extract 0 0⟩ texts = true) (hne : texts ≠ [])
    (hp : PatAt s.heap P c code) (hs : subP code x.cps repl F k 0 0 false = some texts)
    (hQ : ∀ h' tk t, (∀ b o, s.heap.get? b = some o → h'.get? b = some o) → Q (.str (Txt.join ⟨x.cps.extract 0 0⟩ texts) t) { s with heap := h', toks := tk }) :
    wpAny (model prog w) A (call (.builtin "re.Pattern.sub") [.ref P, .str repl tr, .str x tx]) Q E s := by
  have hp0 := hp
  obtain ⟨v0, v1, v3, v4, a2, a6, m, e1, items, e2, e3⟩ := hp0.pat
  have hT : s.TypeIs (.ref P) "re.Pattern" := ⟨_, e1, rfl⟩
  refine wpAny_call (codeAny_call_builtin slot_sub.plain entry_sub (slot_sub.check _ _ _ _ _ _ _ _ hT (args_sub _ _ _) ?_))
  show wpAny _ _ (PySem.Builtin.Re.reNamed "re.Pattern.sub" "sub" ["repl", "string", "count"] 2 [.str repl tr, .str x tx] [] >>= _) _ _ s
  rw [reNamed_sub]
  refine wpAny_bind (wpAny_pure ?_)
  refine wpAny_bind (wpAny_pure ?_)
  show wpAny _ _ (specialOf (.str repl tr) "__call__" >>= _) _ _ s
  refine wpAny_bind (wpAny_specialOf (typeIs_str _ _ _) (show typeLookup (.type "str") (PySem.Str.ofString "__call__") = pure none by rw [typeLookup_type, builtinLookup_eq_fast]; kernel_rfl) ?_)
  show wpAny _ _ (asStr? (.str repl tr) >>= _) _ _ s
  refine wpAny_bind (wpAny_pure ?_)
  show wpAny _ _ (pure (!repl.cps.contains 92) >>= _) _ _ s
  rw [hr2]
  refine wpAny_bind (wpAny_pure ?_)
  show wpAny _ _ (pure (Value.str repl tr, 0) >>= _) _ _ s
  refine wpAny_bind (wpAny_pure ?_)
  show wpAny _ _ (holding _ (reWholeTarget (.ref P) (.str x tx)) >>= _) _ _ s
  refine wpAny_bind (wpAny_holding (whole_of hp ?_))
  show wpAny _ _ (newList [] >>= _) _ _ s
  refine wpAny_bind (wpAny_newObj_type ?_ (by size_fits))
  refine wpAny_pure ⟨plainId_quiet (by decide +kernel) _, ?_⟩
  have hps : P < s.heap.objs.size := Heap.lt_size e1
  have hcs : c < s.heap.objs.size := Heap.lt_size e2
  refine sub_loop (D := s.heap.objs.size) (F := F) (texts := texts) hF hx hj hne (fun h' tk t hk' => hQ h' tk t fun b o eb => hk' b o (Nat.ne_of_lt (Heap.lt_size eb)) eb) (Nat.ne_of_lt hps) (Nat.ne_of_lt hcs) hp k 0 0 false 0 [] texts 0 _ _ hs rfl (by simp; lia) ?_ ?_
  · exact Heap.get?_push_size _ rfl
  · exact fun b o hb eb => Heap.get?_push_of_some _ eb
end
end Mine
end
section
open PySem PySem.W PyProof.Rows PySem.Calls
set_option maxRecDepth 100000
set_option maxHeartbeats 4000000
namespace Mine
open PySem.Builtin.Re (reRawOf)
/-- a world's numbers, whatever they are -/
noncomputable def P0 : Params := { strHash := fun _ => 0, shareClass := fun _ => 0, mergeTok := fun t => t, idOf := fun _ => 0, idOfShared := fun _ _ => 0, followText := fun _ => true, idOfImm := fun _ => 0 }
/-- the words of a pattern's code, as they stand in the head -/
noncomputable def codeOf (a : Addr) : Array Nat := match (hd.heap_39 P0).lookup a with
  | some o => (match o.data with | .seq items _ => (items.map reRawOf).map (·.toNat) | _ => #[])
  | none => #[]
noncomputable def dotN (r k : Nat) : Nat := r / 4 / 2 ^ k % 2
noncomputable def rowsN (r : Nat) : Nat := 1 + r % 4
noncomputable def endN (r : Nat) : List Nat := match r / 64 % 3 with | 0 => [10] | 1 => [13] | _ => [13, 10]
/-- the mail of a total -/
noncomputable def mailL (r : Nat) : List Nat := (List.range (rowsN r)).flatMap fun k => (if dotN r k = 1 then 46 else 111) :: endN r
noncomputable def crlfL (r : Nat) : List Nat := (List.range (rowsN r)).flatMap fun k => (if dotN r k = 1 then 46 else 111) :: [13, 10]
noncomputable def quotL (r : Nat) : List Nat := (List.range (rowsN r)).flatMap fun k => (if dotN r k = 1 then [46, 46] else [111]) ++ [13, 10]
noncomputable def subOk (code : Array Nat) (repl : Str) (x y : List Nat) : Bool := match subP code x.toArray repl 200 40 0 0 false with
  | some t => JoinOk ⟨x.toArray.extract 0 0⟩ t && !t.isEmpty && (Txt.join ⟨x.toArray.extract 0 0⟩ t).cps.toList == y
  | none => false
/-- the least total with the same mail -/
noncomputable def canN (r : Nat) : Nat := r % 4 + 4 * (r / 4 % 2 ^ (1 + r % 4)) + 64 * (r / 64 % 3)
/-- the least total with the same rows -/
noncomputable def canR (r : Nat) : Nat := r % 4 + 4 * (r / 4 % 2 ^ (1 + r % 4))
theorem fix_all : (((List.range 192).filter fun r => canN r == r).all fun r => subOk (codeOf 132) "\r\n" (mailL r) (crlfL r)) = true := by decide +kernel
theorem quo_all : (((List.range 64).filter fun r => canR r == r).all fun r => subOk (codeOf 127) ".." (crlfL r) (quotL r)) = true := by decide +kernel
theorem can_all : ((List.range 192).all fun r => decide (canN r < 192) && canN (canN r) == canN r && decide (canR r < 64) && canR (canR r) == canR r && mailL (canN r) == mailL r && crlfL (canN r) == crlfL r && crlfL (canR r) == crlfL r && quotL (canR r) == quotL r && decide ((mailL r).length ≤ 12) && decide ((crlfL r).length ≤ 12)) = true := by decide +kernel
theorem can_of {r : Nat} (h : r < 192) : canN r < 192 ∧ canN (canN r) = canN r ∧ canR r < 64 ∧ canR (canR r) = canR r ∧ mailL (canN r) = mailL r ∧ crlfL (canN r) = crlfL r ∧ crlfL (canR r) = crlfL r ∧ quotL (canR r) = quotL r ∧ (mailL r).length ≤ 12 ∧ (crlfL r).length ≤ 12 := by
  have := List.all_eq_true.mp can_all r (List.mem_range.mpr h)
  simp only [Bool.and_eq_true, decide_eq_true_eq, beq_iff_eq] at this
  obtain ⟨⟨⟨⟨⟨⟨⟨⟨⟨a, b⟩, c⟩, d⟩, e⟩, f⟩, g⟩, i⟩, j⟩, k⟩ := this
  exact ⟨a, b, c, d, e, f, g, i, j, k⟩
theorem fix_ok {r : Nat} (h : r < 192) : subOk (codeOf 132) "\r\n" (mailL r) (crlfL r) = true := by
  obtain ⟨a, b, c, d, e, f, g, i, j, k⟩ := can_of h
  have := List.all_eq_true.mp fix_all (canN r) (List.mem_filter.mpr ⟨List.mem_range.mpr a, by simp [b]⟩)
  rw [e, f] at this
  exact this
theorem quo_ok {r : Nat} (h : r < 192) : subOk (codeOf 127) ".." (crlfL r) (quotL r) = true := by
  obtain ⟨a, b, c, d, e, f, g, i, j, k⟩ := can_of h
  have := List.all_eq_true.mp quo_all (canR r) (List.mem_filter.mpr ⟨List.mem_range.mpr c, by simp [d]⟩)
  rw [g, i] at this
  exact this
theorem subOk_spec {code : Array Nat} {repl : Str} {x y : List Nat} (h : subOk code repl x y = true) : ∃ t, subP code x.toArray repl 200 40 0 0 false = some t ∧ JoinOk ⟨x.toArray.extract 0 0⟩ t = true ∧ t ≠ [] ∧ Txt.join ⟨x.toArray.extract 0 0⟩ t = ⟨y.toArray⟩ := by
  unfold subOk at h
  split at h
  · rename_i t e
    simp only [Bool.and_eq_true, beq_iff_eq] at h
    refine ⟨t, e, h.1.1, fun z => ?_, ?_⟩
    · rw [z] at h; simp at h
    · apply Str.ext'
      rw [← h.2]
  · cases h
theorem patAt (w : World) {h₀ h : Heap} (X : (hd.heap_39 w.params).In h₀) (k : ∀ b o, h₀.get? b = some o → h.get? b = some o) : PatAt h 128 127 (codeOf 127) ∧ PatAt h 133 132 (codeOf 132) := by
  have hkk0 : (fun (_ : Params → Frag) (_ : OpenLaw) => True) hd.heap_39 PySem.Challenge.rw_sc0065_01 := by k_fill; trivial
  clear hkk0
  have a1 := k _ _ (X 128 _ (by k_is))
  have a2 := k _ _ (X 127 _ (by k_is))
  have a3 := k _ _ (X 133 _ (by k_is))
  have a4 := k _ _ (X 132 _ (by k_is))
  exact ⟨⟨_, _, _, _, _, _, _, a1, _, a2, by decide +kernel⟩, ⟨_, _, _, _, _, _, _, a3, _, a4, by decide +kernel⟩⟩
end Mine
end
section
open PySem PySem.W PyProof.Rows PySem.Calls
set_option maxRecDepth 100000
set_option maxHeartbeats 4000000
namespace Mine
/-- a count of 32nds -/
noncomputable def fl (k : Nat) : UInt64 := Float64.ofFrac false k 32
theorem fl_all : ((List.range 33).all fun a => (List.range 33).all fun b => Float64.cmp (fl a) (fl b) == some (compare a b)) = true := by decide +kernel
theorem fl_all2 : ((List.range 33).all fun a => (List.range (a + 1)).all fun b => Float64.sub (fl a) (fl b) == fl (a - b) && (a == b || (Float64.isZero (Float64.sub (fl a) (fl b)) == false && Float64.isZero (Float64.sub (Float64.sub (Float64.ofFrac false 2 1) (fl a)) (fl b)) == false)) && Float64.add (fl a) (fl b) == fl (a + b)) = true := by decide +kernel
theorem fl_all3 : ((List.range 65).all fun a => (a == 0 || Float64.isZero (fl a) == false) && Float64.mul (Float64.ofInt 2) (Float64.div (fl a) (Float64.ofFrac false 2 1)) == fl a) = true := by decide +kernel
theorem fl_all4 : ((List.range 33).all fun a => (List.range (a + 1)).all fun b => Float64.sub (fl (a + b)) (fl a) == fl b) = true := by decide +kernel
theorem fl_all5 : ((List.range 33).all fun a => Float64.mul (fl a) (Float64.ofInt 32) == Float64.ofInt a) = true := by decide +kernel
theorem cmp_fl {a b : Nat} (ha : a ≤ 32) (hb : b ≤ 32) : Float64.cmp (fl a) (fl b) = some (compare a b) := by
  have := List.all_eq_true.mp (List.all_eq_true.mp fl_all a (List.mem_range.mpr (by omega))) b (List.mem_range.mpr (by omega))
  simpa using this
theorem gt_fl {a b : Nat} (ha : a ≤ 32) (hb : b ≤ 32) : (Float64.cmp (fl a) (fl b) == some .gt) = decide (a > b) := by
  rw [cmp_fl ha hb]
  by_cases h : a > b
  · rw [decide_eq_true h, Nat.compare_eq_gt.mpr h]; rfl
  · rw [decide_eq_false h]
    rw [beq_eq_false_iff_ne]
    intro e
    exact h (Nat.compare_eq_gt.mp (Option.some.inj e))
theorem lt_fl {a b : Nat} (ha : a ≤ 32) (hb : b ≤ 32) : (Float64.cmp (fl a) (fl b) == some .lt) = decide (a < b) := by
  rw [cmp_fl ha hb]
  by_cases h : a < b
  · rw [decide_eq_true h, Nat.compare_eq_lt.mpr h]; rfl
  · rw [decide_eq_false h]
    rw [beq_eq_false_iff_ne]
    intro e
    exact h (Nat.compare_eq_lt.mp (Option.some.inj e))
theorem eq_fl {a b : Nat} (ha : a ≤ 32) (hb : b ≤ 32) : (Float64.cmp (fl a) (fl b) == some .eq) = decide (a = b) := by
  rw [cmp_fl ha hb]
  by_cases h : a = b
  · rw [decide_eq_true h, Nat.compare_eq_eq.mpr h]; rfl
  · rw [decide_eq_false h]
    rw [beq_eq_false_iff_ne]
    intro e
    exact h (Nat.compare_eq_eq.mp (Option.some.inj e))
noncomputable def flItems (xs : Array (Nat × Tok)) : Array Value := xs.map fun p => .float (fl p.1) p.2
noncomputable def natAt (xs : Array (Nat × Tok)) (i : Nat) : Nat := (xs[i]?.map (·.1)).getD 0
theorem flItems_at {xs : Array (Nat × Tok)} (hx : ∀ i, natAt xs i ≤ 32) {i : Nat} {v : Value} (h : (flItems xs)[i]? = some v) : (∃ t, v = .float (fl (natAt xs i)) t) ∧ natAt xs i ≤ 32 := by
  refine ⟨?_, hx i⟩
  simp only [flItems, Array.getElem?_map, Option.map_eq_some_iff] at h
  obtain ⟨p, hp, rfl⟩ := h
  exact ⟨p.2, by simp [natAt, hp]⟩
section
variable {prog : Program} {w : World} {A : Around} {E : Value → Shared → Prop} {s : Shared}
theorem cmpOf_gt {xs : Array (Nat × Tok)} (hx : ∀ i, natAt xs i ≤ 32) : CmpOf prog w A .Gt (fun i v => (flItems xs)[i]? = some v) (fun i j => decide (natAt xs i > natAt xs j)) := fun i j vi vj s Q E hi hj h => by
  obtain ⟨⟨t, rfl⟩, h1⟩ := flItems_at hx hi
  obtain ⟨⟨u, rfl⟩, h2⟩ := flItems_at hx hj
  dsimp only at h
  rw [← gt_fl h1 h2] at h
  exact richCompare_gives (op := .Gt) (typeIs_float s _ t) (typeIs_float s _ u) PySem.F.slot_float_gt PySem.F.entry_float_gt (PySem.F.args_float_gt_2 _ _) (AutoFloatG4.float___gt___float_float_0 _ t _ u) (fun x => nomatch x) h
theorem cmpOf_lt {xs : Array (Nat × Tok)} (hx : ∀ i, natAt xs i ≤ 32) : CmpOf prog w A .Lt (fun i v => (flItems xs)[i]? = some v) (fun i j => decide (natAt xs i < natAt xs j)) := fun i j vi vj s Q E hi hj h => by
  obtain ⟨⟨t, rfl⟩, h1⟩ := flItems_at hx hi
  obtain ⟨⟨u, rfl⟩, h2⟩ := flItems_at hx hj
  dsimp only at h
  rw [← lt_fl h1 h2] at h
  exact richCompare_gives (op := .Lt) (typeIs_float s _ t) (typeIs_float s _ u) PySem.F.slot_float_lt PySem.F.entry_float_lt (PySem.F.args_float_lt_2 _ _) (AutoFloatG5.float___lt___float_float_0 _ t _ u) (fun x => nomatch x) h
theorem natAt3 {a b c : Nat} {t u x : Tok} (ha : a ≤ 32) (hb : b ≤ 32) (hc : c ≤ 32) : ∀ i, natAt #[(a, t), (b, u), (c, x)] i ≤ 32 := fun i => by
  match i with
  | 0 => simpa [natAt] using ha
  | 1 => simpa [natAt] using hb
  | 2 => simpa [natAt] using hc
  | n + 3 => simp [natAt]
theorem max3_fl {a b c : Nat} {t u x : Tok} {Q : Value → Shared → Prop} (hh : A.handled = none) (ha : a ≤ 32) (hb : b ≤ 32) (hc : c ≤ 32)
    (h : ∀ h' tk t', (∀ d o, s.heap.get? d = some o → h'.get? d = some o) → Q (.float (fl (max (max a b) c)) t') { s with heap := h', toks := tk }) :
    wpAny (model prog w) A (call (.builtin "max") [.float (fl a) t, .float (fl b) u, .float (fl c) x]) Q E s := by
  have hT : (s.heap.push { cls := .type "tuple", data := .seq #[.float (fl a) t, .float (fl b) u, .float (fl c) x] }).IsTuple s.heap.objs.size (flItems #[(a, t), (b, u), (c, x)]) := ⟨_, Heap.get?_push_size _ rfl, rfl, 0, by simp [flItems]⟩
  refine call_max_three (wpAny_pyIter_tuple hT ?_)
  have hsz : (s.heap.push { cls := .type "tuple", data := .seq #[.float (fl a) t, .float (fl b) u, .float (fl c) x] }).objs.size = s.heap.objs.size + 1 := Heap.size_push ..
  refine ⟨_, [_, s.heap.objs.size], [_], _, _, _, _, rfl, Walks.tuple (A := A.in1) hh _ s.heap.objs.size (by rw [hsz]; exact Nat.ne_of_lt (Nat.lt_succ_self _)) (flItems #[(a, t), (b, u), (c, x)]),
    ⟨⟨_, Heap.get?_push_size _ rfl, rfl, rfl⟩, hT.push _⟩, fun d hd => ?_, by simp [flItems], cmpOf_gt (natAt3 ha hb hc), fun v h' tk hP hk => ?_⟩
  · show d < ((s.heap.push _).push _).objs.size
    rw [Heap.size_push, hsz]
    rcases List.mem_cons.mp hd with rfl | hd
    · rw [hsz]; exact Nat.lt_succ_self _
    · rcases List.mem_cons.mp hd with rfl | hd
      · exact Nat.lt_succ_of_lt (Nat.lt_succ_self _)
      · cases hd
  · have hold : ∀ d o, s.heap.get? d = some o → h'.get? d = some o := fun d o e => by
      refine hk d o (fun hm => ?_) (Heap.get?_push_of_some _ (Heap.get?_push_of_some _ e))
      rcases List.mem_cons.mp hm with e1 | hm
      · have := Heap.lt_size e; rw [e1, hsz] at this; exact Nat.lt_irrefl _ (Nat.lt_of_succ_lt this)
      · cases hm
    have hv : ∃ t', v = .float (fl (max (max a b) c)) t' := by
      obtain ⟨⟨t', e⟩, _⟩ := flItems_at (natAt3 (t := t) (u := u) (x := x) ha hb hc) hP
      refine ⟨t', e.trans ?_⟩
      congr 2
      have hsz2 : (flItems #[(a, t), (b, u), (c, x)]).size - 1 = 2 := by simp [flItems]
      rw [hsz2]
      by_cases hba : b > a
      · by_cases hc : c > b
        · have e : argBest (fun i j => decide (natAt #[(a, t), (b, u), (c, x)] i > natAt #[(a, t), (b, u), (c, x)] j)) 2 = 2 := by simp [argBest, natAt, hba, hc]
          rw [e]; simp [natAt]; omega
        · have e : argBest (fun i j => decide (natAt #[(a, t), (b, u), (c, x)] i > natAt #[(a, t), (b, u), (c, x)] j)) 2 = 1 := by simp [argBest, natAt, hba, hc]
          rw [e]; simp [natAt]; omega
      · by_cases hc : c > a
        · have e : argBest (fun i j => decide (natAt #[(a, t), (b, u), (c, x)] i > natAt #[(a, t), (b, u), (c, x)] j)) 2 = 2 := by simp [argBest, natAt, hba, hc]
          rw [e]; simp [natAt]; omega
        · have e : argBest (fun i j => decide (natAt #[(a, t), (b, u), (c, x)] i > natAt #[(a, t), (b, u), (c, x)] j)) 2 = 0 := by simp [argBest, natAt, hba, hc]
          rw [e]; simp [natAt]; omega
    obtain ⟨t', rfl⟩ := hv
    exact h h' tk t' hold
theorem min3_fl {a b c : Nat} {t u x : Tok} {Q : Value → Shared → Prop} (hh : A.handled = none) (ha : a ≤ 32) (hb : b ≤ 32) (hc : c ≤ 32)
    (h : ∀ h' tk t', (∀ d o, s.heap.get? d = some o → h'.get? d = some o) → Q (.float (fl (min (min a b) c)) t') { s with heap := h', toks := tk }) :
    wpAny (model prog w) A (call (.builtin "min") [.float (fl a) t, .float (fl b) u, .float (fl c) x]) Q E s := by
  have hT : (s.heap.push { cls := .type "tuple", data := .seq #[.float (fl a) t, .float (fl b) u, .float (fl c) x] }).IsTuple s.heap.objs.size (flItems #[(a, t), (b, u), (c, x)]) := ⟨_, Heap.get?_push_size _ rfl, rfl, 0, by simp [flItems]⟩
  refine call_min_three (wpAny_pyIter_tuple hT ?_)
  have hsz : (s.heap.push { cls := .type "tuple", data := .seq #[.float (fl a) t, .float (fl b) u, .float (fl c) x] }).objs.size = s.heap.objs.size + 1 := Heap.size_push ..
  refine ⟨_, [_, s.heap.objs.size], [_], _, _, _, _, rfl, Walks.tuple (A := A.in1) hh _ s.heap.objs.size (by rw [hsz]; exact Nat.ne_of_lt (Nat.lt_succ_self _)) (flItems #[(a, t), (b, u), (c, x)]),
    ⟨⟨_, Heap.get?_push_size _ rfl, rfl, rfl⟩, hT.push _⟩, fun d hd => ?_, by simp [flItems], cmpOf_lt (natAt3 ha hb hc), fun v h' tk hP hk => ?_⟩
  · show d < ((s.heap.push _).push _).objs.size
    rw [Heap.size_push, hsz]
    rcases List.mem_cons.mp hd with rfl | hd
    · rw [hsz]; exact Nat.lt_succ_self _
    · rcases List.mem_cons.mp hd with rfl | hd
      · exact Nat.lt_succ_of_lt (Nat.lt_succ_self _)
      · cases hd
  · have hold : ∀ d o, s.heap.get? d = some o → h'.get? d = some o := fun d o e => by
      refine hk d o (fun hm => ?_) (Heap.get?_push_of_some _ (Heap.get?_push_of_some _ e))
      rcases List.mem_cons.mp hm with e1 | hm
      · have := Heap.lt_size e; rw [e1, hsz] at this; exact Nat.lt_irrefl _ (Nat.lt_of_succ_lt this)
      · cases hm
    have hv : ∃ t', v = .float (fl (min (min a b) c)) t' := by
      obtain ⟨⟨t', e⟩, _⟩ := flItems_at (natAt3 (t := t) (u := u) (x := x) ha hb hc) hP
      refine ⟨t', e.trans ?_⟩
      congr 2
      have hsz2 : (flItems #[(a, t), (b, u), (c, x)]).size - 1 = 2 := by simp [flItems]
      rw [hsz2]
      by_cases hba : b < a
      · by_cases hc : c < b
        · have e : argBest (fun i j => decide (natAt #[(a, t), (b, u), (c, x)] i < natAt #[(a, t), (b, u), (c, x)] j)) 2 = 2 := by simp [argBest, natAt, hba, hc]
          rw [e]; simp [natAt]; omega
        · have e : argBest (fun i j => decide (natAt #[(a, t), (b, u), (c, x)] i < natAt #[(a, t), (b, u), (c, x)] j)) 2 = 1 := by simp [argBest, natAt, hba, hc]
          rw [e]; simp [natAt]; omega
      · by_cases hc : c < a
        · have e : argBest (fun i j => decide (natAt #[(a, t), (b, u), (c, x)] i < natAt #[(a, t), (b, u), (c, x)] j)) 2 = 2 := by simp [argBest, natAt, hba, hc]
          rw [e]; simp [natAt]; omega
        · have e : argBest (fun i j => decide (natAt #[(a, t), (b, u), (c, x)] i < natAt #[(a, t), (b, u), (c, x)] j)) 2 = 0 := by simp [argBest, natAt, hba, hc]
          rw [e]; simp [natAt]; omega
    obtain ⟨t', rfl⟩ := hv
    exact h h' tk t' hold
end
end Mine
end
section
namespace Mine
/-- how many leading items lie below x -/
noncomputable def idxL (ns : List Int) (x : Int) : Nat := (ns.takeWhile (fun y => decide (y < x))).length
/-- how many leading items lie at x or below -/
noncomputable def idxR (ns : List Int) (x : Int) : Nat := (ns.takeWhile (fun y => decide (y ≤ x))).length
noncomputable def insL (ns : List Int) (x : Int) : List Int := ns.take (idxL ns x) ++ x :: ns.drop (idxL ns x)
noncomputable def insR (ns : List Int) (x : Int) : List Int := ns.take (idxR ns x) ++ x :: ns.drop (idxR ns x)
theorem idxL_le (ns : List Int) (x : Int) : idxL ns x ≤ ns.length := (List.takeWhile_sublist _).length_le
theorem idxR_le (ns : List Int) (x : Int) : idxR ns x ≤ ns.length := (List.takeWhile_sublist _).length_le
theorem idxL_iff : ∀ (ns : List Int) (x : Int) (_ : ns.Pairwise (· ≤ ·)) (i : Nat) (_ : i < ns.length), ns.getD i 0 < x ↔ i < idxL ns x
  | [], _, _, _, h => absurd h (Nat.not_lt_zero _)
  | y :: r, x, hs, i, hi => by
    rw [List.pairwise_cons] at hs
    unfold idxL
    rw [List.takeWhile_cons]
    by_cases hy : y < x
    · rw [if_pos (by simpa using hy)]
      cases i with
      | zero => simp [hy]
      | succ i =>
        have := idxL_iff r x hs.2 i (by simpa using hi)
        unfold idxL at this
        simpa using this
    · rw [if_neg (by simpa using hy)]
      cases i with
      | zero => simp [hy]
      | succ i =>
        have hi' : i < r.length := by simpa using hi
        have : y ≤ r.getD i 0 := by
          rw [List.getD_eq_getElem?_getD, List.getElem?_eq_getElem hi']
          exact hs.1 _ (List.getElem_mem hi')
        simp only [List.getD_cons_succ, List.length_nil, Nat.not_lt_zero, iff_false]
        lia
theorem idxR_iff : ∀ (ns : List Int) (x : Int) (_ : ns.Pairwise (· ≤ ·)) (i : Nat) (_ : i < ns.length), x < ns.getD i 0 ↔ ¬ i < idxR ns x
  | [], _, _, _, h => absurd h (Nat.not_lt_zero _)
  | y :: r, x, hs, i, hi => by
    rw [List.pairwise_cons] at hs
    unfold idxR
    rw [List.takeWhile_cons]
    by_cases hy : y ≤ x
    · rw [if_pos (by simpa using hy)]
      cases i with
      | zero => simp [hy]
      | succ i =>
        have := idxR_iff r x hs.2 i (by simpa using hi)
        unfold idxR at this
        simpa using this
    · rw [if_neg (by simpa using hy)]
      cases i with
      | zero => simp; lia
      | succ i =>
        have hi' : i < r.length := by simpa using hi
        have : y ≤ r.getD i 0 := by
          rw [List.getD_eq_getElem?_getD, List.getElem?_eq_getElem hi']
          exact hs.1 _ (List.getElem_mem hi')
        simp only [List.getD_cons_succ, List.length_nil, Nat.not_lt_zero, not_false_eq_true, iff_true]
        lia
end Mine
end
section
open PySem PySem.W PyProof.Rows PySem.Calls PySem.Spec
set_option maxRecDepth 100000
set_option maxHeartbeats 4000000
namespace Mine
theorem two_turn0 (elt t0 i0 t1 i1 : Expr) (scope : Scope) (pos : Pos) (it acc : Value) (env : Env) :
    compTurn (.ListComp elt [⟨t0, i0, [], 0⟩, ⟨t1, i1, [], 0⟩] scope pos) 0 it acc env = (standAt i0.pos >>= fun _ => pyNext it >>= fun r => match r with
      | none => pure (.done .next)
      | some v => letOwnedTupleGo t0 it v >>= fun _ => assign t0 env v >>= fun _ =>
        eval i1 env >>= fun x => standAt i1.pos >>= fun _ => foldedSetIterable i1 env x >>= fun x' => holding [x'] (pyIter x') >>= fun it' =>
          runOwn (.compStart (.ListComp elt [⟨t0, i0, [], 0⟩, ⟨t1, i1, [], 0⟩] scope pos) 1 it' acc env) env >>= fun _ =>
          again (.compLoop (.ListComp elt [⟨t0, i0, [], 0⟩, ⟨t1, i1, [], 0⟩] scope pos) 0 it acc env)) := by rfl
theorem two_turn1 (elt t0 i0 t1 i1 : Expr) (scope : Scope) (pos : Pos) (it acc : Value) (env : Env) :
    compTurn (.ListComp elt [⟨t0, i0, [], 0⟩, ⟨t1, i1, [], 0⟩] scope pos) 1 it acc env = (standAt i1.pos >>= fun _ => pyNext it >>= fun r => match r with
      | none => pure (.done .next)
      | some v => letOwnedTupleGo t1 it v >>= fun _ => assign t1 env v >>= fun _ =>
        (eval elt env >>= fun x => call (.builtin "list.append") [acc, x] >>= fun _ => pure ()) >>= fun _ =>
          again (.compLoop (.ListComp elt [⟨t0, i0, [], 0⟩, ⟨t1, i1, [], 0⟩] scope pos) 1 it acc env)) := by rfl
section
variable {prog : Program} {w : World} {A : Around} {E : Value → Shared → Prop} {R : Result → Shared → Prop} {s : Shared} {h₀ : Heap}
noncomputable abbrev NoE : Value → Shared → Prop := fun _ _ => False
theorem noE {α : Type} {m : Sem α} {Q : α → Shared → Prop} (h : wpAny (model prog w) A m Q NoE s) : wpAny (model prog w) A m Q E s := wpAny_mono h (fun _ _ q => q) fun _ _ f => f.elim
theorem two_loop1 {elt t0 i0 t1 i1 : Expr} {scope : Scope} {pos : Pos} {it acc : Value} {env : Env} (I : Nat → Shared → Prop)
    (turn : ∀ n s, I n s → wpAny (model prog w) A (pyNext it) (fun r s₁ => match r with
      | none => R (.ok .next) s₁
      | some v => wpAny (model prog w) A (assign t1 env v) (fun _ s₂ => wpAny (model prog w) A (eval elt env) (fun x s₃ =>
          wpAny (model prog w) A (call (.builtin "list.append") [acc, x]) (fun _ s₄ => ∃ m, m < n ∧ I m s₄) NoE s₃) NoE s₂) NoE s₁) NoE s)
    (n : Nat) (h : I n s) (ht : ∀ v, letOwnedTupleGo t1 it v = pure () := by intro _; rfl) :
    codeAny (model prog w) A (.compLoop (.ListComp elt [⟨t0, i0, [], 0⟩, ⟨t1, i1, [], 0⟩] scope pos) 1 it acc env) R s := by
  refine codeAny_loop rfl I (fun n s hI => ?_) n h
  show wpAny _ _ ((compTurn (.ListComp elt [⟨t0, i0, [], 0⟩, ⟨t1, i1, [], 0⟩] scope pos) 1 it acc env).onRaise (fun x => do noteFrame x env; theTreesLotGoes x)) _ _ s
  refine wpAny_noted ?_
  rw [two_turn1]
  refine wpAny_bind (wpAny_standAt (wpAny_bind (noE (wpAny_mono (turn n s hI) (fun r s₁ h₁ => ?_) fun _ _ h' => h'))))
  cases r with
  | none => exact wpAny_pure h₁
  | some v =>
    refine wpAny_bind (wpAny_of_eq (ht v) (wpAny_bind (noE (wpAny_mono h₁ (fun _ s₂ h₂ => ?_) fun _ _ h' => h'))))
    refine wpAny_bind (wpAny_bind (noE (wpAny_mono h₂ (fun x s₃ h₃ => ?_) fun _ _ h' => h')))
    exact wpAny_bind (noE (wpAny_mono h₃ (fun _ s₄ h₄ => wpAny_pure (wpAny_pure ⟨rfl, h₄⟩)) fun _ _ h' => h'))
theorem two_start1 {elt t0 i0 t1 i1 : Expr} {scope : Scope} {pos : Pos} {it acc : Value} {env : Env}
    (h0 : codeAny (model prog w) A (.compLoop (.ListComp elt [⟨t0, i0, [], 0⟩, ⟨t1, i1, [], 0⟩] scope pos) 1 it acc env) R s)
    (h : wpAny (model prog w) A (pyIter it) (fun it' s' => codeAny (model prog w) A (.compLoop (.ListComp elt [⟨t0, i0, [], 0⟩, ⟨t1, i1, [], 0⟩] scope pos) 1 it' acc env) R s') NoE s) :
    codeAny (model prog w) A (.compStart (.ListComp elt [⟨t0, i0, [], 0⟩, ⟨t1, i1, [], 0⟩] scope pos) 1 it acc env) R s := by
  refine codeAny_of_tree ?_
  show wpAny _ _ ((compStart (.ListComp elt [⟨t0, i0, [], 0⟩, ⟨t1, i1, [], 0⟩] scope pos) 1 it acc env).onRaise (fun x => do noteFrame x env; standAt theWindowsPlace)) _ _ s
  refine wpAny_notedAt ?_
  unfold compStart
  show wpAny _ _ (ask >>= _) _ _ s
  refine wpAny_bind (wpAny_askSetting (wpAny_ite ?_))
  split
  · first
      | exact wpAny_bind (wpAny_pure (wpAny_pure (And.intro rfl h0)))
      | exact wpAny_pure (And.intro rfl h0)
  · refine wpAny_bind (wpAny_rule ?_)
    show wpAny _ _ (standAt i1.pos >>= _) _ _ s
    exact wpAny_bind (wpAny_standAt (wpAny_bind (noE (wpAny_mono h (fun it' s' h' => wpAny_pure (And.intro rfl h')) fun _ _ x => x))))
theorem two_loop0 {elt t0 i0 t1 i1 : Expr} {scope : Scope} {pos : Pos} {it acc : Value} {env : Env} (I : Nat → Shared → Prop)
    (turn : ∀ n s, I n s → wpAny (model prog w) A (pyNext it) (fun r s₁ => match r with
      | none => R (.ok .next) s₁
      | some v => wpAny (model prog w) A (assign t0 env v) (fun _ s₂ => wpAny (model prog w) A (eval i1 env) (fun x s₃ =>
          wpAny (model prog w) A (pyIter x) (fun it' s₄ => codeAny (model prog w) A (.compStart (.ListComp elt [⟨t0, i0, [], 0⟩, ⟨t1, i1, [], 0⟩] scope pos) 1 it' acc env) (fun r s₅ => match r with
            | .ok _ => ∃ m, m < n ∧ I m s₅
            | .error _ => False) s₄) NoE s₃) NoE s₂) NoE s₁) NoE s)
    (n : Nat) (h : I n s) (ht : ∀ v, letOwnedTupleGo t0 it v = pure () := by intro _; rfl) (hs : ∀ x, foldedSetIterable i1 env x = pure x := by intro _; rfl) :
    codeAny (model prog w) A (.compLoop (.ListComp elt [⟨t0, i0, [], 0⟩, ⟨t1, i1, [], 0⟩] scope pos) 0 it acc env) R s := by
  refine codeAny_loop rfl I (fun n s hI => ?_) n h
  show wpAny _ _ ((compTurn (.ListComp elt [⟨t0, i0, [], 0⟩, ⟨t1, i1, [], 0⟩] scope pos) 0 it acc env).onRaise (fun x => do noteFrame x env; theTreesLotGoes x)) _ _ s
  refine wpAny_noted ?_
  rw [two_turn0]
  refine wpAny_bind (wpAny_standAt (wpAny_bind (noE (wpAny_mono (turn n s hI) (fun r s₁ h₁ => ?_) fun _ _ h' => h'))))
  cases r with
  | none => exact wpAny_pure h₁
  | some v =>
    refine wpAny_bind (wpAny_of_eq (ht v) (wpAny_bind (noE (wpAny_mono h₁ (fun _ s₂ h₂ => ?_) fun _ _ h' => h'))))
    refine wpAny_bind (noE (wpAny_mono h₂ (fun x s₃ h₃ => ?_) fun _ _ h' => h'))
    refine wpAny_bind (wpAny_standAt (wpAny_bind (wpAny_of_eq (hs x) ?_)))
    refine wpAny_bind (wpAny_holding (noE (wpAny_mono h₃ (fun it' s₄ h₄ => ?_) fun _ _ h' => h')))
    refine wpAny_bind (wpAny_runOwn (codeAny_mono h₄ fun r s₅ h₅ => ?_))
    cases r with
    | ok f => exact wpAny_pure ⟨rfl, h₅⟩
    | error e => exact h₅.elim
end
end Mine
end
section
open PySem PySem.W PyProof.Rows PySem.Calls PySem.Spec
set_option maxRecDepth 100000
set_option maxHeartbeats 4000000
namespace Mine
/-- values that are lists of ints, all of them in the ledger -/
noncomputable def Crowds (all : List (Addr × Obj)) (ys : List Value) (cs : List (List Int)) : Prop := Paired (fun y c => ∃ a vs n, y = .ref a ∧ (a, W.listOf vs.toArray n) ∈ all ∧ IntsAre vs c) ys cs
theorem Paired.imp {α β : Type} {F G : α → β → Prop} (h : ∀ a b, F a b → G a b) : ∀ {l₁ : List α} {l₂ : List β}, Paired F l₁ l₂ → Paired G l₁ l₂
  | _, _, .nil => .nil
  | _, _, .cons a t => .cons (h _ _ a) (Paired.imp h t)
theorem Crowds.mono {all all' : List (Addr × Obj)} {ys : List Value} {cs : List (List Int)} (h : Crowds all ys cs) (hs : ∀ p ∈ all, p ∈ all') : Crowds all' ys cs := by
  unfold Crowds at h ⊢
  exact Paired.imp (fun y c ⟨a, vs, n, e, m, i⟩ => ⟨a, vs, n, e, hs _ m, i⟩) h
theorem Paired.at {α β : Type} {F : α → β → Prop} : ∀ {l₁ : List α} {l₂ : List β} {i : Nat} {a : α}, Paired F l₁ l₂ → l₁[i]? = some a → ∃ b, l₂[i]? = some b ∧ F a b
  | _, _, _, _, .nil, h => by simp at h
  | _, _, 0, _, .cons x t, h => by simp at h; subst h; exact ⟨_, by simp, x⟩
  | _, _, i + 1, _, .cons x t, h => by
    simp only [List.getElem?_cons_succ] at h ⊢
    exact Paired.at t h
noncomputable def grow (g : Int) (c : List Int) : List (List Int) := (g :: c).map fun t => c ++ [t]
noncomputable def growAll (g : Int) (cs : List (List Int)) : List (List Int) := cs.flatMap (grow g)
theorem ne_of_cls {h : Heap} {a b : Addr} {o o' : Obj} (e : h.get? a = some o) (e' : h.get? b = some o') (n : o.cls ≠ o'.cls) : a ≠ b := fun z => by
  subst z; rw [e] at e'; cases e'; exact n rfl
theorem ne_ns {h : Heap} {a C : Addr} {m : Str → Option Value} {vs : Array Value} {n : Nat} (x : h.Ns C m) (e : h.get? a = some (W.listOf vs n)) : a ≠ C := fun z => by
  refine wrapG ?_
  intro Pw9 hPw9
  obtain ⟨o, es, ep, e', hd, _⟩ := x
  refine hPw9 ?_
  subst z; rw [e] at e'; cases e'; cases hd
theorem ne_iter {h : Heap} {a I G : Addr} {j : Nat} {vs : Array Value} {n : Nat} (x : h.IsListIter I G j) (e : h.get? a = some (W.listOf vs n)) : a ≠ I := by
  refine wrapG ?_
  intro Pw9 hPw9
  obtain ⟨o, e', hc, _⟩ := x
  refine hPw9 ?_
  exact ne_of_cls e e' (by rw [hc]; intro z; exact absurd (Value.type.inj z) (by decide))
/-- made lists, off a place -/
noncomputable def OffD (D : Addr) (mk : List (Addr × Obj)) : Prop := ∀ p ∈ mk, p.1 ≠ D ∧ ∃ vs n, p.2 = W.listOf vs n
theorem grow_take (c : List Int) {l : List Int} {j : Nat} {z : Int} (h : l[j]? = some z) : (l.take (j + 1)).map (fun t => c ++ [t]) = (l.take j).map (fun t => c ++ [t]) ++ [c ++ [z]] := by
  rw [List.take_add_one, h]; simp
section
variable {prog : Program} {w : World} {A : Around} {E : Value → Shared → Prop} {R : Result → Shared → Prop} {s : Shared} {h₀ : Heap} {L : Addr} {m : Str → Option Value} {env : Env}
theorem inner_loop {elt iter0 iter1 : Expr} {x0 x1 : Str} {p0 p1 : Pos} {scope : Scope} {cl : List (Str × Addr)} {pos : Pos} {I I2 C D a G : Addr} {oI : Obj} {m' : Str → Option Value} {vs gs ys : List Value} {n n' : Nat} {c gi : List Int} {cs : List (List Int)} {mk news : List (Addr × Obj)}
    (hh : A.handled = none) (hkind : scope.kind = .function) (hx1 : scope.names.lookup x1 = some .local) (hx01 : x0 ≠ x1)
    (F : Fr h₀ L s.heap m) (hns : s.heap.Ns C m') (hm' : m' x0 = some (.ref a)) (hC : C ≠ L ∧ h₀.get? C = none) (hI2 : I2 ≠ L ∧ h₀.get? I2 = none) (hit : s.heap.IsListIter I2 G 0)
    (N : News h₀ L s.heap ((I, oI) :: (D, LCg.lst ys) :: (G, W.listOf gs.toArray n') :: (mk ++ news))) (hoI : oI.cls = .type "list_iterator") (hIC : I ≠ C) (hII : I ≠ I2)
    (hnews : ∀ p ∈ news, p.1 ≠ I2 ∧ p.1 ≠ C ∧ p.1 ≠ D) (hmk : OffD D mk) (hDG : D ≠ G)
    (hIv : IntsAre vs c) (ha : (a, W.listOf vs.toArray n) ∈ mk ++ news) (hgi : IntsAre gs gi) (hcs : Crowds mk ys cs) (hsz : cs.length + gi.length ≤ 1000)
    (hE2 : ∀ C oC oI' D ys rest m₂ h tk z t, LCg.NsObj oC m₂ → m₂ x0 = some (.ref a) → m₂ x1 = some (.int z t) → Fr h₀ L h m → News h₀ L h ((a, W.listOf vs.toArray n) :: (I, oI') :: (C, oC) :: (D, LCg.lst ys) :: rest) →
      wpAny (model prog w) A (eval elt (compEnvC scope cl C env)) (fun xv s' => ∃ a' vs' n₁ h' tk', xv = .ref a' ∧ s' = { s with heap := h', toks := tk' } ∧ Fr h₀ L h' m ∧ News h₀ L h' ((a', W.listOf vs'.toArray n₁) :: (I, oI') :: (C, oC) :: (D, LCg.lst ys) :: rest) ∧ D ≠ a' ∧ IntsAre vs' (c ++ [z])) NoE { s with heap := h, toks := tk })
    (hR : ∀ h' tk ys' mk' m'', Fr h₀ L h' m → h'.Ns C m'' → News h₀ L h' ((I, oI) :: (D, LCg.lst ys') :: (mk' ++ news)) → OffD D mk' → Crowds mk' ys' (cs ++ gi.map fun t => c ++ [t]) → R (.ok .next) { s with heap := h', toks := tk }) :
    codeAny (model prog w) A (.compLoop (.ListComp elt [⟨.Name x0 p0, iter0, [], 0⟩, ⟨.Name x1 p1, iter1, [], 0⟩] scope pos) 1 (.ref I2) (.ref D) (compEnvC scope cl C env)) R s := by
  have hGI2 : G ≠ I2 := ne_iter hit (N (G, W.listOf gs.toArray n') (by k_mem)).1
  have W2 := Walks.list (prog := prog) (w := w) hh I2 G hGI2 gs.toArray
  have hgl : gs.toArray.size = gi.length := by rw [List.size_toArray]; exact hgi.length
  have hxl : (compEnvC scope cl C env).kindOf x1 = some .local := lookup_relabel_local hx1
  refine two_loop1
    (fun k s' => ∃ h' tk j ys' mk' m₁, s' = { s with heap := h', toks := tk } ∧ j ≤ gi.length ∧ k = gi.length + 1 - j ∧ h'.IsListIter I2 G j ∧ Fr h₀ L h' m ∧ h'.Ns C m₁ ∧ m₁ x0 = some (.ref a) ∧
      News h₀ L h' ((I, oI) :: (D, LCg.lst ys') :: (G, W.listOf gs.toArray n') :: (mk' ++ news)) ∧ OffD D mk' ∧ (∀ p ∈ mk, p ∈ mk') ∧ Crowds mk' ys' (cs ++ (gi.take j).map fun t => c ++ [t])) ?_ (gi.length + 1)
    ⟨s.heap, s.toks, 0, ys, mk, m', rfl, Nat.zero_le _, rfl, hit, F, hns, hm', N, hmk, fun _ h => h, by simpa using hcs⟩
  intro k s' hInv9
  refine wrapG ?_
  intro Pw9 hPw9
  obtain ⟨h', tk, j, ys', mk', m₁, rfl, hj, rfl, hit', F', hn', hm₁, N', hmk', hsub, hcs'⟩ := hInv9
  refine hPw9 ?_
  clear hPw9
  clear Pw9
  refine hideQ ?_
  intro Qn kQn
  have hG' := (N' (G, W.listOf gs.toArray n') (by k_mem)).1
  have hD' := (N' (D, LCg.lst ys') (by k_mem))
  have hst : h'.IsListIter I2 G j ∧ h'.IsList G gs.toArray := ⟨hit', _, hG', rfl, _, rfl⟩
  have hmkI2 : ∀ p ∈ mk', p.1 ≠ I2 := fun p hp => by
    obtain ⟨vs, n, e⟩ := (hmk' p hp).2
    exact ne_iter hit' (by rw [← e]; exact (N' p (List.mem_cons_of_mem _ (List.mem_cons_of_mem _ (List.mem_cons_of_mem _ (List.mem_append_left _ hp))))).1)
  have hDI2 : D ≠ I2 := ne_iter hit' hD'.1
  have offI2 : ∀ p ∈ ((I, oI) :: (D, LCg.lst ys') :: (G, W.listOf gs.toArray n') :: (mk' ++ news)), p.1 ≠ I2 := fun p hp => by
    rcases List.mem_cons.mp hp with rfl | hp
    · exact hII
    rcases List.mem_cons.mp hp with rfl | hp
    · exact hDI2
    rcases List.mem_cons.mp hp with rfl | hp
    · exact hGI2
    rcases List.mem_append.mp hp with hp | hp
    · exact hmkI2 p hp
    · exact (hnews p hp).1
  have hCI2 : C ≠ I2 := fun z => by
    refine wrapG ?_
    intro Pw9 hPw9
    obtain ⟨o, es, ep, e', hd, _⟩ := hn'
    refine hPw9 ?_
    refine wrapG ?_
    intro Pw9 hPw9
    obtain ⟨o2, e2, _, hd2⟩ := hit'
    refine hPw9 ?_
    rw [z, e2] at e'; cases e'; rw [hd2] at hd; cases hd
  by_cases hlt : j < gi.length
  · refine W2.item j _ _ _ (by rw [hgl]; exact hlt) hst fun v h₂ tk₂ hPv hst₂ hk₂ => ?_
    refine kQn.out _ _ ?_
    refine hideQ ?_
    intro Q2 kQ2
    have hk₂' : ∀ b o, b ≠ I2 → h'.get? b = some o → h₂.get? b = some o := fun b o hb e => hk₂ b o (by simpa using hb) e
    have F₂ : Fr h₀ L h₂ m := LCg.fr_but F' hk₂ (Ne.symm hI2.1) hI2.2
    have N₂ := LCg.news_but N' hk₂ offI2
    have hn₂ : h₂.Ns C m₁ := hn'.at' fun o e => hk₂' _ o hCI2 e
    obtain ⟨t, hx⟩ := hgi.get j gi[j] (by simp [hlt])
    have hv : v = .int gi[j] t := by
      have hP' : gs[j]? = some v := by simpa using hPv
      rw [hx] at hP'; exact (Option.some.inj hP').symm
    subst hv
    refine wpAny_assign_Name (wpAny_storeName_local hxl hn₂ (fun h₃ hn₃ hs₃ => ?_) (by simp [compEnvC, relabel, hkind]))
    have offC : ∀ p ∈ ((I, oI) :: (D, LCg.lst ys') :: (G, W.listOf gs.toArray n') :: (mk' ++ news)), p.1 ≠ C := fun p hp => by
      rcases List.mem_cons.mp hp with rfl | hp
      · exact hIC
      rcases List.mem_cons.mp hp with rfl | hp
      · exact ne_ns hn' hD'.1
      rcases List.mem_cons.mp hp with rfl | hp
      · exact ne_ns hn' hG'
      rcases List.mem_append.mp hp with hp | hp
      · obtain ⟨vs, n, e⟩ := (hmk' p hp).2
        exact ne_ns hn' (by rw [← e]; exact (N' p (List.mem_cons_of_mem _ (List.mem_cons_of_mem _ (List.mem_cons_of_mem _ (List.mem_append_left _ hp))))).1)
      · exact (hnews p hp).2.1
    have F₃ : Fr h₀ L h₃ m := F₂.change hs₃ hC.1 hC.2
    have N₃ : News h₀ L h₃ ((I, oI) :: (D, LCg.lst ys') :: (G, W.listOf gs.toArray n') :: (mk' ++ news)) := fun p hp => ⟨hs₃.extBut _ _ (offC p hp) (N₂ p hp).1, (N₂ p hp).2⟩
    have hit₃ : h₃.IsListIter I2 G (j + 1) := hst₂.1.at fun o e => hs₃.extBut _ _ (Ne.symm hCI2) e
    refine wrapG ?_
    intro Pw9 hPw9
    obtain ⟨oI2, eI2, hI2c, hI2d⟩ := id hit₃
    refine hPw9 ?_
    obtain ⟨oC, eC, hoC⟩ := LCg.ns_obj hn₃
    have ha₃ : (a, W.listOf vs.toArray n) ∈ mk' ++ news := by
      rcases List.mem_append.mp ha with q | q
      · exact List.mem_append_left _ (hsub _ q)
      · exact List.mem_append_right _ q
    have Nbig : News h₀ L h₃ ((a, W.listOf vs.toArray n) :: (I, oI) :: (C, oC) :: (D, LCg.lst ys') :: ((I2, oI2) :: (G, W.listOf gs.toArray n') :: (mk' ++ news))) := fun p hp => by
      rcases List.mem_cons.mp hp with rfl | hp
      · exact N₃ _ (List.mem_cons_of_mem _ (List.mem_cons_of_mem _ (List.mem_cons_of_mem _ ha₃)))
      rcases List.mem_cons.mp hp with rfl | hp
      · exact N₃ _ (by simp)
      rcases List.mem_cons.mp hp with rfl | hp
      · exact ⟨eC, hC⟩
      rcases List.mem_cons.mp hp with rfl | hp
      · exact N₃ _ (by simp)
      rcases List.mem_cons.mp hp with rfl | hp
      · exact ⟨eI2, hI2⟩
      · exact N₃ _ (List.mem_cons_of_mem _ (List.mem_cons_of_mem _ hp))
    refine kQ2.out _ _ ?_
    refine wpAny_mono (hE2 C oC oI D ys' _ _ h₃ _ gi[j] t hoC (by simp [hx01, hm₁]) (by simp) F₃ Nbig) (fun y s₄ h₄ => ?_) fun _ _ e => e
    refine wrapG ?_
    intro Pw9 hPw9
    obtain ⟨a', vs', n₁, h₄, tk₄, rfl, rfl, F₄, N₄, hDa, hI'⟩ := h₄
    refine hPw9 ?_
    refine append_at (s := { s with heap := h₄, toks := tk₄ }) (N₄ (D, LCg.lst ys') (by k_mem)).1 (fun h₅ hs₅ hD₅ => ?_) ?_
    · refine ⟨gi.length + 1 - (j + 1), by lia, h₅, tk₄, j + 1, ys' ++ [.ref a'], (a', W.listOf vs'.toArray n₁) :: mk', (fun y => if y = x1 then some (.int gi[j] t) else m₁ y), rfl, hlt, rfl, ?_, ?_, ?_, ?_, ?_, ?_, ?_, ?_⟩
      · have e4 := (N₄ (I2, oI2) (by k_mem)).1
        exact ⟨oI2, hs₅.extBut _ _ (Ne.symm hDI2) e4, hI2c, hI2d⟩
      · exact F₄.change hs₅ hD'.2.1 hD'.2.2
      · exact (hoC.ns (N₄ (C, oC) (by k_mem)).1).sameBut hs₅ (Ne.symm (ne_ns hn' hD'.1))
      · simp [hx01, hm₁]
      · intro p hp
        rcases List.mem_cons.mp hp with rfl | hp
        · have z := N₄ (I, oI) (by k_mem)
          exact ⟨hs₅.extBut _ _ (ne_of_cls (N' (I, oI) (by k_mem)).1 hD'.1 (by rw [hoI]; intro z; exact absurd (Value.type.inj z) (by decide))) z.1, z.2⟩
        rcases List.mem_cons.mp hp with rfl | hp
        · exact ⟨hD₅.trans (congrArg some (LCg.lst_snoc ys' (.ref a'))), hD'.2⟩
        rcases List.mem_cons.mp hp with rfl | hp
        · have z := N₄ (G, W.listOf gs.toArray n') (by k_mem)
          exact ⟨hs₅.extBut _ _ (Ne.symm hDG) z.1, z.2⟩
        rcases List.mem_cons.mp hp with rfl | hp
        · have z := N₄ (a', W.listOf vs'.toArray n₁) (by k_mem)
          exact ⟨hs₅.extBut _ _ (Ne.symm hDa) z.1, z.2⟩
        · have z := N₄ p (by simp only [List.mem_cons]; exact .inr (.inr (.inr (.inr (.inr (.inr hp))))))
          refine ⟨hs₅.extBut _ _ ?_ z.1, z.2⟩
          rcases List.mem_append.mp hp with hp | hp
          · exact (hmk' p hp).1
          · exact (hnews p hp).2.2
      · intro p hp
        rcases List.mem_cons.mp hp with rfl | hp
        · exact ⟨Ne.symm hDa, _, _, rfl⟩
        · exact hmk' p hp
      · exact fun p hp => List.mem_cons_of_mem _ (hsub p hp)
      · rw [grow_take c (z := gi[j]) (by simp [hlt]), ← List.append_assoc]
        exact Paired.snoc (Crowds.mono hcs' fun p hp => List.mem_cons_of_mem _ hp) ⟨a', vs', n₁, rfl, by simp, hI'⟩
    · have hl := Paired.length hcs'
      simp only [List.length_append, List.length_map, List.length_take] at hl
      rw [List.size_toArray, PySem.sizeLine_eq]; lia
  · obtain rfl : j = gi.length := by lia
    refine W2.done _ _ _ (by rw [hgl]; exact hst) fun h₂ tk₂ hk₂ => ?_
    have hk₂' : ∀ b o, b ≠ I2 → h'.get? b = some o → h₂.get? b = some o := fun b o hb e => hk₂ b o (by simpa using hb) e
    have N₂ := LCg.news_but N' hk₂ offI2
    refine kQn.out _ _ ?_
    refine hR h₂ tk₂ ys' mk' m₁ (LCg.fr_but F' hk₂ (Ne.symm hI2.1) hI2.2) (hn'.at' fun o e => hk₂' _ o hCI2 e) (fun p hp => N₂ p ?_) hmk' (by rw [List.take_length] at hcs'; exact hcs')
    simp only [List.mem_cons] at hp ⊢
    rcases hp with h | h | h
    · exact .inl h
    · exact .inr (.inl h)
    · exact .inr (.inr (.inr h))
end
end Mine
end
section
open PySem PySem.W PyProof.Rows PySem.Calls PySem.Spec
set_option maxRecDepth 100000
set_option maxHeartbeats 4000000
namespace Mine
theorem growAll_take (g : Int) {css : List (List Int)} {i : Nat} {c : List Int} (h : css[i]? = some c) : growAll g (css.take (i + 1)) = growAll g (css.take i) ++ grow g c := by
  unfold growAll
  rw [List.take_add_one, h]; simp
theorem growAll_le (g : Int) (css : List (List Int)) (i : Nat) : (growAll g (css.take i)).length ≤ (growAll g css).length := by
  have e : growAll g css = growAll g (css.take i) ++ growAll g (css.drop i) := by
    unfold growAll; rw [← List.flatMap_append, List.take_append_drop]
  rw [e]; simp
section
variable {prog : Program} {w : World} {A : Around} {E : Value → Shared → Prop} {R : Result → Shared → Prop} {s : Shared} {h₀ : Heap} {L : Addr} {m : Str → Option Value} {env : Env}
theorem nest_assign {elt iter0 iter1 : Expr} {x0 x1 y : Str} {p0 p1 py : Pos} {scope : Scope} {cl : List (Str × Addr)} {pos spos : Pos} {Q : Flow → Shared → Prop} {gc ax : Addr} {og : Obj} {g : Int} {its : List Value} {nax : Nat} {css : List (List Int)} {news : List (Addr × Obj)}
    (hLe : env.locals = L) (hh : A.handled = none)
    (hsw : swapsWith (.ListComp elt [⟨.Name x0 p0, iter0, [], 0⟩, ⟨.Name x1 p1, iter1, [], 0⟩] scope pos) (some (.Name y py)) spos.line env = pure true)
    (hclos : closureFor scope env = pure cl) (hcell : ∀ z ∈ scope.names, z.2 ≠ .cell) (hkind : scope.kind = .function)
    (hnames : ∀ z ∈ scope.names, z.2 = .local → scope.names.lookup z.1 = some .local) (hx0 : scope.names.lookup x0 = some .local) (hx1 : scope.names.lookup x1 = some .local) (hx01 : x0 ≠ x1)
    (hy : env.kindOf y = some .local) (hp : (env.scope.kind == .class || (env.scope.kind == .module && env.locals != env.globals)) = false)
    (F : Fr h₀ L s.heap m) (N : News h₀ L s.heap news) (hax : (ax, W.listOf its.toArray nax) ∈ news) (hcs : Crowds news its css) (hgc : (gc, og) ∈ news) (hsz : (growAll g css).length ≤ 900) (hsz1 : ∀ c ∈ css, c.length ≤ 20)
    (hi0 : wpAny (model prog w) A (eval iter0 env) (fun v s' => v = .ref ax ∧ s' = s) NoE s)
    (hE1 : ∀ c ∈ css, ∀ a vs n I oI C oC D ys rest m₂ h tk, IntsAre vs c → LCg.NsObj oC m₂ → m₂ x0 = some (.ref a) → Fr h₀ L h m → News h₀ L h ((a, W.listOf vs.toArray n) :: (gc, og) :: (I, oI) :: (C, oC) :: (D, LCg.lst ys) :: rest) →
      wpAny (model prog w) A (eval iter1 (compEnvC scope cl C env)) (fun xv s' => ∃ G gs n' h' tk', xv = .ref G ∧ s' = { s with heap := h', toks := tk' } ∧ Fr h₀ L h' m ∧ News h₀ L h' ((G, W.listOf gs.toArray n') :: (I, oI) :: (C, oC) :: (D, LCg.lst ys) :: rest) ∧ D ≠ G ∧ IntsAre gs (g :: c)) NoE { s with heap := h, toks := tk })
    (hE2 : ∀ c ∈ css, ∀ a vs n I oI C oC D ys rest m₂ h tk z t, IntsAre vs c → LCg.NsObj oC m₂ → m₂ x0 = some (.ref a) → m₂ x1 = some (.int z t) → Fr h₀ L h m → News h₀ L h ((a, W.listOf vs.toArray n) :: (I, oI) :: (C, oC) :: (D, LCg.lst ys) :: rest) →
      wpAny (model prog w) A (eval elt (compEnvC scope cl C env)) (fun xv s' => ∃ a' vs' n₁ h' tk', xv = .ref a' ∧ s' = { s with heap := h', toks := tk' } ∧ Fr h₀ L h' m ∧ News h₀ L h' ((a', W.listOf vs'.toArray n₁) :: (I, oI) :: (C, oC) :: (D, LCg.lst ys) :: rest) ∧ D ≠ a' ∧ IntsAre vs' (c ++ [z])) NoE { s with heap := h, toks := tk })
    (hQ : ∀ h' tk D ys mk, Fr h₀ L h' (fun z => if z = y then some (.ref D) else m z) → News h₀ L h' ((D, LCg.lst ys) :: (mk ++ news)) → (∀ p ∈ mk ++ news, p.1 ≠ D) → OffD D mk → Crowds mk ys (growAll g css) → Q .next { s with heap := h', toks := tk })
    (hs : ∀ x, foldedSetIterable iter0 env x = pure x := by intro _; rfl) (hs1 : ∀ C x, foldedSetIterable iter1 (compEnvC scope cl C env) x = pure x := by intro _ _; rfl) :
    wpAny (model prog w) A (exec (.Assign [.Name y py] (.ListComp elt [⟨.Name x0 p0, iter0, [], 0⟩, ⟨.Name x1 p1, iter1, [], 0⟩] scope pos) spos) env) Q E s := by
  subst hLe
  rw [exec_Assign_Name_used _ _ _ _ hsw]
  refine wpAny_bind (wpAny_standAt (wpAny_bind ?_))
  show wpAny _ A (do let _ ← comprehension (.ListComp elt [⟨.Name x0 p0, iter0, [], 0⟩, ⟨.Name x1 p1, iter1, [], 0⟩] scope pos) scope env _ (newList []) false (eval iter0 env) (some (assign (.Name y py) env))) _ _ s
  refine wpAny_bind (wpAny_mono (wpAny_comprehension_free (use := some (assign (.Name y py) env)) (Q := fun _ s' => Q .next s') rfl hs hclos hkind hnames
    (noE (wpAny_mono hi0 (fun xv s₁ h₁ => ?_) fun _ _ e => e))) (fun _ s' hq => wpAny_pure (wpAny_pure hq)) fun _ _ e => e)
  obtain ⟨rfl, rfl⟩ := h₁
  have hl : s₁.heap.IsList ax its.toArray := ⟨_, (N _ hax).1, rfl, _, rfl⟩
  refine wpAny_pyIter_list hl ?_
  refine wpAny_newObj_type (wpAny_newFunctionEnv hcell (by intro y hy; simp at hy) (fun h₁ hns₁ hsb₁ => ?_) hkind)
  dsimp only at hns₁ hsb₁ ⊢
  have hlt : ax < s₁.heap.objs.size := Heap.lt_size (N _ hax).1
  generalize hI : s₁.heap.objs.size = I at hns₁ hsb₁ hlt ⊢
  generalize hH1 : s₁.heap.push { cls := .type "list_iterator", dict := none, data := .fields #[.ref ax, .int 0 0] } = H1 at hns₁ hsb₁ ⊢
  have hD : H1.objs.size = I + 1 := by rw [← hH1, Heap.size_push, hI]
  generalize hDD : H1.objs.size = D at hns₁ hsb₁ hD ⊢
  generalize hH2 : H1.push { cls := .type "list", dict := none, data := .seq ([] : List Value).toArray } = H2 at hns₁ hsb₁ ⊢
  have hC : H2.objs.size = D + 1 := by rw [← hH2, Heap.size_push, hDD]
  generalize hCC : H2.objs.size = C at hns₁ hsb₁ hC ⊢
  have up1 : ∀ b o, s₁.heap.get? b = some o → H1.get? b = some o := fun b o e => by rw [← hH1]; exact Heap.get?_push_of_some _ e
  have up2 : ∀ b o, H1.get? b = some o → H2.get? b = some o := fun b o e => by rw [← hH2]; exact Heap.get?_push_of_some _ e
  have up3 : ∀ b o, b ≠ C → H2.get? b = some o → h₁.get? b = some o := fun b o hb e => hsb₁.extBut b o hb (Heap.get?_push_of_some _ e)
  have hIC2 : @LT.lt Nat _ I C := by rw [hC, hD]; lia
  have old : ∀ b o, s₁.heap.get? b = some o → h₁.get? b = some o := fun b o e => up3 b o (by have := Heap.lt_size e; rw [hI] at this; exact Nat.ne_of_lt (Nat.lt_trans this hIC2)) (up2 _ _ (up1 _ _ e))
  have below : ∀ b o, s₁.heap.get? b = some o → @LT.lt Nat _ b I := fun b o e => by have := Heap.lt_size e; rw [hI] at this; exact this
  have eI : H1.get? I = some { cls := .type "list_iterator", dict := none, data := .fields #[.ref ax, .int 0 0] } := by rw [← hH1, ← hI]; exact Heap.get?_push_size _ rfl
  have eD : H2.get? D = some (LCg.lst []) := by rw [← hH2, ← hDD]; exact Heap.get?_push_size _ rfl
  have nIC : I ≠ C := by rw [hC, hD]; exact Nat.ne_of_lt (by lia)
  have nDC : D ≠ C := by rw [hC]; exact Nat.ne_of_lt (by lia)
  have nID : I ≠ D := by rw [hD]; exact Nat.ne_of_lt (by lia)
  have hL : @LT.lt Nat _ env.locals I := by have := F.ns.lt; rw [hI] at this; exact this
  have fresh : ∀ a, @LE.le Nat _ I a → h₀.get? a = none := fun a ha => by
    cases e : h₀.get? a with
    | none => rfl
    | some o' => exact absurd (below _ _ (F.keep a o' e)) (by lia)
  have h0I : h₀.get? I = none := fresh I (Nat.le_refl _)
  have h0D : h₀.get? D = none := fresh D (by rw [hD]; lia)
  have h0C : h₀.get? C = none := fresh C (by rw [hC, hD]; lia)
  have nIL : I ≠ env.locals := Nat.ne_of_gt hL
  have nDL : D ≠ env.locals := by rw [hD]; exact Nat.ne_of_gt (by lia)
  have nCL : C ≠ env.locals := by rw [hC, hD]; exact Nat.ne_of_gt (by lia)
  have offN : ∀ p ∈ news, p.1 ≠ I ∧ p.1 ≠ C ∧ p.1 ≠ D := fun p hp => by
    have := below _ _ (N p hp).1
    exact ⟨Nat.ne_of_lt this, by rw [hC, hD]; exact Nat.ne_of_lt (by lia), by rw [hD]; exact Nat.ne_of_lt (by lia)⟩
  have hits : its.length = css.length := Paired.length hcs
  have W1 := Walks.list (prog := prog) (w := w) hh I ax (Nat.ne_of_lt hlt) its.toArray
  have hx0l : (compEnvC scope cl C env).kindOf x0 = some .local := lookup_relabel_local hx0
  have loop : codeAny (model prog w) A (.compLoop (.ListComp elt [⟨.Name x0 p0, iter0, [], 0⟩, ⟨.Name x1 p1, iter1, [], 0⟩] scope pos) 0 (.ref I) (.ref D) (compEnvC scope cl C env))
      (compPost (model prog w) A E (some (assign (.Name y py) env)) (fun _ s' => Q .next s') (.ref D) C) { s₁ with heap := h₁, toks := s₁.toks + ([] : List (Str × Value)).length } := by
    refine two_loop0
      (fun k s' => ∃ h' tk i ys mk m', s' = { s₁ with heap := h', toks := tk } ∧ i ≤ css.length ∧ k = css.length + 1 - i ∧ h'.IsListIter I ax i ∧ Fr h₀ env.locals h' m ∧ h'.Ns C m' ∧ News h₀ env.locals h' ((D, LCg.lst ys) :: (mk ++ news)) ∧
        OffD D mk ∧ Crowds mk ys (growAll g (css.take i))) ?_ (css.length + 1)
      ⟨h₁, _, 0, [], [], _, rfl, Nat.zero_le _, rfl, ⟨_, up3 _ _ nIC (up2 _ _ eI), rfl, rfl⟩, F.keeps old, hns₁, fun p hp => ?_, (fun _ hp => nomatch hp), Paired.nil⟩ (hs := hs1 C)
    · intro k s' hInv9
      refine wrapG ?_
      intro Pw9 hPw9
      obtain ⟨h', tk, i, ys, mk, m', rfl, hi, rfl, hit', F', hn', N', hmk, hcs'⟩ := hInv9
      refine hPw9 ?_
      have hD' := N' (D, LCg.lst ys) (by k_mem)
      have hax' := N' (ax, W.listOf its.toArray nax) (by simp [hax])
      have hst : h'.IsListIter I ax i ∧ h'.IsList ax its.toArray := ⟨hit', _, hax'.1, rfl, _, rfl⟩
      have offI : ∀ p ∈ ((D, LCg.lst ys) :: (mk ++ news)), p.1 ≠ I := fun p hp => by
        rcases List.mem_cons.mp hp with rfl | hp
        · exact Ne.symm nID
        rcases List.mem_append.mp hp with hp | hp
        · obtain ⟨vs, n, e⟩ := (hmk p hp).2
          exact ne_iter hit' (by rw [← e]; exact (N' p (List.mem_cons_of_mem _ (List.mem_append_left _ hp))).1)
        · exact (offN p hp).1
      have offC : ∀ p ∈ ((D, LCg.lst ys) :: (mk ++ news)), p.1 ≠ C := fun p hp => by
        rcases List.mem_cons.mp hp with rfl | hp
        · exact nDC
        rcases List.mem_append.mp hp with hp | hp
        · obtain ⟨vs, n, e⟩ := (hmk p hp).2
          exact ne_ns hn' (by rw [← e]; exact (N' p (List.mem_cons_of_mem _ (List.mem_append_left _ hp))).1)
        · exact (offN p hp).2.1
      by_cases hlt' : i < css.length
      · refine W1.item i _ _ _ (by rw [List.size_toArray, hits]; exact hlt') hst fun v h₂ tk₂ hPv hst₂ hk₂ => ?_
        have F₂ : Fr h₀ env.locals h₂ m := LCg.fr_but F' hk₂ (Ne.symm nIL) h0I
        have N₂ := LCg.news_but N' hk₂ offI
        have hn₂ : h₂.Ns C m' := hn'.at' fun o e => hk₂ _ o (by simpa using Ne.symm nIC) e
        refine wrapG ?_
        intro Pw9 hPw9
        obtain ⟨c, hc, a, vs, n, rfl, ha, hIv⟩ := Paired.at hcs (show its[i]? = some v by simpa using hPv)
        refine hPw9 ?_
        have hcm : c ∈ css := List.mem_of_getElem? hc
        refine wpAny_assign_Name (wpAny_storeName_local hx0l hn₂ (fun h₃ hn₃ hs₃ => ?_) (by simp [compEnvC, relabel, hkind]))
        have F₃ : Fr h₀ env.locals h₃ m := F₂.change hs₃ nCL h0C
        have N₃ : News h₀ env.locals h₃ ((D, LCg.lst ys) :: (mk ++ news)) := fun p hp => ⟨hs₃.extBut _ _ (offC p hp) (N₂ p hp).1, (N₂ p hp).2⟩
        have hit₃ : h₃.IsListIter I ax (i + 1) := hst₂.1.at fun o e => hs₃.extBut _ _ nIC e
        refine wrapG ?_
        intro Pw9 hPw9
        obtain ⟨oI, eI3, hIc, hId⟩ := id hit₃
        refine hPw9 ?_
        obtain ⟨oC, eC, hoC⟩ := LCg.ns_obj hn₃
        have Nbig : News h₀ env.locals h₃ ((a, W.listOf vs.toArray n) :: (gc, og) :: (I, oI) :: (C, oC) :: (D, LCg.lst ys) :: (mk ++ news)) := fun p hp => by
          rcases List.mem_cons.mp hp with rfl | hp
          · exact N₃ _ (List.mem_cons_of_mem _ (List.mem_append_right _ ha))
          rcases List.mem_cons.mp hp with rfl | hp
          · exact N₃ _ (List.mem_cons_of_mem _ (List.mem_append_right _ hgc))
          rcases List.mem_cons.mp hp with rfl | hp
          · exact ⟨eI3, nIL, h0I⟩
          rcases List.mem_cons.mp hp with rfl | hp
          · exact ⟨eC, nCL, h0C⟩
          · exact N₃ _ hp
        refine wpAny_mono (hE1 c hcm a vs n I oI C oC D ys _ _ h₃ _ hIv hoC (by simp) F₃ Nbig) (fun xv s₄ h₄ => ?_) fun _ _ e => e
        refine wrapG ?_
        intro Pw9 hPw9
        obtain ⟨G, gs, n', h₄, tk₄, rfl, rfl, F₄, N₄, hDG, hgi⟩ := h₄
        refine hPw9 ?_
        have hGl : h₄.IsList G gs.toArray := ⟨_, (N₄ (G, W.listOf gs.toArray n') (by k_mem)).1, rfl, _, rfl⟩
        refine wpAny_pyIter_list (s := { s₁ with heap := h₄, toks := tk₄ }) hGl ?_
        dsimp only
        have hIx : ∀ b o, h₄.get? b = some o → @Ne Nat b h₄.objs.size := fun b o e => Nat.ne_of_lt (Heap.lt_size e)
        have up5 : ∀ b o, h₄.get? b = some o → (h₄.push { cls := .type "list_iterator", dict := none, data := .fields #[.ref G, .int 0 0] }).get? b = some o := fun b o e => Heap.get?_push_of_some _ e
        have hit5 : (h₄.push { cls := .type "list_iterator", dict := none, data := .fields #[.ref G, .int 0 0] }).IsListIter h₄.objs.size G 0 := ⟨_, Heap.get?_push_size _ rfl, rfl, rfl⟩
        have hne5 : G ≠ h₄.objs.size := hIx _ _ (N₄ (G, W.listOf gs.toArray n') (by k_mem)).1
        have inner := inner_loop (prog := prog) (w := w) (A := A) (s := { s₁ with heap := h₄.push { cls := .type "list_iterator", dict := none, data := .fields #[.ref G, .int 0 0] }, toks := tk₄ }) (elt := elt) (iter0 := iter0) (iter1 := iter1) (x0 := x0) (x1 := x1) (p0 := p0) (p1 := p1) (cl := cl) (pos := pos) (env := env) (oI := oI)
          (R := fun r s₅ => match r with
            | .ok _ => ∃ m_1, m_1 < css.length + 1 - i ∧ ∃ h' tk i ys mk m', s₅ = { s₁ with heap := h', toks := tk } ∧ i ≤ css.length ∧ m_1 = css.length + 1 - i ∧ h'.IsListIter I ax i ∧ Fr h₀ env.locals h' m ∧ h'.Ns C m' ∧ News h₀ env.locals h' ((D, LCg.lst ys) :: (mk ++ news)) ∧
              OffD D mk ∧ Crowds mk ys (growAll g (css.take i))
            | .error _ => False)
          hh hkind hx1 hx01 (F₄.keeps up5) ((hoC.ns (N₄ (C, oC) (by k_mem)).1).at' fun o e => up5 _ _ e) (by simp) ⟨nCL, h0C⟩ ⟨Ne.symm (Nat.ne_of_lt F₄.ns.lt), next_is_new F₄⟩ hit5
          (N := fun p hp => by
            have z : p ∈ (G, W.listOf gs.toArray n') :: (I, oI) :: (C, oC) :: (D, LCg.lst ys) :: (mk ++ news) := by
              simp only [List.mem_cons] at hp ⊢
              rcases hp with h | h | h | h
              · exact .inr (.inl h)
              · exact .inr (.inr (.inr (.inl h)))
              · exact .inl h
              · exact .inr (.inr (.inr (.inr h)))
            exact ⟨up5 _ _ (N₄ p z).1, (N₄ p z).2⟩) hIc nIC (hIx _ _ (N₄ (I, oI) (by k_mem)).1)
          (fun p hp => ⟨hIx _ _ (N₄ p (by simp [hp])).1, (offN p hp).2⟩) hmk hDG hIv (List.mem_append_right _ ha) hgi hcs'
          (by have := growAll_le g css i; have := hsz1 c hcm; simp only [List.length_cons]; lia)
          (fun C oC oI' D ys rest m₂ h tk z t b1 b2 b3 b4 b5 => by exact hE2 c hcm a vs n I oI' C oC D ys rest m₂ h tk z t hIv b1 b2 b3 b4 b5)
          (fun h₅ tk₅ ys₅ mk₅ m₅ F₅ hn₅ N₅ hmk₅ hcs₅ => ⟨css.length + 1 - (i + 1), by lia, h₅, tk₅, i + 1, ys₅, mk₅, m₅, rfl, hlt', rfl, ⟨oI, (N₅ (I, oI) (by k_mem)).1, hIc, hId⟩, F₅, hn₅, fun p hp => N₅ p (List.mem_cons_of_mem _ hp), hmk₅, by rw [growAll_take g hc]; exact hcs₅⟩)
        have W2 := Walks.list (prog := prog) (w := w) hh h₄.objs.size G hne5 gs.toArray
        exact two_start1 inner (W2.self 0 _ _ _ ⟨hit5, _, up5 _ _ (N₄ (G, W.listOf gs.toArray n') (by k_mem)).1, rfl, _, rfl⟩ inner)
      · obtain rfl : i = css.length := by lia
        refine W1.done _ _ _ (by rw [List.size_toArray, hits]; exact hst) fun h₂ tk₂ hk₂ => ?_
        have F₂ : Fr h₀ env.locals h₂ m := LCg.fr_but F' hk₂ (Ne.symm nIL) h0I
        have N₂ := LCg.news_but N' hk₂ offI
        have hn₂ : h₂.Ns C m' := hn'.at' fun o e => hk₂ _ o (by simpa using Ne.symm nIC) e
        show wpAny _ A (assign (.Name y py) env (.ref D)) _ _ _
        refine wpAny_assign_Name (wpAny_storeName_local hy F₂.ns (fun h₃ hn₃ hs₃ => ?_) hp)
        have hL₀ : h₀.get? env.locals = none := Heap.get?_none_of_le F₂.above
        have F₃ : Fr h₀ env.locals h₃ (fun z => if z = y then some (.ref D) else m z) := ⟨hn₃, fun b o e => hs₃.extBut b o (fun q => by rw [q, hL₀] at e; cases e) (F₂.keep b o e), F₂.above⟩
        refine ⟨m', hn₂.sameBut hs₃ nCL, fun h₄ hs₄ => ?_⟩
        rw [List.take_length] at hcs'
        refine hQ h₄ _ D ys mk (F₃.change hs₄ nCL h0C) (fun p hp => ⟨hs₄.extBut _ _ (offC p hp) (hs₃.extBut _ _ (N₂ p hp).2.1 (N₂ p hp).1), (N₂ p hp).2⟩) (fun p hp => ?_) hmk hcs'
        rcases List.mem_append.mp hp with hp | hp
        · exact (hmk p hp).1
        · exact (offN p hp).2.2
    · rcases List.mem_cons.mp hp with rfl | hp
      · exact ⟨up3 _ _ nDC eD, nDL, h0D⟩
      · exact ⟨old _ _ (N p hp).1, (N p hp).2⟩
  exact codeAny_compStart_list loop (W1.self 0 _ _ _ ⟨⟨_, up3 _ _ nIC (up2 _ _ eI), rfl, rfl⟩, _, old _ _ (N _ hax).1, rfl, _, rfl⟩ loop)
end
end Mine
end
section
open PySem PySem.W PyProof.Rows PySem.Calls PySem.Spec
set_option maxRecDepth 100000
set_option maxHeartbeats 4000000
namespace Mine
section
variable {prog : Program} {w : World} {A : Around} {E : Value → Shared → Prop} {s : Shared} {h₀ : Heap} {env : Env}
theorem forLoop_cell {R : Result → Shared → Prop} {x : Str} {px : Pos} {body : List Stmt} {I c : Addr} {fp wr : List Addr} {n : Nat} {P : Nat → Value → Prop} {St : Nat → Heap → Prop} {m : Str → Option Value} {news : List (Addr × Obj)} {oc : Obj} {v₀ : Option Value}
    (W : Walks prog w A I fp wr n P St) (hk : env.scope.kind = .function) (hx : env.kindOf x = some .cell) (hc : env.cells.lookup x = some c)
    (hLf : env.locals ∉ fp) (hcf : c ∉ fp) (hwr : ∀ b ∈ wr, h₀.get? b = none) (hnw : ∀ p ∈ news, p.1 ∉ wr ∧ @Ne Nat p.1 c)
    (hst : St 0 s.heap) (F : Fr h₀ env.locals s.heap m) (N : News h₀ env.locals s.heap ((c, oc) :: news)) (hoc : oc.data = .cell v₀)
    (J : Nat → (Str → Option Value) → List (Addr × Obj) → Prop) (h0 : J 0 m news)
    (step : ∀ i v m₁ news₁ h₁ tk₁ own oc', i < n → P i v → J i m₁ news₁ → (∀ p ∈ news₁, p.1 ∉ wr ∧ @Ne Nat p.1 c) → (∀ p ∈ own, p.1 ∈ fp) → (∀ b ∈ fp, h₀.get? b = none → ∀ o, h₁.get? b = some o → (b, o) ∈ own) → oc'.data = .cell (some v) → Fr h₀ env.locals h₁ m₁ → News h₀ env.locals h₁ (own ++ (c, oc') :: news₁) → St (i + 1) h₁ →
      wpAny (model prog w) A (execs body env) (fun fl s₂ => fl = .next ∧ ∃ h' tk m₂ news₂ oc₂ v₂, s₂ = { s with heap := h', toks := tk } ∧ Fr h₀ env.locals h' m₂ ∧ News h₀ env.locals h' (own ++ (c, oc₂) :: news₂) ∧ oc₂.data = .cell v₂ ∧ (∀ p ∈ news₂, p.1 ∉ wr ∧ @Ne Nat p.1 c) ∧ J (i + 1) m₂ news₂) NoE { s with heap := h₁, toks := tk₁ })
    (hR : ∀ h' tk m' news' oc' v', Fr h₀ env.locals h' m' → News h₀ env.locals h' ((c, oc') :: news') → oc'.data = .cell v' → (∀ p ∈ news', @Ne Nat p.1 c) → J n m' news' → R (.ok .next) { s with heap := h', toks := tk }) :
    codeAny (model prog w) A (.forLoop (.Name x px) (.ref I) body [] env) R s := by
  have hLw : env.locals ∉ wr := fun h => hLf (W.sub _ h)
  have hcw : c ∉ wr := fun h => hcf (W.sub _ h)
  have old : ∀ b o, h₀.get? b = some o → b ∉ wr := fun b o e hb => by rw [hwr b hb] at e; cases e
  refine codeAny_forLoop
    (fun k s' => ∃ h' tk m' news' i oc' v', s' = { s with heap := h', toks := tk } ∧ St i h' ∧ Fr h₀ env.locals h' m' ∧ News h₀ env.locals h' ((c, oc') :: news') ∧ oc'.data = .cell v' ∧ (∀ p ∈ news', p.1 ∉ wr ∧ @Ne Nat p.1 c) ∧ J i m' news' ∧ i ≤ n ∧ k = n + 1 - i) ?_ (n + 1)
    ⟨s.heap, s.toks, m, news, 0, oc, v₀, rfl, hst, F, N, hoc, hnw, h0, Nat.zero_le _, rfl⟩
  intro k s' hInv9
  refine wrapG ?_
  intro Pw9 hPw9
  obtain ⟨h', tk, m', news', i, oc', v', rfl, hst', F', N', hoc', hnw', hJ, hi, rfl⟩ := hInv9
  refine hPw9 ?_
  have hcL := (N' (c, oc') (by k_mem)).2
  have next : ∀ h₁ : Heap, (∀ b o, b ∉ wr → h'.get? b = some o → h₁.get? b = some o) → Fr h₀ env.locals h₁ m' ∧ News h₀ env.locals h₁ ((c, oc') :: news') := fun h₁ hk₁ =>
    ⟨⟨F'.ns.at' fun o e => hk₁ _ o hLw e, fun b o e => hk₁ b o (old b o e) (F'.keep b o e), F'.above⟩, fun p hp => ⟨hk₁ _ _ (by rcases List.mem_cons.mp hp with rfl | hp; exact hcw; exact (hnw' p hp).1) (N' p hp).1, (N' p hp).2⟩⟩
  by_cases hlt : i < n
  · refine W.item i _ _ _ hlt hst' fun v h₁ tk₁ hP hst₁ hk₁ => ?_
    obtain ⟨F₁, N₁⟩ := next h₁ hk₁
    refine wpAny_assign_Name (wpAny_storeName_cell hk hx hc ⟨oc', (N₁ (c, oc') (by k_mem)).1, hoc'⟩ (fun h₂ hv₂ hs₂ => ?_))
    obtain ⟨o₂, e₂, hd₂⟩ := hv₂
    have F₂ := F₁.change hs₂ hcL.1 hcL.2
    have Nown : News h₀ env.locals h₂ (ownOf h₀ fp h₂) := news_ownOf hLf
    have hst₂ : St (i + 1) h₂ := W.frame _ _ _ hst₁ fun b hb o e => (hs₂.2 b fun q => hcf (q ▸ hb)).trans e
    have N₂ : News h₀ env.locals h₂ ((c, o₂) :: news') := fun p hp => by
      rcases List.mem_cons.mp hp with rfl | hp
      · exact ⟨e₂, hcL⟩
      · exact ⟨(hs₂.2 _ (hnw' p hp).2).trans (N₁ p (List.mem_cons_of_mem _ hp)).1, (N₁ p (List.mem_cons_of_mem _ hp)).2⟩
    refine noE (wpAny_mono (step i v m' news' h₂ _ (ownOf h₀ fp h₂) o₂ hlt hP hJ hnw' ownOf_sub (fun b hb hn o e => mem_ownOf hb hn e) hd₂ F₂ (Nown.append N₂) hst₂) (fun f s₃ h₃ => ?_) fun _ _ e => e)
    refine wrapG ?_
    intro Pw9 hPw9
    obtain ⟨rfl, h₃', tk₃, m₂, news₂, oc₂, v₂, rfl, F₃, N₃, hd₃, ha₃, hJ₃⟩ := h₃
    refine hPw9 ?_
    refine ⟨n + 1 - (i + 1), by lia, h₃', tk₃, m₂, news₂, i + 1, oc₂, v₂, rfl, ?_, F₃, N₃.right, hd₃, ha₃, hJ₃, hlt, rfl⟩
    refine W.frame _ _ _ hst₂ fun b hb o e₂ => ?_
    cases hn : h₀.get? b with
    | some o₀ =>
      have : o₀ = o := by have := F₂.keep b o₀ hn; rw [e₂] at this; exact (Option.some.inj this).symm
      exact this ▸ F₃.keep b o₀ hn
    | none => exact (N₃ _ (List.mem_append_left _ (mem_ownOf hb hn e₂))).1
  · have hin : i = n := by lia
    subst hin
    refine W.done _ _ _ hst' fun h₁ tk₁ hk₁ => wpAny_execs_nil ?_
    obtain ⟨F₁, N₁⟩ := next h₁ hk₁
    exact hR h₁ tk₁ m' news' oc' v' F₁ N₁ hoc' (fun p hp => (hnw' p hp).2) hJ
/-- a for: its source, then its loop -/
theorem for_any {Q : Flow → Shared → Prop} {target iter : Expr} {body : List Stmt} {pos : Pos}
    (h : wpAny (model prog w) A (eval iter env) (fun x s₁ => wpAny (model prog w) A (pyIter x) (fun it s₂ => codeAny (model prog w) A (.forLoop target it body [] env) (fun r s' => match r with | .ok f => Q f s' | .error _ => False) s₂) NoE s₁) NoE s)
    (hs : ∀ x, foldedSetIterable iter env x = pure x := by intro _; rfl) :
    wpAny (model prog w) A (exec (.For target iter body [] pos) env) Q E s := by
  refine wpAny_For (noE (wpAny_mono h (fun x s₁ h₁ => noE (wpAny_mono h₁ (fun it s₂ h₂ => codeAny_mono h₂ fun r s' hr => ?_) fun _ _ e => e)) fun _ _ e => e)) hs
  cases r with
  | ok f => exact hr
  | error e => exact hr.elim
end
end Mine
end
section
open PySem PySem.W PyProof.Rows PySem.Calls PySem.Spec
set_option maxRecDepth 100000
set_option maxHeartbeats 4000000
namespace Mine
noncomputable def crwN : Nat → List (List Int)
  | 0 => [[]]
  | i + 1 => growAll (i : Int) (crwN i)
noncomputable def MkL (mk : List (Addr × Obj)) : Prop := ∀ p ∈ mk, ∃ vs n, p.2 = W.listOf vs n
section
variable {prog : Program} {w : World} {A : Around} {E : Value → Shared → Prop} {s : Shared} {h₀ : Heap} {env : Env}
theorem guest_loop {Q : Flow → Shared → Prop} {x y : Str} {px : Pos} {body : List Stmt} {r c D₀ E₀ : Addr} {oc : Obj} {n0 n1 : Nat} {a1 a2 a3 : Tok} {m₀ : Str → Option Value} {base : List (Addr × Obj)} {v₀ : Option Value}
    (hh : A.handled = none) (hr : IsRange s.heap r 0 4 1 a1 a2 a3) (hk : env.scope.kind = .function) (hx : env.kindOf x = some .cell) (hc : env.cells.lookup x = some c)
    (F : Fr h₀ env.locals s.heap (fun z => if z = y then some (.ref D₀) else m₀ z)) (N : News h₀ env.locals s.heap ((c, oc) :: (D₀, W.listOf #[.ref E₀] n0) :: (E₀, W.listOf #[] n1) :: base)) (hoc : oc.data = .cell v₀) (hb : ∀ p ∈ base, @Ne Nat p.1 c)
    (step : ∀ (i : Nat) I oI t D its nax mk h tk oc', i < 4 → Fr h₀ env.locals h (fun z => if z = y then some (.ref D) else m₀ z) → News h₀ env.locals h ((I, oI) :: (c, oc') :: (D, W.listOf its.toArray nax) :: (mk ++ base)) → oc'.data = .cell (some (.int (i : Int) t)) → Crowds mk its (crwN i) →
      wpAny (model prog w) A (execs body env) (fun fl s₂ => fl = .next ∧ ∃ h' tk' D' its' nax' mk', s₂ = { s with heap := h', toks := tk' } ∧ Fr h₀ env.locals h' (fun z => if z = y then some (.ref D') else m₀ z) ∧ News h₀ env.locals h' ((I, oI) :: (c, oc') :: (D', W.listOf its'.toArray nax') :: (mk' ++ base)) ∧ MkL mk' ∧ Crowds mk' its' (crwN (i + 1))) NoE { s with heap := h, toks := tk })
    (hQ : ∀ h' tk D its nax mk oc' v', Fr h₀ env.locals h' (fun z => if z = y then some (.ref D) else m₀ z) → News h₀ env.locals h' ((c, oc') :: (D, W.listOf its.toArray nax) :: (mk ++ base)) → oc'.data = .cell v' → MkL mk → Crowds mk its (crwN 4) → Q .next { s with heap := h', toks := tk }) :
    wpAny (model prog w) A (pyIter (.ref r)) (fun it s₂ => codeAny (model prog w) A (.forLoop (.Name x px) it body [] env) (fun r s' => match r with | .ok f => Q f s' | .error _ => False) s₂) NoE s := by
  refine wpAny_pyIter_range hr (by decide) ?_
  have up : ∀ b o, s.heap.get? b = some o → (s.heap.push { cls := .type "range_iterator", dict := none, data := .fields #[rawInt 0, rawInt (Builtin.Range.rangeSize 0 4 1), rawInt 1] }).get? b = some o := fun b o e => Heap.get?_push_of_some _ e
  have below : ∀ p ∈ ((c, oc) :: (D₀, W.listOf #[.ref E₀] n0) :: (E₀, W.listOf #[] n1) :: base), @Ne Nat p.1 s.heap.objs.size := fun p hp => Nat.ne_of_lt (Heap.lt_size (N p hp).1)
  have hcl : ∀ {h : Heap} {a : Addr} {vs : Array Value} {n : Nat} {o : Obj}, h.get? a = some (W.listOf vs n) → h.get? s.heap.objs.size = some o → o.cls = .type "range_iterator" → @Ne Nat a s.heap.objs.size := fun e e' ec => ne_of_cls e e' (by rw [ec]; intro z; exact absurd (Value.type.inj z) (by decide))
  have hcc : ∀ {h : Heap} {a : Addr} {vs : Array Value} {n : Nat} {o : Obj} {v : Option Value}, h.get? a = some (W.listOf vs n) → h.get? c = some o → o.data = .cell v → @Ne Nat a c := fun {h a vs n o v} e e' hd z => by
    have z' : a = c := z
    subst z'; rw [e] at e'; cases e'; cases hd
  refine forLoop_cell (c := c) (oc := oc) (v₀ := v₀) (W := LCg.range_walks hh 0 4) hk hx hc (fun h => absurd (List.mem_singleton.mp h) (Nat.ne_of_lt F.ns.lt)) (fun h => below _ (List.mem_cons_self ..) (List.mem_singleton.mp h)) (fun b hb => by rw [List.mem_singleton.mp hb]; exact next_is_new F) (fun p hp => ⟨fun h => below p (List.mem_cons_of_mem _ hp) (List.mem_singleton.mp h), ?_⟩)
    (Heap.get?_push_size _ rfl) (F.push _) (fun p hp => ⟨up _ _ (N p hp).1, (N p hp).2⟩) hoc
    (fun i m' news' => ∃ D its nax mk, m' = (fun z => if z = y then some (.ref D) else m₀ z) ∧ news' = (D, W.listOf its.toArray nax) :: (mk ++ base) ∧ MkL mk ∧ Crowds mk its (crwN i))
    ⟨D₀, [.ref E₀], n0, [(E₀, W.listOf #[] n1)], rfl, rfl, ?_, ?_⟩ ?_ ?_
  · rcases List.mem_cons.mp hp with rfl | hp
    · exact hcc (N (D₀, W.listOf #[.ref E₀] n0) (by k_mem)).1 (N (c, oc) (by k_mem)).1 hoc
    rcases List.mem_cons.mp hp with rfl | hp
    · exact hcc (N (E₀, W.listOf #[] n1) (by k_mem)).1 (N (c, oc) (by k_mem)).1 hoc
    · exact hb p hp
  · intro p hp
    rw [List.mem_singleton.mp hp]
    exact ⟨_, _, rfl⟩
  · exact .cons ⟨E₀, [], n1, rfl, by simp, .nil⟩ .nil
  · rintro i v m₁ news₁ h₁ tk₁ own oc' hi ⟨t, rfl⟩ ⟨D, its, nax, mk, rfl, rfl, hmk, hcs⟩ hoff hsub hall hoc' F₁ N₁ hst
    obtain ⟨oI, hst', hcI⟩ : ∃ o, h₁.get? s.heap.objs.size = some o ∧ o.cls = .type "range_iterator" := ⟨_, hst, rfl⟩
    have hown := hall _ (List.mem_singleton.mpr rfl) (next_is_new F) _ hst'
    refine wpAny_mono (step i s.heap.objs.size oI t D its nax mk h₁ tk₁ oc' hi F₁ (fun p hp => ?_) (by rw [Int.zero_add] at hoc'; exact hoc') hcs) (fun fl s₂ h₂ => ?_) fun _ _ e => e
    · rcases List.mem_cons.mp hp with rfl | hp
      · exact N₁ _ (List.mem_append_left _ hown)
      · exact N₁ _ (List.mem_append_right _ hp)
    · refine wrapG ?_
      intro Pw9 hPw9
      obtain ⟨rfl, h', tk', D', its', nax', mk', rfl, F', N', hmk', hcs'⟩ := h₂
      refine hPw9 ?_
      have hI' := (N' (s.heap.objs.size, oI) (List.mem_cons_self ..)).1
      have hc' := (N' (c, oc') (by k_mem)).1
      refine ⟨rfl, h', tk', _, (D', W.listOf its'.toArray nax') :: (mk' ++ base), oc', _, rfl, F', fun p hp => ?_, hoc', fun p hp => ⟨fun h => ?_, ?_⟩, D', its', nax', mk', rfl, rfl, hmk', hcs'⟩
      · rcases List.mem_append.mp hp with hp | hp
        · have e1 := hsub p hp
          have e2 := (N₁ p (List.mem_append_left _ hp)).1
          have e3 : p = (s.heap.objs.size, oI) := Prod.ext (List.mem_singleton.mp e1) (by rw [List.mem_singleton.mp e1, hst'] at e2; exact (Option.some.inj e2).symm)
          rw [e3]
          exact N' _ (List.mem_cons_self ..)
        · exact N' p (List.mem_cons_of_mem _ hp)
      · have h9 : p.1 = s.heap.objs.size := List.mem_singleton.mp h
        have hp' := N' p (List.mem_cons_of_mem _ (List.mem_cons_of_mem _ hp))
        rcases List.mem_cons.mp hp with rfl | hp
        · exact hcl hp'.1 hI' hcI h9
        rcases List.mem_append.mp hp with hp | hp
        · obtain ⟨vs, n, e⟩ := hmk' p hp
          rw [e] at hp'
          exact hcl hp'.1 hI' hcI h9
        · exact below p (by simp [hp]) h9
      · have hp' := N' p (List.mem_cons_of_mem _ (List.mem_cons_of_mem _ hp))
        rcases List.mem_cons.mp hp with rfl | hp
        · exact hcc hp'.1 hc' hoc'
        rcases List.mem_append.mp hp with hp | hp
        · obtain ⟨vs, n, e⟩ := hmk' p hp
          rw [e] at hp'
          exact hcc hp'.1 hc' hoc'
        · exact hb p hp
  · intro h' tk m' news' oc' v' F' N' hoc' hne hInv9
    refine wrapG ?_
    intro Pw9 hPw9
    obtain ⟨D, its, nax, mk, rfl, rfl, hmk, hcs⟩ := hInv9
    refine hPw9 ?_
    exact hQ h' tk D its nax mk oc' v' F' N' hoc' hmk hcs
end
end Mine
end
section
open PySem PySem.W PyProof.Rows PySem.Calls PySem.Spec
set_option maxRecDepth 100000
set_option maxHeartbeats 4000000
namespace Mine
noncomputable abbrev cellObj (v : Option Value) : Obj := { cls := .type "cell", data := .cell v }
section
variable {prog : Program} {w : World} {A : Around} {E : Value → Shared → Prop} {s : Shared} {h₀ : Heap} {L : Addr} {m : Str → Option Value} {env : Env}
theorem newFn_one {M : Model} {scope : Scope} {globals : Addr} {cl : List (Str × Addr)} {qual : Str} {env0 : Env} {x : Str} {Q : Env → Shared → Prop}
    (hcells : ∀ n, cellsFrom n scope.names cl = (x, n) :: cl) (hpush : ∀ h, pushCells h scope.names = h.push (cellObj none))
    (hQ : Q { scope := scope, locals := s.heap.objs.size, globals := globals, cells := (x, s.heap.objs.size + 1) :: cl, qual := qual, func := none, code := env0.code, frame := env0.frame, builtins := env0.builtins }
      { s with heap := (s.heap.push { cls := .type "dict", data := .dict #[] }).push (cellObj none) }) :
    wpAny M A (newFunctionEnv scope globals cl [] qual none .none (some env0)) Q E s := by
  simp only [newFunctionEnv, Option.isSome_some, if_true]
  refine wpAny_bind (wpAny_alloc ?_)
  refine wpAny_bind (wpAny_layCells _ (fun name kind cells => by cases hkc : kind == NameKind.cell <;> simp [hkc]) _ _ _ _ ?_)
  rw [hcells, hpush]
  rw [show ({ s with heap := s.heap.push { cls := .type "dict", data := .dict #[] } } : Shared).heap.objs.size = s.heap.objs.size + 1 from Heap.size_push ..]
  exact wpAny_bind (wpAny_pure (wpAny_pure hQ))
theorem cellcomp_assign {elt iter : Expr} {x y : Str} {px py : Pos} {scope : Scope} {cl : List (Str × Addr)} {pos spos : Pos} {Q : Flow → Shared → Prop} {n : Nat} {f : Nat → Int} {news : List (Addr × Obj)}
    (hLe : env.locals = L) (hh : A.handled = none)
    (hsw : swapsWith (.ListComp elt [⟨.Name x px, iter, [], 0⟩] scope pos) (some (.Name y py)) spos.line env = pure true)
    (hclos : closureFor scope env = pure cl) (hkind : scope.kind = .function)
    (hcells : ∀ n, cellsFrom n scope.names cl = (x, n) :: cl) (hpush : ∀ h, pushCells h scope.names = h.push (cellObj none))
    (hnames : ∀ z ∈ scope.names, z.2 = .local → scope.names.lookup z.1 = some .local) (hx : ∀ tc C, (compEnvC scope ((x, tc) :: cl) C env).kindOf x = some .cell)
    (hy : env.kindOf y = some .local) (hp : (env.scope.kind == .class || (env.scope.kind == .module && env.locals != env.globals)) = false) (hn : n ≤ 100) (F₀ : Fr h₀ L s.heap m) (N₀ : News h₀ L s.heap news)
    (hi0 : wpAny (model prog w) A (eval iter env) (fun v s' => ∃ r h tk a1 a2 a3, v = .ref r ∧ s' = { s with heap := h, toks := tk } ∧ Fr h₀ L h m ∧ News h₀ L h news ∧ IsRange h r 0 n 1 a1 a2 a3) NoE s)
    (hE : ∀ i, i < n → ∀ I oI C oC D tc ot ys h tk t, ot.data = .cell (some (.int (i : Int) t)) → Fr h₀ L h m → News h₀ L h ((tc, ot) :: (I, oI) :: (C, oC) :: (D, LCg.lst ys) :: news) →
      wpAny (model prog w) A (eval elt (compEnvC scope ((x, tc) :: cl) C env)) (fun xv s' => ∃ h' tk' t', xv = .int (f i) t' ∧ s' = { s with heap := h', toks := tk' } ∧ Fr h₀ L h' m ∧ News h₀ L h' ((tc, ot) :: (I, oI) :: (C, oC) :: (D, LCg.lst ys) :: news)) NoE { s with heap := h, toks := tk })
    (hQ : ∀ h' tk D ys, Fr h₀ L h' (fun z => if z = y then some (.ref D) else m z) → News h₀ L h' ((D, LCg.lst ys) :: news) → LCg.Off1 D news → IntsAre ys ((List.range n).map f) → Q .next { s with heap := h', toks := tk })
    (hs : ∀ x, foldedSetIterable iter env x = pure x := by intro _; rfl) :
    wpAny (model prog w) A (exec (.Assign [.Name y py] (.ListComp elt [⟨.Name x px, iter, [], 0⟩] scope pos) spos) env) Q E s := by
  subst hLe
  rw [exec_Assign_Name_used _ _ _ _ hsw]
  refine wpAny_bind (wpAny_standAt (wpAny_bind ?_))
  show wpAny _ A (do let _ ← comprehension (.ListComp elt [⟨.Name x px, iter, [], 0⟩] scope pos) scope env _ (newList []) false (eval iter env) (some (assign (.Name y py) env))) _ _ s
  refine wpAny_bind (wpAny_mono (wpAny_comprehension_free (use := some (assign (.Name y py) env)) (Q := fun _ s' => Q .next s') rfl hs hclos hkind hnames
    (noE (wpAny_mono hi0 (fun xv s₁ h₁ => ?_) fun _ _ e => e))) (fun _ s' hq => wpAny_pure (wpAny_pure hq)) fun _ _ e => e)
  refine wrapG ?_
  intro Pw9 hPw9
  obtain ⟨r, hp0, tk0, a1, a2, a3, rfl, rfl, F, N, hr⟩ := h₁
  refine hPw9 ?_
  refine wpAny_pyIter_range (s := { s with heap := hp0, toks := tk0 }) hr (small_one (by lia) (by lia) (by lia) (by lia)) ?_
  refine wpAny_newObj_type (newFn_one (x := x) hcells hpush ?_)
  dsimp only
  have below : ∀ b o, hp0.get? b = some o → @LT.lt Nat _ b hp0.objs.size := fun b o e => Heap.lt_size e
  have hL : @LT.lt Nat _ env.locals hp0.objs.size := F.ns.lt
  have fresh : ∀ a, @LE.le Nat _ hp0.objs.size a → h₀.get? a = none := fun a ha => by
    cases e : h₀.get? a with
    | none => rfl
    | some o' => exact absurd (below _ _ (F.keep a o' e)) (by lia)
  generalize hI : hp0.objs.size = I at below hL fresh ⊢
  generalize hH1 : hp0.push { cls := .type "range_iterator", dict := none, data := .fields #[rawInt 0, rawInt (Builtin.Range.rangeSize 0 n 1), rawInt 1] } = H1 at ⊢
  have hD : H1.objs.size = I + 1 := by rw [← hH1, Heap.size_push, hI]
  have eI1 : H1.get? I = some { cls := .type "range_iterator", dict := none, data := .fields #[rawInt 0, rawInt (Builtin.Range.rangeSize 0 n 1), rawInt 1] } := by rw [← hH1, ← hI]; exact Heap.get?_push_size _ rfl
  have up1 : ∀ b o, hp0.get? b = some o → H1.get? b = some o := fun b o e => by rw [← hH1]; exact Heap.get?_push_of_some _ e
  generalize hDD : H1.objs.size = D at hD ⊢
  generalize hH2 : H1.push { cls := .type "list", dict := none, data := .seq ([] : List Value).toArray } = H2 at ⊢
  have hC : H2.objs.size = D + 1 := by rw [← hH2, Heap.size_push, hDD]
  have up2 : ∀ b o, H1.get? b = some o → H2.get? b = some o := fun b o e => by rw [← hH2]; exact Heap.get?_push_of_some _ e
  have eD2 : H2.get? D = some (LCg.lst []) := by rw [← hH2, ← hDD]; exact Heap.get?_push_size _ rfl
  generalize hCC : H2.objs.size = C at hC ⊢
  generalize hH3 : H2.push { cls := .type "dict", dict := none, data := .dict #[] } = H3 at ⊢
  have hT : H3.objs.size = C + 1 := by rw [← hH3, Heap.size_push, hCC]
  have up3 : ∀ b o, H2.get? b = some o → H3.get? b = some o := fun b o e => by rw [← hH3]; exact Heap.get?_push_of_some _ e
  have nsC : H3.Ns C fun _ => none := by rw [← hH3, ← hCC]; exact Heap.Ns.new _ _
  have nIC : I ≠ C := by rw [hC, hD]; exact Nat.ne_of_lt (by lia)
  have nDC : D ≠ C := by rw [hC]; exact Nat.ne_of_lt (by lia)
  have nID : I ≠ D := by rw [hD]; exact Nat.ne_of_lt (by lia)
  have nIT : I ≠ C + 1 := by rw [hC, hD]; exact Nat.ne_of_lt (by lia)
  have nDT : D ≠ C + 1 := by rw [hC]; exact Nat.ne_of_lt (by lia)
  have nCT : C ≠ C + 1 := Nat.ne_of_lt (Nat.lt_succ_self _)
  have h0I : h₀.get? I = none := fresh I (Nat.le_refl _)
  have h0D : h₀.get? D = none := fresh D (by rw [hD]; lia)
  have h0C : h₀.get? C = none := fresh C (by rw [hC, hD]; lia)
  have h0T : h₀.get? (C + 1) = none := fresh _ (by rw [hC, hD]; lia)
  have nIL : I ≠ env.locals := Nat.ne_of_gt hL
  have nDL : D ≠ env.locals := by rw [hD]; exact Nat.ne_of_gt (by lia)
  have nCL : C ≠ env.locals := by rw [hC, hD]; exact Nat.ne_of_gt (by lia)
  have nTL : C + 1 ≠ env.locals := by rw [hC, hD]; exact Nat.ne_of_gt (by lia)
  have offN : ∀ p ∈ news, p.1 ≠ I ∧ p.1 ≠ C ∧ p.1 ≠ D ∧ p.1 ≠ C + 1 := fun p hp => by
    have := below _ _ (N p hp).1
    exact ⟨Nat.ne_of_lt this, by rw [hC, hD]; exact Nat.ne_of_lt (by lia), by rw [hD]; exact Nat.ne_of_lt (by lia), by rw [hC, hD]; exact Nat.ne_of_lt (by lia)⟩
  have hrs : Builtin.Range.rangeSize 0 n 1 = (n : Int) := by have := rangeSize_nat 0 n; simpa using this
  have W1 := LCg.range_walks (prog := prog) (w := w) (I := I) hh 0 n
  have up4 : ∀ b o, H3.get? b = some o → (H3.push (cellObj none)).get? b = some o := fun b o e => Heap.get?_push_of_some _ e
  have up : ∀ b o, hp0.get? b = some o → (H3.push (cellObj none)).get? b = some o := fun b o e => up4 _ _ (up3 _ _ (up2 _ _ (up1 _ _ e)))
  have eT : (H3.push (cellObj none)).get? (C + 1) = some (cellObj none) := by rw [← hT]; exact Heap.get?_push_size _ rfl
  have hit0 : IsRangeIter (H3.push (cellObj none)) I (0 + ((0 : Nat) : Int) * 1) ((n : Int) - ((0 : Nat) : Int)) 1 := by
    have := up4 _ _ (up3 _ _ (up2 _ _ eI1))
    rw [hrs] at this
    show (H3.push (cellObj none)).get? I = _
    rw [this]; simp
  have loop : codeAny (model prog w) A (.compLoop (.ListComp elt [⟨.Name x px, iter, [], 0⟩] scope pos) 0 (.ref I) (.ref D) (compEnvC scope ((x, C + 1) :: cl) C env))
      (compPost (model prog w) A E (some (assign (.Name y py) env)) (fun _ s' => Q .next s') (.ref D) C) { s with heap := H3.push (cellObj none), toks := tk0 } := by
    refine codeAny_compLoop_list
      (fun k s' => ∃ h' tk i ys ot v', s' = { s with heap := h', toks := tk } ∧ i ≤ n ∧ k = n + 1 - i ∧ IsRangeIter h' I (0 + (i : Nat) * 1) ((n : Int) - (i : Nat)) 1 ∧ Fr h₀ env.locals h' m ∧ h'.Ns C (fun _ => none) ∧ News h₀ env.locals h' ((C + 1, ot) :: (D, LCg.lst ys) :: news) ∧
        ot.data = .cell v' ∧ IntsAre ys ((List.range i).map f)) ?_ (n + 1)
      ⟨_, _, 0, [], cellObj none, none, rfl, Nat.zero_le _, rfl, hit0, F.keeps up, nsC.at' fun o e => up4 _ _ e, fun p hp => ?_, rfl, .nil⟩
    · intro k s' hInv9
      refine wrapG ?_
      intro Pw9 hPw9
      obtain ⟨h', tk, i, ys, ot, v', rfl, hi, rfl, hit', F', hn', N', hot, hys⟩ := hInv9
      refine hPw9 ?_
      have hst : IsRangeIter h' I (0 + (i : Nat) * 1) ((n : Int) - (i : Nat)) 1 := hit'
      have hT' := N' (C + 1, ot) (by k_mem)
      have offI : ∀ p ∈ ((C + 1, ot) :: (D, LCg.lst ys) :: news), p.1 ≠ I := fun p hp => by
        rcases List.mem_cons.mp hp with rfl | hp
        · exact Ne.symm nIT
        rcases List.mem_cons.mp hp with rfl | hp
        · exact Ne.symm nID
        · exact (offN p hp).1
      by_cases hlt' : i < n
      · refine noE (W1.item i _ _ _ hlt' hst fun v h₂ tk₂ hPv hst₂ hk₂ => ?_)
        obtain ⟨t, rfl⟩ := hPv
        have F₂ : Fr h₀ env.locals h₂ m := LCg.fr_but F' hk₂ (Ne.symm nIL) h0I
        have N₂ := LCg.news_but N' hk₂ offI
        have hn₂ : h₂.Ns C fun _ => none := hn'.at' fun o e => hk₂ _ o (by simpa using Ne.symm nIC) e
        refine noE (wpAny_assign_Name (wpAny_storeName_cell hkind (hx _ _) (c := C + 1) (by simp [compEnvC]) ⟨ot, (N₂ (C + 1, ot) (by k_mem)).1, hot⟩ fun h₃ hc₃ hs₃ => ?_))
        obtain ⟨o₃, e₃, hd₃⟩ := hc₃
        have F₃ : Fr h₀ env.locals h₃ m := F₂.change hs₃ nTL h0T
        have N₃ : News h₀ env.locals h₃ ((D, LCg.lst ys) :: news) := fun p hp => by
          have z := N₂ p (List.mem_cons_of_mem _ hp)
          refine ⟨hs₃.extBut _ _ ?_ z.1, z.2⟩
          rcases List.mem_cons.mp hp with rfl | hp
          · exact nDT
          · exact (offN p hp).2.2.2
        have hn₃ : h₃.Ns C fun _ => none := hn₂.sameBut hs₃ nCT
        obtain ⟨oI, hit₃, hIs⟩ : ∃ oI, h₃.get? I = some oI ∧ ∀ hh : Heap, hh.get? I = some oI → IsRangeIter hh I (0 + ((i + 1 : Nat) : Int) * 1) ((n : Int) - ((i + 1 : Nat) : Int)) 1 := ⟨_, hs₃.extBut _ _ nIT hst₂, fun _ e => e⟩
        obtain ⟨oC, eC, hoC⟩ := LCg.ns_obj hn₃
        refine noE (wpAny_mono (hE i hlt' I oI C oC D (C + 1) o₃ ys h₃ _ t (by rw [hd₃]; simp) F₃ (fun p hp => ?_)) (fun xv s₄ h₄ => ?_) fun _ _ e => e)
        · rcases List.mem_cons.mp hp with rfl | hp
          · exact ⟨e₃, nTL, h0T⟩
          rcases List.mem_cons.mp hp with rfl | hp
          · exact ⟨hit₃, nIL, h0I⟩
          rcases List.mem_cons.mp hp with rfl | hp
          · exact ⟨eC, nCL, h0C⟩
          · exact N₃ p hp
        · refine wrapG ?_
          intro Pw9 hPw9
          obtain ⟨h₄, tk₄, t₄, rfl, rfl, F₄, N₄⟩ := h₄
          refine hPw9 ?_
          refine noE (append_at (s := { s with heap := h₄, toks := tk₄ }) (N₄ (D, LCg.lst ys) (by k_mem)).1 (fun h₅ hs₅ hD₅ => ?_) ?_)
          · have upd : ∀ b o, b ≠ D → h₄.get? b = some o → h₅.get? b = some o := fun b o hb e => hs₅.extBut _ _ hb e
            refine ⟨n + 1 - (i + 1), by lia, h₅, tk₄, i + 1, ys ++ [.int (f i) t₄], o₃, _, rfl, hlt', rfl, ?_, F₄.change hs₅ nDL h0D, ?_, ?_, hd₃, ?_⟩
            · exact hIs _ (upd _ _ nID (N₄ (I, oI) (by k_mem)).1)
            · exact (hoC.ns (N₄ (C, oC) (by k_mem)).1).sameBut hs₅ (Ne.symm nDC)
            · intro p hp
              rcases List.mem_cons.mp hp with rfl | hp
              · have z := N₄ (C + 1, o₃) (by k_mem)
                exact ⟨upd _ _ (Ne.symm nDT) z.1, z.2⟩
              rcases List.mem_cons.mp hp with rfl | hp
              · exact ⟨hD₅.trans (congrArg some (LCg.lst_snoc ys _)), nDL, h0D⟩
              · have z := N₄ p (by simp [hp])
                exact ⟨upd _ _ (offN p hp).2.2.1 z.1, z.2⟩
            · rw [List.range_succ, List.map_append]
              exact hys.append (.cons _ _ .nil)
          · have := hys.length
            simp only [List.length_map, List.length_range] at this
            rw [List.size_toArray, PySem.sizeLine_eq]; lia
      · obtain rfl : i = n := by lia
        refine noE (W1.done _ _ _ hst fun h₂ tk₂ hk₂ => ?_)
        have F₂ : Fr h₀ env.locals h₂ m := LCg.fr_but F' hk₂ (Ne.symm nIL) h0I
        have N₂ := LCg.news_but N' hk₂ offI
        have hn₂ : h₂.Ns C fun _ => none := hn'.at' fun o e => hk₂ _ o (by simpa using Ne.symm nIC) e
        show wpAny _ A (assign (.Name y py) env (.ref D)) _ _ _
        refine wpAny_assign_Name (wpAny_storeName_local hy F₂.ns (fun h₃ hn₃ hs₃ => ?_) hp)
        have hL₀ : h₀.get? env.locals = none := Heap.get?_none_of_le F₂.above
        have F₃ : Fr h₀ env.locals h₃ (fun z => if z = y then some (.ref D) else m z) := ⟨hn₃, fun b o e => hs₃.extBut b o (fun q => by rw [q, hL₀] at e; cases e) (F₂.keep b o e), F₂.above⟩
        refine ⟨_, hn₂.sameBut hs₃ nCL, fun h₄ hs₄ => ?_⟩
        refine hQ h₄ _ D ys (F₃.change hs₄ nCL h0C) (fun p hp => ?_) ?_ hys
        · have z := N₂ p (List.mem_cons_of_mem _ hp)
          refine ⟨hs₄.extBut _ _ ?_ (hs₃.extBut _ _ z.2.1 z.1), z.2⟩
          rcases List.mem_cons.mp hp with rfl | hp
          · exact nDC
          · exact (offN p hp).2.1
        · have : ∀ {l : List (Addr × Obj)}, (∀ p ∈ l, @Ne Nat p.1 D) → LCg.Off1 D l := fun {l} => by
            induction l with
            | nil => intro _; trivial
            | cons q l ih => intro h; exact ⟨h q (List.mem_cons_self ..), ih fun p hp => h p (List.mem_cons_of_mem _ hp)⟩
          exact this fun p hp => (offN p hp).2.2.1
    · rcases List.mem_cons.mp hp with rfl | hp
      · exact ⟨eT, nTL, h0T⟩
      rcases List.mem_cons.mp hp with rfl | hp
      · exact ⟨up4 _ _ (up3 _ _ eD2), nDL, h0D⟩
      · exact ⟨up _ _ (N p hp).1, (N p hp).2⟩
  exact codeAny_compStart_list loop (W1.self 0 _ _ _ hit0 loop)
end
end Mine
end
section
open PySem PySem.W PyProof.Rows PySem.Calls PySem.Spec
set_option maxRecDepth 100000
set_option maxHeartbeats 4000000
namespace Mine
noncomputable def pushP (pb : Addr) (its : List Value) (i : Nat) (v : List (Addr × Obj)) : Prop := ∃ nw, v = [(pb, W.listOf (its.take i).toArray nw)]
theorem pushP.all {pb : Addr} {its : List Value} {v : List (Addr × Obj)} (h : pushP pb its its.length v) : ∃ nw, v = [(pb, W.listOf its.toArray nw)] := by
  obtain ⟨nw, e⟩ := h
  rw [List.take_length] at e
  exact ⟨nw, e⟩
theorem pushP.next {pb : Addr} {its : List Value} {i nw : Nat} {v : Value} (h : its[i]? = some v) : pushP pb its (i + 1) [(pb, W.listOf (its.take i ++ [v]).toArray nw)] := ⟨nw, by rw [List.take_add_one, h]; rfl⟩
/-- what the turns of a comprehension give, each with a token of its own -/
noncomputable def vals (mk : Nat → Tok → Value) : Nat → List Tok → List Value
  | _, [] => []
  | i, t :: ts => mk i t :: vals mk (i + 1) ts
theorem vals_snoc {mk : Nat → Tok → Value} {t : Tok} : ∀ {i : Nat} {ts : List Tok}, vals mk i (ts ++ [t]) = vals mk i ts ++ [mk (i + ts.length) t]
  | _, [] => rfl
  | i, u :: ts => by
    rw [List.cons_append, vals, vals, vals_snoc, List.cons_append, List.length_cons, Nat.add_assoc, Nat.add_comm 1]
theorem vals_len {mk : Nat → Tok → Value} : ∀ {i : Nat} {ts : List Tok}, (vals mk i ts).length = ts.length
  | _, [] => rfl
  | _, _ :: _ => congrArg (· + 1) vals_len
/-- an address off all of a ledger, told so that omega does not see it -/
structure OffT (a : Addr) (l : List (Addr × Obj)) : Prop where
  out : ∀ p ∈ l, @Ne Nat p.1 a
theorem own_off {a I D : Addr} {own : List (Addr × Obj)} (h : ∀ p ∈ own, p.1 = I ∨ p.1 = D) (h1 : @Ne Nat a I) (h2 : @Ne Nat D a) : OffT a own := ⟨fun p hp => by
  rcases h p hp with e | e
  · rw [e]; exact Ne.symm h1
  · rw [e]; exact h2⟩
theorem news_one {h₀ h : Heap} {L : Addr} {a : Addr × Obj} {rest : List (Addr × Obj)} (N : News h₀ L h (a :: rest)) : News h₀ L h ([a] ++ rest) := N
section
variable {prog : Program} {w : World} {A : Around} {E : Value → Shared → Prop} {s : Shared} {h₀ : Heap} {env : Env}
/-- a for over a list of the ledger: a part of the ledger turns, the rest stands -/
theorem for_list_T {Q : Flow → Shared → Prop} {x : Str} {px : Pos} {body : List Stmt} {D : Addr} {its : List Value} {nD : Nat} {m₀ : Str → Option Value} {var rest : List (Addr × Obj)} (P : Nat → List (Addr × Obj) → Prop) (adr : List Addr)
    (hh : A.handled = none) (hx : env.kindOf x = some .local) (hp : (env.scope.kind == .class || (env.scope.kind == .module && env.locals != env.globals)) = false)
    (F : Fr h₀ env.locals s.heap m₀) (N : News h₀ env.locals s.heap (var ++ rest)) (h0 : P 0 var) (hD : (D, W.listOf its.toArray nD) ∈ rest) (hadr : ∀ i v, P i v → v.map (·.1) = adr)
    (step : ∀ i v I var' own s₁, its[i]? = some v → P i var' → Fr h₀ env.locals s₁.heap (fun z => if z = x then some v else m₀ z) → News h₀ env.locals s₁.heap (var' ++ (rest ++ own)) → (∀ p ∈ var ++ rest, @Ne Nat p.1 I) → (∀ p ∈ own, p.1 = I ∨ p.1 = D) →
      wpAny (model prog w) A (execs body env) (fun fl s₂ => fl = .next ∧ ∃ h' tk' X' var'', s₂ = { s₁ with heap := h', toks := tk' } ∧ Fr h₀ env.locals h' (fun z => if z = x then X' else m₀ z) ∧ News h₀ env.locals h' (var'' ++ (rest ++ own)) ∧ P (i + 1) var'') NoE s₁)
    (hQ : ∀ h' tk X var', Fr h₀ env.locals h' (fun z => if z = x then X else m₀ z) → News h₀ env.locals h' (var' ++ rest) → P its.length var' → Q .next { s with heap := h', toks := tk }) :
    wpAny (model prog w) A (pyIter (.ref D)) (fun it s₂ => codeAny (model prog w) A (.forLoop (.Name x px) it body [] env) (fun r s' => match r with | .ok f => Q f s' | .error _ => False) s₂) NoE s := by
  have hDN := N (D, W.listOf its.toArray nD) (List.mem_append_right _ hD)
  have hl : s.heap.IsList D its.toArray := ⟨_, hDN.1, rfl, _, rfl⟩
  refine wpAny_pyIter_list hl ?_
  have up : ∀ b o, s.heap.get? b = some o → (s.heap.push { cls := .type "list_iterator", dict := none, data := .fields #[.ref D, .int 0 0] }).get? b = some o := fun b o e => Heap.get?_push_of_some _ e
  have below : ∀ p ∈ var ++ rest, @Ne Nat p.1 s.heap.objs.size := fun p hp => Nat.ne_of_lt (Heap.lt_size (N p hp).1)
  have hDI : D ≠ s.heap.objs.size := below (D, W.listOf its.toArray nD) (List.mem_append_right _ hD)
  have W1 := Walks.list (prog := prog) (w := w) hh s.heap.objs.size D hDI its.toArray
  have offV : ∀ i v, P i v → ∀ p ∈ v ++ rest, p.1 ∉ [s.heap.objs.size] := fun i v hP p hp hm => by
    have e := List.mem_singleton.mp hm
    rcases List.mem_append.mp hp with hp | hp
    · have h1 : p.1 ∈ adr := hadr i v hP ▸ List.mem_map_of_mem hp
      rw [← hadr 0 var h0] at h1
      obtain ⟨q, hq, e2⟩ := List.mem_map.mp h1
      exact below q (List.mem_append_left _ hq) (e2.trans e)
    · exact below p (List.mem_append_right _ hp) e
  refine codeAny_forLoop_frU (W := W1) hx hp (fun h => ?_) (fun b hb => by rw [List.mem_singleton.mp hb]; exact next_is_new F) (offV 0 var h0) ⟨⟨_, Heap.get?_push_size _ rfl, rfl, rfl⟩, _, up _ _ hDN.1, rfl, _, rfl⟩ (F.push _) (fun p hp => ⟨up _ _ (N p hp).1, (N p hp).2⟩)
    (fun i m' news' => ∃ X var', m' = (fun z => if z = x then X else m₀ z) ∧ news' = var' ++ rest ∧ P i var')
    ⟨m₀ x, var, funext fun z => by by_cases hz : z = x <;> simp [hz], rfl, h0⟩ ?_ ?_
  · rcases List.mem_cons.mp h with h | h
    · exact Nat.ne_of_lt F.ns.lt h
    · exact hDN.2.1 (List.mem_singleton.mp h).symm
  · rintro i v m₁ news₁ s₁ own hi hP ⟨X, var', rfl, rfl, hPv⟩ hoff hsub hget hall hst F₁ N₁
    have F₂ : Fr h₀ env.locals s₁.heap (fun z => if z = x then some v else m₀ z) := by
      refine cast (congrArg (fun f => Fr _ _ s₁.heap f) (funext fun z => ?_)) F₁
      by_cases hz : z = x
      · simp only [hz, if_true]
      · simp only [hz, if_false]
    refine noE (wpAny_mono (step i v s.heap.objs.size var' own s₁ (by simpa using hP) hPv F₂ (fun p hp => ?_) below (fun p hp => by simpa using hsub p hp)) (fun f s₂ h₂ => ?_) fun _ _ e => e)
    · rcases List.mem_append.mp hp with hp | hp
      · exact N₁ p (List.mem_append_right _ (List.mem_append_left _ hp))
      rcases List.mem_append.mp hp with hp | hp
      · exact N₁ p (List.mem_append_right _ (List.mem_append_right _ hp))
      · exact N₁ p (List.mem_append_left _ hp)
    · refine wrapG ?_
      intro Pw9 hPw9
      obtain ⟨rfl, h', tk', X', var'', rfl, F', N', hP'⟩ := h₂
      refine hPw9 ?_
      refine LoopStepU.intro (news₂ := var'' ++ rest) F' (fun p hp => ?_) (offV _ _ hP') ⟨X', var'', rfl, rfl, hP'⟩
      rcases List.mem_append.mp hp with hp | hp
      · exact N' p (List.mem_append_right _ (List.mem_append_right _ hp))
      rcases List.mem_append.mp hp with hp | hp
      · exact N' p (List.mem_append_left _ hp)
      · exact N' p (List.mem_append_right _ (List.mem_append_left _ hp))
  · intro h' tk m' news' F' N' hoff hInv9
    refine wrapG ?_
    intro Pw9 hPw9
    obtain ⟨X, var', rfl, rfl, hPv⟩ := hInv9
    refine hPw9 ?_
    have e : its.toArray.size = its.length := List.size_toArray
    rw [e] at hPv
    exact hQ h' tk X var' F' N' hPv
/-- a for over a list, told by one turn: the frame's map and part of the ledger may change -/
theorem for_list_M {Q : Flow → Shared → Prop} {x : Str} {px : Pos} {body : List Stmt} {D : Addr} {its : List Value} {nD : Nat} {m₀ : Str → Option Value} {var rest : List (Addr × Obj)} (P : Nat → (Str → Option Value) → List (Addr × Obj) → Prop) (adr : List Addr)
    (hh : A.handled = none) (hx : env.kindOf x = some .local) (hp : (env.scope.kind == .class || (env.scope.kind == .module && env.locals != env.globals)) = false)
    (F : Fr h₀ env.locals s.heap m₀) (N : News h₀ env.locals s.heap (var ++ rest)) (h0 : P 0 m₀ var) (hD : (D, W.listOf its.toArray nD) ∈ rest) (hadr : ∀ i m v, P i m v → v.map (·.1) = adr)
    (step : ∀ i v I m' var' own s₁ (Q' : Flow → Shared → Prop), its[i]? = some v → P i m' var' → Fr h₀ env.locals s₁.heap (fun z => if z = x then some v else m' z) → News h₀ env.locals s₁.heap (var' ++ (rest ++ own)) → (∀ p ∈ var ++ rest, @Ne Nat p.1 I) → (∀ p ∈ own, p.1 = I ∨ p.1 = D) →
      (∀ h' tk' m'' var'', Fr h₀ env.locals h' m'' → News h₀ env.locals h' (var'' ++ (rest ++ own)) → P (i + 1) m'' var'' → Q' .next { s₁ with heap := h', toks := tk' }) → wpAny (model prog w) A (execs body env) Q' NoE s₁)
    (hQ : ∀ h' tk m' var', Fr h₀ env.locals h' m' → News h₀ env.locals h' (var' ++ rest) → P its.length m' var' → Q .next { s with heap := h', toks := tk }) :
    wpAny (model prog w) A (pyIter (.ref D)) (fun it s₂ => codeAny (model prog w) A (.forLoop (.Name x px) it body [] env) (fun r s' => match r with | .ok f => Q f s' | .error _ => False) s₂) NoE s := by
  have hDN := N (D, W.listOf its.toArray nD) (List.mem_append_right _ hD)
  have hl : s.heap.IsList D its.toArray := ⟨_, hDN.1, rfl, _, rfl⟩
  refine wpAny_pyIter_list hl ?_
  have up : ∀ b o, s.heap.get? b = some o → (s.heap.push { cls := .type "list_iterator", dict := none, data := .fields #[.ref D, .int 0 0] }).get? b = some o := fun b o e => Heap.get?_push_of_some _ e
  have below : ∀ p ∈ var ++ rest, @Ne Nat p.1 s.heap.objs.size := fun p hp => Nat.ne_of_lt (Heap.lt_size (N p hp).1)
  have hDI : D ≠ s.heap.objs.size := below (D, W.listOf its.toArray nD) (List.mem_append_right _ hD)
  have W1 := Walks.list (prog := prog) (w := w) hh s.heap.objs.size D hDI its.toArray
  have offV : ∀ i m v, P i m v → ∀ p ∈ v ++ rest, p.1 ∉ [s.heap.objs.size] := fun i m v hP p hp hm => by
    have e := List.mem_singleton.mp hm
    rcases List.mem_append.mp hp with hp | hp
    · have h1 : p.1 ∈ adr := hadr i m v hP ▸ List.mem_map_of_mem hp
      rw [← hadr 0 m₀ var h0] at h1
      obtain ⟨q, hq, e2⟩ := List.mem_map.mp h1
      exact below q (List.mem_append_left _ hq) (e2.trans e)
    · exact below p (List.mem_append_right _ hp) e
  refine codeAny_forLoop_frU (W := W1) hx hp (fun h => ?_) (fun b hb => by rw [List.mem_singleton.mp hb]; exact next_is_new F) (offV 0 m₀ var h0) ⟨⟨_, Heap.get?_push_size _ rfl, rfl, rfl⟩, _, up _ _ hDN.1, rfl, _, rfl⟩ (F.push _) (fun p hp => ⟨up _ _ (N p hp).1, (N p hp).2⟩)
    (fun i m' news' => ∃ var', news' = var' ++ rest ∧ P i m' var')
    ⟨var, rfl, h0⟩ ?_ ?_
  · rcases List.mem_cons.mp h with h | h
    · exact Nat.ne_of_lt F.ns.lt h
    · exact hDN.2.1 (List.mem_singleton.mp h).symm
  · intro i v m₁ news₁ s₁ own hi hP hInv9 hoff hsub hget hall hst F₁ N₁
    obtain ⟨var', rfl, hPv⟩ := hInv9
    refine noE (wpAny_mono (step i v s.heap.objs.size m₁ var' own s₁ _ (by simpa using hP) hPv F₁ (fun p hp => ?_) below (fun p hp => by simpa using hsub p hp) (fun h' tk' m'' var'' F' N' hP' => ?_)) (fun f s₂ h₂ => h₂) fun _ _ e => e)
    · rcases List.mem_append.mp hp with hp | hp
      · exact N₁ p (List.mem_append_right _ (List.mem_append_left _ hp))
      rcases List.mem_append.mp hp with hp | hp
      · exact N₁ p (List.mem_append_right _ (List.mem_append_right _ hp))
      · exact N₁ p (List.mem_append_left _ hp)
    · refine LoopStepU.intro (news₂ := var'' ++ rest) F' (fun p hp => ?_) (offV _ _ _ hP') ⟨var'', rfl, hP'⟩
      rcases List.mem_append.mp hp with hp | hp
      · exact N' p (List.mem_append_right _ (List.mem_append_right _ hp))
      rcases List.mem_append.mp hp with hp | hp
      · exact N' p (List.mem_append_left _ hp)
      · exact N' p (List.mem_append_right _ (List.mem_append_left _ hp))
  · intro h' tk m' news' F' N' hoff hInv9
    obtain ⟨var', rfl, hPv⟩ := hInv9
    have e : its.toArray.size = its.length := List.size_toArray
    rw [e] at hPv
    exact hQ h' tk m' var' F' N' hPv
end
end Mine
end
section
open PySem PySem.W PyProof.Rows PySem.Calls
set_option maxRecDepth 100000
set_option maxHeartbeats 4000000
local macro_rules | `(tactic| k_room) => `(tactic| (refine Mine.room ?_; (try simp only [depth_under_make, depth_under_kw, depth_in1, depth_deeper, depth_caller]); omega))
local macro_rules | `(tactic| k_units) => `(tactic| (refine Mine.cline ?_; (try simp only [Around.in1_units, Around.deeper_units, Around.mark_units]); omega))
local macro_rules | `(tactic| omega) => `(tactic| first
  | with_reducible assumption
  | decide +kernel
  | exact Mine.up_lt1 (by with_reducible assumption) (by exact rfl)
  | exact Mine.up_lt (by with_reducible assumption) (by exact rfl)
  | exact Mine.up_lt2 (by with_reducible assumption) (by exact rfl)
  | exact Mine.up_le (by with_reducible assumption) (by exact rfl)
  | exact Mine.up_eq (by with_reducible assumption) (by exact rfl)
  | exact Mine.lts_ne (by with_reducible assumption) (by k_mem)
  | exact Mine.lts_ne' (by with_reducible assumption) (by k_mem)
  | exact Mine.lts_lt (by with_reducible assumption) (by k_mem)
  | exact Mine.lts_add (by with_reducible assumption) (by k_mem)
  | exact Mine.lts_add' (by with_reducible assumption) (by k_mem)
  | exact Mine.lts_add2 (by with_reducible assumption) (by k_mem)
  | exact Mine.lts_add2' (by with_reducible assumption) (by k_mem)
  | exact Mine.lts_lta (by with_reducible assumption) (by k_mem)
  | (refine And.intro ?_ ?_ <;> omega))
local macro_rules | `(tactic| k_lt $h:ident) => `(tactic| (replace $h := Mine.lts_of $h; dsimp only [List.map] at $h:ident; (try replace $h := Mine.lts_one $h)))
local macro_rules | `(tactic| k_all) => `(tactic| first
  | exact Mine.lts_all (by with_reducible assumption) (by exact rfl)
  | exact Mine.asc_all (by with_reducible assumption) (by exact rfl))
local macro_rules | `(tactic| k_ne) => `(tactic| (refine neN ?_; (try dsimp only); first
  | exact Mine.lts_ne (by with_reducible assumption) (by k_mem)
  | exact Mine.lts_ne' (by with_reducible assumption) (by k_mem)
  | (focus (refine Mine.asc_ne (by with_reducible assumption) ?_; (repeat (first | exact Mine.Bef.here (by k_mem) | refine Mine.Bef.next ?_)); done))
  | (focus (refine Mine.asc_ne' (by with_reducible assumption) ?_; (repeat (first | exact Mine.Bef.here (by k_mem) | refine Mine.Bef.next ?_)); done))
  | omega))
theorem Mine.fresh_P_lexer : True := by
  w_top off
  trivial
section
open PySem PySem.W PyProof.Rows PySem.Calls
set_option maxRecDepth 100000
set_option maxHeartbeats 4000000
namespace Mine
section
variable {w : World} {A₀ : Around} {E : Value → Shared → Prop} {s : Shared} {base h₀ : Heap} {outer : List Env} {L : Addr} {m : Str → Option Value} {news : List (Addr × Obj)} {mg mb : Str → Option Value} {p : Program} {loose : List Str} {mean : ExcName → Option Value} {Q : Value → Shared → Prop} {d u : Nat} {gs : Option (List Code)}
  {nm : List (Str × NameKind)} {gen co : Bool} {more : List (Str × Const)} {loc gl : Addr} {cl : List (Str × Addr)} {qual : Str} {fn : Option Addr} {code : Value} {blt : Addr}
theorem ct_lexer {t : Str} {tt : Tok} (B : Below A₀ base outer h₀) (F : Fr h₀ L s.heap m) (X₀ : (hd.heap_39 w.params).In h₀) (N : News h₀ L s.heap [(171, tabObj #[])]) (T : Top p loose mean mg mb h₀) (hd' : d < 800) (hu : u < 8000) (cH : CodeHd base 175 171) (ht : t.length ≤ 4000)
    (h : ∀ h' tk' x dx pb st ds pb0 f foc fod fd fsl c oc pl cp ocp ct oct t0 t1 t2 t3 t4 u0 u1 u2 u3 u4 u5 u6 k0 tl ps, Fr h₀ L h' m → News h₀ L h' [(pb, W.listOf #[] 0), (x, instObj 119 dx), (dx, lexD w t0 t1 t2 t3 t4 1 tl (.ref st) pb), (pb0, W.listOf #[] 0), (st, instObj 119 ds), (ds, strD w u0 u1 u2 u3 u4 u5 u6 pb0 f), (f, fnO foc fod fd fsl), (c, oc), (pl, intL ((0 : Nat) : Int) k0), (cp, ocp), (ct, oct), (171, tabObj ps)] →
      ReadSpec w f (fnO foc fod fd fsl) c oc pl cp ocp ct oct t → Asc [171, ct, cp, pl, c, f, ds, st, dx, x, pb] → KeepBut s.heap h' [171] → (∀ q ob, s.heap.get? q = some ob → q ≠ 171 → Off q [pb, x, dx, pb0, st, ds, f, c, pl, cp, ct]) → Q (.ref x) { s with heap := h', toks := tk' }) :
    wpAny (model prog w) (arnd d u (envL nm gen co more loc gl cl qual fn code L blt :: outer) gs) (call (.ref 176) [.str t tt] []) Q E s := by
  have hkk0 : (fun (_ : Params → Frag) (_ : OpenLaw) => True) hd.heap_39 PySem.Challenge.rw_sc0065_01 := by k_fill; trivial
  clear hkk0
  refine wpAny_call ?_
  (first
    | (refine' code_defG (by k_asm) (by k_asm) (by k_asm) (by k_asm) (by k_asm) ?kA ?kF ?kK ?k6 ?k7 ?k8 ?k9 ?kB ?_ ?c2 ?c3 ?c4 ?c5; (case kA => exact rfl); (case kF => exact rfl); (case kK => exact rfl); (case k6 => k_is); (case k7 => k_is); (case k8 => k_room); (case k9 => first | exact BindsTo.of_eq rfl | exact binds_K (by k_in) rfl (by k_is) rfl rfl rfl | (refine' kp_binds ?kx ?ke; (case kx => k_in); (case ke => exact fun _ => rfl)) | fail "k_enter: no rule for these arguments"); (case c5 => decide); (case kB => exact locs rfl); (case c2 => exact rfl); (case c3 => exact rfl); (case c4 => exact rfl); k_whole; intro g' L' h' FG' F' N' B' X' T' kG'; (try dsimp only); (try k_lift B'); (try k_fold))
    | (refine' Mine.code_defCG (by k_asm) (by k_asm) (by k_asm) (by k_asm) (by k_asm) ?kA ?kF ?kK ?k6 ?k7 ?k8 ?k9 ?kB ?kD ?_ ?c2 ?c3 ?c4; (case kA => exact rfl); (case kF => exact rfl); (case kK => exact rfl); (case k6 => k_is); (case k7 => k_is); (case k8 => k_room); (case k9 => first | exact BindsTo.of_eq rfl | exact binds_K (by k_in) rfl (by k_is) rfl rfl rfl | (refine' kp_binds ?kx ?ke; (case kx => k_in); (case ke => exact fun _ => rfl)) | fail "k_enter: no rule for these arguments"); (case kB => exact rfl); (case kD => decide +kernel); (case c2 => exact rfl); (case c3 => exact rfl); (case c4 => exact rfl); k_whole; intro g' L' h' tk' cells' FG' F' N' Y' B' X' T' l1 kG'; (try k_lt l1); k_cells Y'; (try simp only [List.cons_append, List.nil_append] at N'); (try dsimp only); (try k_lift B'); (try k_fold)))
  (with_reducible rename GSub _ _ _ => kG0)
  k_steps
  (with_reducible rename News _ _ _ _ => kN)
  (with_reducible rename Fr _ _ _ _ => kF)
  refine' h _ _ _ _ _ _ _ _ _ _ _ _ _ _ _ _ _ _ _ _ _ _ _ _ _ _ _ _ _ _ _ _ _ _ _ kF kN ?rd ?ord ?kp ?fr
  case ord => ((simp only [Asc]); (repeat' apply And.intro); all_goals (first | exact True.intro | omega))
  case kp => exact keepBut_of kG0 (by assumption)
  case fr =>
    (with_reducible rename News _ _ _ _ => kN0)
    clear kN0
    (with_reducible rename News _ _ _ _ => kN1)
    intro q ob e n
    have n' : q ∉ [(171 : Addr)] := by simpa using n
    simp only [Off, and_true]
    (repeat' apply And.intro)
    all_goals exact fresh_of kG0 kN1 (by k_mem) q ob e n'
  case rd =>
    clear kN kF kG0 h F N B T X₀
    (simp only [Lts, and_true] at *)
    intro A₀ E s base h₀ outer L m mg mb p loose mean Q d u gs nm gen co more loc gl cl qual fn code blt k tk t1 B F X₀ N T hd' hu hk h
    refine wpAny_call ?_
    ((refine' Mine.code_nestG (by k_asm) (by k_asm) (by k_asm) (by k_asm) (by k_asm) ?kA ?kF ?kK ?k6 ?k7 ?k8 ?k9 ?kB ?_ ?c2 ?c3 ?c4 ?c5; (case kA => exact rfl); (case kF => exact rfl); (case kK => exact rfl); (case k6 => k_mem); (case k7 => exact codeRec_news (by k_asm) (by k_mem) (by assumption) (by assumption)); (case k8 => k_room); (case k9 => exact BindsTo.of_eq rfl); (case c5 => decide); (case kB => exact locs rfl); (case c2 => exact rfl); (case c3 => exact rfl); (case c4 => exact rfl); k_whole; intro g' L' h' FG' F' N' B' X' T' kG'; (try dsimp only); (try k_lift B'); (try k_fold)))
    (with_reducible rename GSub _ _ _ => kG0)
    k_steps
    (with_reducible rename News _ _ _ _ => kN)
    (with_reducible rename Fr _ _ _ _ => kF)
    have e := sgn_slice (x := t) (k := k) (a := [(k : Int)].getD (Int.toNat 0) 0 + 1 - 1) (b := [(k : Int)].getD (Int.toNat 0) 0 + 1) (by simp) (by simp)
    (simp only [List.getD_cons_zero, Int.toNat_zero] at e kN ⊢)
    rw [e]
    exact h _ _ _ _ kF kN (keepBut_of kG0 (by assumption))
end
end Mine
end
section
open PySem PySem.W PyProof.Rows PySem.Calls
set_option maxRecDepth 100000
set_option maxHeartbeats 4000000
namespace Mine
local macro_rules | `(tactic| walk_at "callWith") => `(tactic| (k_here; (show wpAny _ _ (callWith _ (Value.ref _) _ _ []) _ _ _); k_dflt (refine' callWith_F ?k1 ?_; (case k1 => exact FnAt.of (by k_asm) (by k_mem)); k_whole)))
local macro_rules | `(tactic| walk_at "callWith ref") => `(tactic| (k_here; k_dflt (refine' callWith_F ?k1 ?_; (case k1 => exact FnAt.of (by k_asm) (by k_mem)); k_whole)))
local macro_rules | `(tactic| walk_at "FnAt") => `(tactic| (k_dflt (exact FnAt.of (by k_asm) (by k_mem))))
local macro_rules | `(tactic| walk_at "call ref") => `(tactic| (k_here; k_dflt (refine' use_read ?kr (by k_asm) (by k_asm) (by k_asm) (by k_asm) (by k_asm) ?m1 ?m2 ?m3 ?m4 ?U ?d1 ?u1 ?k9 ?_; (case kr => assumption); (case m1 => k_mem); (case m2 => k_mem); (case m3 => k_mem); (case m4 => k_mem); (case U => k_updF); (case d1 => ((try dsimp only); omega)); (case u1 => ((try dsimp only); omega)); (case k9 => omega); intro h' tk' t' t'' F' N'; (try dsimp only at N'))))
local macro_rules | `(tactic| walk_at "call builtin:list.pop") => `(tactic| (k_here; k_dflt (refine' pop0 (by k_asm) (by k_asm) ?U ?z ?_; (case U => k_upd); (case z => omega); intro h' F' N'; (try dsimp only [List.nil_append, List.cons_append] at N'))))
theorem fresh_P_rc : True := by
  w_top off
  trivial
section
section
variable {w : World} {A₀ : Around} {E : Value → Shared → Prop} {s : Shared} {base h₀ : Heap} {outer : List Env} {L : Addr} {m : Str → Option Value} {news : List (Addr × Obj)} {mg mb : Str → Option Value} {p : Program} {loose : List Str} {mean : ExcName → Option Value} {Q : Value → Shared → Prop} {d u : Nat} {gs : Option (List Code)}
  {nm : List (Str × NameKind)} {gen co : Bool} {more : List (Str × Const)} {loc gl : Addr} {cl : List (Str × Addr)} {qual : Str} {fn : Option Addr} {code : Value} {blt : Addr}
theorem ct_rc {x dx pb st ds pb0 f : Addr} {foc : Value} {fod : Option Addr} {fd : FuncData} {fsl : Array (Option Value)} {c : Addr} {oc : Obj} {pl cp : Addr} {ocp : Obj} {ct : Addr} {oct : Obj} {t0 t1 t2 t3 t4 u0 u1 u2 u3 u4 u5 u6 tl tk : Tok} {ws : Array Value} {nw : Nat} {text : Str} {ln : Int} {k : Nat} {R : Result → Shared → Prop} (B : Below A₀ base outer h₀) (F : Fr h₀ L s.heap m) (X₀ : (hd.heap_39 w.params).In h₀) (N : News h₀ L s.heap [(pb, W.listOf ws nw), (x, instObj 119 dx), (dx, lexD w t0 t1 t2 t3 t4 ln tl (.ref st) pb), (st, instObj 119 ds), (ds, strD w u0 u1 u2 u3 u4 u5 u6 pb0 f), (f, fnO foc fod fd fsl), (c, oc), (pl, intL ((k : Nat) : Int) tk), (cp, ocp), (ct, oct)]) (T : Top p loose mean mg mb h₀) (hd' : d < 800) (hu : u < 8000) (hR : ReadSpec w f (fnO foc fod fd fsl) c oc pl cp ocp ct oct text) (hA : Asc [ct, cp, pl, c, f, ds, st, dx, x, pb]) (hk : k ≤ 3000) (hl : 0 ≤ ln ∧ ln ≤ 5000)
    (h : ∀ h' tk' tl' tk'' t', Fr h₀ L h' m → News h₀ L h' [(pb, W.listOf ws nw), (x, instObj 119 dx), (dx, lexD w t0 t1 t2 t3 t4 (if sgn text k = "\n" then ln + 1 else ln) tl' (.ref st) pb), (st, instObj 119 ds), (ds, strD w u0 u1 u2 u3 u4 u5 u6 pb0 f), (f, fnO foc fod fd fsl), (c, oc), (pl, intL ((k + 1 : Nat) : Int) tk''), (cp, ocp), (ct, oct)] → KeepBut s.heap h' [pb, x, dx, st, ds, f, c, pl, cp, ct] → R (.ok (.ret (.str (sgn text k) t'))) { s with heap := h', toks := tk' }) :
    codeAny (model prog w) (arnd d u (envL nm gen co more loc gl cl qual fn code L blt :: outer) gs) (.call (.ref 102) ⟨[.ref x], []⟩) R s := by
  have hkk0 : (fun (_ : Params → Frag) (_ : OpenLaw) => True) hd.heap_39 PySem.Challenge.rw_sc0065_01 := by k_fill; trivial
  clear hkk0
  (first
    | (refine' code_defG (by k_asm) (by k_asm) (by k_asm) (by k_asm) (by k_asm) ?kA ?kF ?kK ?k6 ?k7 ?k8 ?k9 ?kB ?_ ?c2 ?c3 ?c4 ?c5; (case kA => exact rfl); (case kF => exact rfl); (case kK => exact rfl); (case k6 => k_is); (case k7 => k_is); (case k8 => k_room); (case k9 => first | exact BindsTo.of_eq rfl | exact binds_K (by k_in) rfl (by k_is) rfl rfl rfl | (refine' kp_binds ?kx ?ke; (case kx => k_in); (case ke => exact fun _ => rfl)) | fail "k_enter: no rule for these arguments"); (case c5 => decide); (case kB => exact locs rfl); (case c2 => exact rfl); (case c3 => exact rfl); (case c4 => exact rfl); k_whole; intro g' L' h' FG' F' N' B' X' T' kG'; (try dsimp only); (try k_lift B'); (try k_fold))
    | (refine' Mine.code_defCG (by k_asm) (by k_asm) (by k_asm) (by k_asm) (by k_asm) ?kA ?kF ?kK ?k6 ?k7 ?k8 ?k9 ?kB ?kD ?_ ?c2 ?c3 ?c4; (case kA => exact rfl); (case kF => exact rfl); (case kK => exact rfl); (case k6 => k_is); (case k7 => k_is); (case k8 => k_room); (case k9 => first | exact BindsTo.of_eq rfl | exact binds_K (by k_in) rfl (by k_is) rfl rfl rfl | (refine' kp_binds ?kx ?ke; (case kx => k_in); (case ke => exact fun _ => rfl)) | fail "k_enter: no rule for these arguments"); (case kB => exact rfl); (case kD => decide +kernel); (case c2 => exact rfl); (case c3 => exact rfl); (case c4 => exact rfl); k_whole; intro g' L' h' tk' cells' FG' F' N' Y' B' X' T' l1 kG'; (try k_lt l1); k_cells Y'; (try simp only [List.cons_append, List.nil_append] at N'); (try dsimp only); (try k_lift B'); (try k_fold)))
  (with_reducible rename GSub _ _ _ => kG0)
  k_steps
  all_goals (
    (with_reducible rename News _ _ _ _ => kN)
    (with_reducible rename Fr h₀ _ _ _ => kF)
    exact h _ _ _ _ _ kF (by
      first
      | (rw [if_pos (eq_of_beq (show (sgn text k == PySem.Str.ofString "\n") = true by with_reducible assumption))]; exact kN)
      | (rw [if_neg (ne_of_beq_false (show (sgn text k == PySem.Str.ofString "\n") = false by with_reducible assumption))]; exact kN)) (keepBut_of kG0 (by assumption)))
end
end
section
section
variable {w : World} {A₀ : Around} {E : Value → Shared → Prop} {s : Shared} {base h₀ : Heap} {outer : List Env} {L : Addr} {m : Str → Option Value} {news : List (Addr × Obj)} {mg mb : Str → Option Value} {p : Program} {loose : List Str} {mean : ExcName → Option Value} {Q : Value → Shared → Prop} {d u : Nat} {gs : Option (List Code)}
  {nm : List (Str × NameKind)} {gen co : Bool} {more : List (Str × Const)} {loc gl : Addr} {cl : List (Str × Addr)} {qual : Str} {fn : Option Addr} {code : Value} {blt : Addr}
/-- a goal laid aside -/
noncomputable def Halt (P : Prop) : Prop := P
theorem halt {P : Prop} (h : Halt P) : P := h
theorem cit_for {x dx pb st ds pb0 f : Addr} {foc : Value} {fod : Option Addr} {fd : FuncData} {fsl : Array (Option Value)} {c : Addr} {oc : Obj} {pl cp : Addr} {ocp : Obj} {ct : Addr} {oct : Obj} {t0 t1 t2 t3 t4 u0 u1 u2 u3 u4 u5 u6 ti : Tok} {ws : Array Value} {nw : Nat} {text : Str} {I q : Addr} {R : Result → Shared → Prop} {body : List Stmt} {px : Pos} {m₀ : Str → Option Value} {n₀ k₀ : Nat} {ln₀ : Int} {tl₀ tk₀ : Tok} (J : Nat → (Str → Option Value) → Nat → Int → Prop)
    (B : Below A₀ base outer h₀) (F : Fr h₀ L s.heap m₀) (X₀ : (hd.heap_39 w.params).In h₀) (N : News h₀ L s.heap [(I, citObj (.ref q) (.str "" ti)), (q, methodObj (.ref 102) (.ref x)), (pb, W.listOf ws nw), (x, instObj 119 dx), (dx, lexD w t0 t1 t2 t3 t4 ln₀ tl₀ (.ref st) pb), (st, instObj 119 ds), (ds, strD w u0 u1 u2 u3 u4 u5 u6 pb0 f), (f, fnO foc fod fd fsl), (c, oc), (pl, intL ((k₀ : Nat) : Int) tk₀), (cp, ocp), (ct, oct)]) (T : Top p loose mean mg mb h₀) (hd' : d < 790) (hu : u < 7900) (hR : ReadSpec w f (fnO foc fod fd fsl) c oc pl cp ocp ct oct text) (hA : Asc [ct, cp, pl, c, f, ds, st, dx, x, pb]) (hA2 : @LT.lt Nat _ pb q ∧ @LT.lt Nat _ q I) (hJ : J n₀ m₀ k₀ ln₀)
    (hloc : (envL nm gen co more L gl cl qual fn code L blt).kindOf "ch" = some .local)
    (turn : ∀ n m' k ln, J n m' k ln → (k ≤ 3000 ∧ 0 ≤ ln ∧ ln ≤ 5000) ∧
      ((sgn text k ≠ "" ∧ ∀ Q' : Flow → Shared → Prop, (∀ v s₃, R (.ok (.ret v)) s₃ → Q' (.ret v) s₃) → (∀ fl, fl = .next ∨ fl = .cont → ∀ n' m'' k' ln' h'' tk'' tl tk, n' < n → J n' m'' k' ln' → Fr h₀ L h'' m'' → News h₀ L h'' [(I, citObj (.ref q) (.str "" ti)), (q, methodObj (.ref 102) (.ref x)), (pb, W.listOf ws nw), (x, instObj 119 dx), (dx, lexD w t0 t1 t2 t3 t4 ln' tl (.ref st) pb), (st, instObj 119 ds), (ds, strD w u0 u1 u2 u3 u4 u5 u6 pb0 f), (f, fnO foc fod fd fsl), (c, oc), (pl, intL ((k' : Nat) : Int) tk), (cp, ocp), (ct, oct)] → Q' fl { s with heap := h'', toks := tk'' }) →
        ∀ h' tk' t' tl tk, Fr h₀ L h' (fun y => if y = "ch" then some (.str (sgn text k) t') else m' y) → News h₀ L h' [(I, citObj (.ref q) (.str "" ti)), (q, methodObj (.ref 102) (.ref x)), (pb, W.listOf ws nw), (x, instObj 119 dx), (dx, lexD w t0 t1 t2 t3 t4 (if sgn text k = "\n" then ln + 1 else ln) tl (.ref st) pb), (st, instObj 119 ds), (ds, strD w u0 u1 u2 u3 u4 u5 u6 pb0 f), (f, fnO foc fod fd fsl), (c, oc), (pl, intL ((k + 1 : Nat) : Int) tk), (cp, ocp), (ct, oct)] →
        wpAny (model prog w) (arnd d u (envL nm gen co more L gl cl qual fn code L blt :: outer) gs) (execs body (envL nm gen co more L gl cl qual fn code L blt))
          Q' (fun _ _ => False) { s with heap := h', toks := tk' }) ∨
       (sgn text k = "" ∧ ∀ h' tk' ln' tl tk, Fr h₀ L h' m' → News h₀ L h' [(pb, W.listOf ws nw), (x, instObj 119 dx), (dx, lexD w t0 t1 t2 t3 t4 ln' tl (.ref st) pb), (st, instObj 119 ds), (ds, strD w u0 u1 u2 u3 u4 u5 u6 pb0 f), (f, fnO foc fod fd fsl), (c, oc), (pl, intL ((k + 1 : Nat) : Int) tk), (cp, ocp), (ct, oct)] → (ln' = ln) → R (.ok .next) { s with heap := h', toks := tk' }))) :
    codeAny (model prog w) (arnd d u (envL nm gen co more L gl cl qual fn code L blt :: outer) gs) (.forLoop (.Name "ch" px) (.ref I) body [] (envL nm gen co more L gl cl qual fn code L blt)) R s := by
  refine codeAny_forLoop (I := fun n s' => ∃ m' k ln h tk tl tkk, J n m' k ln ∧ s' = { s with heap := h, toks := tk } ∧ Fr h₀ L h m' ∧ News h₀ L h [(I, citObj (.ref q) (.str "" ti)), (q, methodObj (.ref 102) (.ref x)), (pb, W.listOf ws nw), (x, instObj 119 dx), (dx, lexD w t0 t1 t2 t3 t4 ln tl (.ref st) pb), (st, instObj 119 ds), (ds, strD w u0 u1 u2 u3 u4 u5 u6 pb0 f), (f, fnO foc fod fd fsl), (c, oc), (pl, intL ((k : Nat) : Int) tkk), (cp, ocp), (ct, oct)]) ?_ n₀ ⟨m₀, k₀, ln₀, _, _, tl₀, tk₀, hJ, rfl, F, N⟩
  intro n s' hInv9
  refine wrapG ?_
  intro Pw9 hPw9
  obtain ⟨m', k, ln, h, tk, tl, tkk, hJ, rfl, F, N⟩ := hInv9
  refine hPw9 ?_
  refine wrapG ?_
  intro Pw9 hPw9
  obtain ⟨⟨hk, hl1, hl2⟩, hturn⟩ := turn n m' k ln hJ
  refine hPw9 ?_
  have hkk0 : (fun (_ : Params → Frag) (_ : OpenLaw) => True) hd.heap_39 PySem.Challenge.rw_sc0065_01 := by k_fill; trivial
  clear hkk0
  have hcall : ∀ (R' : Result → Shared → Prop), (∀ h' tk' tl' tk'' t', Fr h₀ L h' m' → News h₀ L h' [(I, citObj (.ref q) (.str "" ti)), (q, methodObj (.ref 102) (.ref x)), (pb, W.listOf ws nw), (x, instObj 119 dx), (dx, lexD w t0 t1 t2 t3 t4 (if sgn text k = "\n" then ln + 1 else ln) tl' (.ref st) pb), (st, instObj 119 ds), (ds, strD w u0 u1 u2 u3 u4 u5 u6 pb0 f), (f, fnO foc fod fd fsl), (c, oc), (pl, intL ((k + 1 : Nat) : Int) tk''), (cp, ocp), (ct, oct)] → R' (.ok (.ret (.str (sgn text k) t'))) { s with heap := h', toks := tk' }) →
      codeAny (model prog w) (arnd d (u + 1) (envL nm gen co more L gl cl qual fn code L blt :: outer) gs) (.call (.ref 102) ⟨[.ref x], []⟩) R' { s with heap := h, toks := tk } := by
    intro R' hR'
    refine ct_rc (s := { s with heap := h, toks := tk }) B F X₀ (newsSub N (fun p hp => List.mem_cons_of_mem _ (List.mem_cons_of_mem _ hp))) T (by lia) (by lia) hR hA hk ⟨hl1, hl2⟩ fun h' tk' tl' tk'' t' F' N' hk' => hR' h' tk' tl' tk'' t' F' ?_
    refine newsAfter (h := h) N hk' N' fun p hp => ?_
    rcases List.mem_cons.mp hp with rfl | hp
    · exact .inr ⟨List.mem_cons_self .., Off.not (Asc.offUp (l := [_, _, _, _, _, _, _, _, _]) hA (Nat.lt_trans hA2.1 hA2.2))⟩
    · rcases List.mem_cons.mp hp with rfl | hp
      · exact .inr ⟨List.mem_cons_of_mem _ (List.mem_cons_self ..), Off.not (Asc.offUp (l := [_, _, _, _, _, _, _, _, _]) hA hA2.1)⟩
      · exact .inl hp
  have hI := (N (I, citObj (.ref q) (.str "" ti)) (by k_mem)).1
  have hq := (N (q, methodObj (.ref 102) (.ref x)) (by k_mem)).1
  obtain ⟨o102, e102, fd102, hd102⟩ : ∃ o, (hd.heap_39 w.params).lookup 102 = some o ∧ ∃ fd, o.data = .func fd := ⟨_, by k_is, _, rfl⟩
  have hf102 := (X₀.keeps F.keep) _ _ e102
  rcases hturn with ⟨hne, hb⟩ | ⟨he, hb⟩
  · refine cit_next_item (s := { s with heap := h, toks := tk }) hI hq hf102 hd102 (call_meth (s := { s with heap := h, toks := tk }) (h₀ := h₀) (L := L) N (by simp) (hcall _ fun h' tk' tl' tk'' t' F' N' => ⟨_, _, rfl, hne, (N' (I, citObj (.ref q) (.str "" ti)) (by k_mem)).1, ?_⟩))
    refine wpAny_assign_Name ?_
    refine wpAny_storeName_local hloc F'.ns (fun h₂ hn hs => ?_) rfl
    exact wpAny_mono (hb _ (fun v s₃ hr => hr) (fun fl hfl n' m'' k' ln' h'' tk'' tl tk a b e g => by rcases hfl with rfl | rfl <;> exact ⟨n', a, m'', k', ln', h'', tk'', tl, tk, b, rfl, e, g⟩) h₂ _ t' tl' tk'' (F'.set hn hs) (N'.set hs)) (fun _ _ q => q) fun _ _ e => e.elim
  · refine cit_next_end (s := { s with heap := h, toks := tk }) rfl hI hq hf102 hd102 (call_meth (s := { s with heap := h, toks := tk }) (h₀ := h₀) (L := L) N (by simp) (hcall _ fun h' tk' tl' tk'' t' F' N' => ⟨t', by rw [he], (N' (I, citObj (.ref q) (.str "" ti)) (by k_mem)).1, (N' (q, methodObj (.ref 102) (.ref x)) (by k_mem)).1, F'.keep _ _ (X₀ _ _ e102), fun h'' hk'' => ?_⟩))
    have e0 : (if sgn text k = "\n" then ln + 1 else ln) = ln := by rw [he]; exact if_neg (by decide)
    rw [e0] at N'
    have hIn := (N' (I, citObj (.ref q) (.str "" ti)) (by k_mem)).2
    have hne : ∀ p ∈ [(pb, W.listOf ws nw), (x, instObj 119 dx), (dx, lexD w t0 t1 t2 t3 t4 ln tl' (.ref st) pb), (st, instObj 119 ds), (ds, strD w u0 u1 u2 u3 u4 u5 u6 pb0 f), (f, fnO foc fod fd fsl), (c, oc), (pl, intL ((k + 1 : Nat) : Int) tk''), (cp, ocp), (ct, oct)], p.1 ≠ I := fun p hp e => Off.not (Asc.offUp (l := [_, _, _, _, _, _, _, _, _]) hA (Nat.lt_trans hA2.1 hA2.2)) (by have q := List.mem_map_of_mem (f := Prod.fst) hp; rw [e] at q; exact q)
    refine wpAny_execs_nil (hb h'' _ ln tl' tk'' ⟨F'.ns.at' fun o e => hk'' L o (Ne.symm hIn.1) e, fun b o e => hk'' b o (fun z => by rw [z, hIn.2] at e; cases e) (F'.keep b o e), F'.above⟩ (fun p hp => ⟨hk'' _ _ (hne p hp) (N' p (List.mem_cons_of_mem _ (List.mem_cons_of_mem _ hp))).1, (N' p (List.mem_cons_of_mem _ (List.mem_cons_of_mem _ hp))).2⟩) rfl)

theorem use_rc {x dx pb st ds pb0 f : Addr} {foc : Value} {fod : Option Addr} {fd : FuncData} {fsl : Array (Option Value)} {c : Addr} {oc : Obj} {pl cp : Addr} {ocp : Obj} {ct : Addr} {oct : Obj} {t0 t1 t2 t3 t4 u0 u1 u2 u3 u4 u5 u6 ti : Tok} {ws : Array Value} {nw : Nat} {text : Str} {I q : Addr} {ln : Int} {tl tk : Tok} {k : Nat} (hR : ReadSpec w f (fnO foc fod fd fsl) c oc pl cp ocp ct oct text) (B : Below A₀ base outer h₀) (F : Fr h₀ L s.heap m) (X₀ : (hd.heap_39 w.params).In h₀) (N : News h₀ L s.heap [(I, citObj (.ref q) (.str "" ti)), (q, methodObj (.ref 102) (.ref x)), (pb, W.listOf ws nw), (x, instObj 119 dx), (dx, lexD w t0 t1 t2 t3 t4 ln tl (.ref st) pb), (st, instObj 119 ds), (ds, strD w u0 u1 u2 u3 u4 u5 u6 pb0 f), (f, fnO foc fod fd fsl), (c, oc), (pl, intL ((k : Nat) : Int) tk), (cp, ocp), (ct, oct)]) (T : Top p loose mean mg mb h₀) (hd' : d < 790) (hu : u < 7900) (hA : Asc [ct, cp, pl, c, f, ds, st, dx, x, pb]) (hA2 : @LT.lt Nat _ pb q ∧ @LT.lt Nat _ q I) (hk : k ≤ 3000) (hl : 0 ≤ ln ∧ ln ≤ 5000)
    (h : ∀ h' tk' tl' tk'' t', Fr h₀ L h' m → News h₀ L h' [(I, citObj (.ref q) (.str "" ti)), (q, methodObj (.ref 102) (.ref x)), (pb, W.listOf ws nw), (x, instObj 119 dx), (dx, lexD w t0 t1 t2 t3 t4 (if sgn text k = "\n" then ln + 1 else ln) tl' (.ref st) pb), (st, instObj 119 ds), (ds, strD w u0 u1 u2 u3 u4 u5 u6 pb0 f), (f, fnO foc fod fd fsl), (c, oc), (pl, intL ((k + 1 : Nat) : Int) tk''), (cp, ocp), (ct, oct)] → Q (.str (sgn text k) t') { s with heap := h', toks := tk' }) :
    wpAny (model prog w) (arnd d u (envL nm gen co more loc gl cl qual fn code L blt :: outer) gs) (call (.ref 102) [.ref x]) Q E s := by
  refine wpAny_call (ct_rc B F X₀ (newsSub N (fun p hp => List.mem_cons_of_mem _ (List.mem_cons_of_mem _ hp))) T (by lia) (by lia) hR hA hk hl fun h' tk' tl' tk'' t' F' N' hk' => h h' tk' tl' tk'' t' F' ?_)
  refine newsAfter N hk' N' fun p hp => ?_
  rcases List.mem_cons.mp hp with rfl | hp
  · exact .inr ⟨List.mem_cons_self .., Off.not (Asc.offUp (l := [_, _, _, _, _, _, _, _, _]) hA (Nat.lt_trans hA2.1 hA2.2))⟩
  · rcases List.mem_cons.mp hp with rfl | hp
    · exact .inr ⟨List.mem_cons_of_mem _ (List.mem_cons_self ..), Off.not (Asc.offUp (l := [_, _, _, _, _, _, _, _, _]) hA hA2.1)⟩
    · exact .inl hp
end
end
theorem fresh_P_gt2 : True := by
  w_top off
  trivial
section
section
variable {w : World} {A₀ : Around} {E : Value → Shared → Prop} {s : Shared} {base h₀ : Heap} {outer : List Env} {L : Addr} {m : Str → Option Value} {news : List (Addr × Obj)} {mg mb : Str → Option Value} {p : Program} {loose : List Str} {mean : ExcName → Option Value} {Q : Value → Shared → Prop} {d u : Nat} {gs : Option (List Code)}
  {nm : List (Str × NameKind)} {gen co : Bool} {more : List (Str × Const)} {loc gl : Addr} {cl : List (Str × Addr)} {qual : Str} {fn : Option Addr} {code : Value} {blt : Addr}

theorem iter2_K {prog : Program} {w : World} {A : Around} {E : Value → Shared → Prop} {s : Shared} {h₀ : Heap} {L q : Addr} {m : Str → Option Value} {news : List (Addr × Obj)} {f self st : Value} {Q : Value → Shared → Prop} (F : Fr h₀ L s.heap m) (N : News h₀ L s.heap news) (hq : (q, methodObj f self) ∈ news)
    (h : ∀ I h', Fr h₀ L h' m → News h₀ L h' ((I, citObj (.ref q) st) :: news) → (∀ p ∈ news, p.1 < I) → Q (.ref I) { s with heap := h' }) : wpAny (model prog w) A (call (.builtin "iter") [.ref q, st]) Q E s :=
  call_iter2 (N _ hq).1 (h _ _ (F.push _) (N.push F _) fun p hp => Heap.lt_size (N p hp).1)
theorem in_strT {prog : Program} {w : World} {A : Around} {E : Value → Shared → Prop} {s : Shared} {x y : Str} {t u : Tok} {Q : Value → Shared → Prop} (b : Bool) (hb : (!(Builtin.Str.occurrences x y 0 x.length 1).isEmpty) = b) (h : Q (.bool b) s) : wpAny (model prog w) A (compareOp .In (.str y u) (.str x t)) Q E s :=
  in_str (by rw [hb]; exact h)
theorem eq_strT {prog : Program} {w : World} {A : Around} {E : Value → Shared → Prop} {s : Shared} {x y : Str} {t u : Tok} {Q : Value → Shared → Prop} (b : Bool) (hb : (x == y) = b) (h : Q (.bool b) s) : wpAny (model prog w) A (compareOp .Eq (.str x t) (.str y u)) Q E s :=
  eq_str (by rw [hb]; exact h)
theorem sgn_cons {x : Str} {k c : Nat} {r : List Nat} (h : x.cps.toList.drop k = c :: r) : sgn x k = ⟨#[c]⟩ ∧ x.cps.toList.drop (k + 1) = r := by
  refine ⟨?_, ?_⟩
  · unfold sgn; rw [h]; rfl
  · rw [← List.drop_drop, h]; rfl
theorem sgn_nil {x : Str} {k : Nat} (h : x.cps.toList.drop k = []) : sgn x k = "" := by
  unfold sgn; rw [h]; rfl
/-- each sign behind a backslash -/
noncomputable def esc (l : List Nat) : List Nat := l.flatMap fun c => [92, c]
/-- what a token is read off: the signs ahead, the token, how many signs it takes, the feeds in them -/
inductive TokAt : List Nat → List Nat → Nat → Nat → Prop
  | quoted (body rest : List Nat) : (∀ c ∈ body, c ≠ 34 ∧ c ≠ 92) → TokAt (34 :: (body ++ 34 :: rest)) body (body.length + 2) (body.count 10)
  | escaped (c : Nat) (body rest : List Nat) : TokAt (92 :: c :: (esc body ++ 10 :: rest)) (c :: body) (2 * body.length + 3) ((c :: body).count 10 + 1)
  | done : TokAt [] [] 1 0
noncomputable def outJ (text : Str) (l : List Nat) (cn nl kE : Nat) (lE : Int) (m₀ : Str → Option Value) (n : Nat) (m' : Str → Option Value) (k : Nat) (ln : Int) : Prop :=
  (∃ X, m' = fun (y : Str) => if y = PySem.Str.ofString "ch" then X else m₀ y) ∧ text.cps.toList.drop k = List.replicate n 10 ++ l ∧ n ≤ 1 ∧ k + n + cn = kE ∧ ln + n + nl = lE ∧ 0 ≤ ln
theorem outJ.start {text : Str} {l : List Nat} {cn nl kE k n : Nat} {lE ln : Int} {m₀ : Str → Option Value} (h : text.cps.toList.drop k = List.replicate n 10 ++ l) (hn : n ≤ 1) (h1 : k + n + cn = kE) (h2 : ln + n + nl = lE) (h3 : 0 ≤ ln) : outJ text l cn nl kE lE m₀ n m₀ k ln :=
  ⟨⟨m₀ (PySem.Str.ofString "ch"), funext fun y => by by_cases e : y = PySem.Str.ofString "ch" <;> simp [e]⟩, h, hn, h1, h2, h3⟩
/-- a frame's map, its token and its sign set -/
noncomputable abbrev mTok (m₀ : Str → Option Value) (tokl : List Nat) (tt : Tok) (X : Option Value) : Str → Option Value := fun y => if y = PySem.Str.ofString "token" then some (.str ⟨tokl.toArray⟩ tt) else if y = PySem.Str.ofString "ch" then X else m₀ y
/-- within a word: what is left of it is cs (of it each sign as itself, or behind a backslash), then the end sign -/
noncomputable def inJ (text : Str) (e : List Nat → List Nat) (a st nl₁ : Nat) (tok : List Nat) (rest : List Nat) (ok : Nat → Prop) (kE : Nat) (lE : Int) (m₀ : Str → Option Value) (n : Nat) (m' : Str → Option Value) (k : Nat) (ln : Int) : Prop :=
  ∃ cs tokl tt X, m' = mTok m₀ tokl tt X ∧ text.cps.toList.drop k = e cs ++ st :: rest ∧ cs.length = n ∧ (∀ c ∈ cs, ok c) ∧ tokl ++ cs = tok ∧ k + a * cs.length + 1 = kE ∧ ln + cs.count 10 + nl₁ = lE ∧ 0 ≤ ln
theorem mTok_start {m₀ : Str → Option Value} {tokl : List Nat} {tt : Tok} (h : m₀ (PySem.Str.ofString "token") = some (.str ⟨tokl.toArray⟩ tt)) : m₀ = mTok m₀ tokl tt (m₀ (PySem.Str.ofString "ch")) := funext fun y => by
  unfold mTok
  by_cases e : y = PySem.Str.ofString "token"
  · simp [e, h]
  · rw [if_neg e]
    by_cases e2 : y = PySem.Str.ofString "ch"
    · rw [if_pos e2, e2]
    · rw [if_neg e2]
theorem mTok_set {m₀ : Str → Option Value} {tokl tokl' : List Nat} {tt tt' : Tok} {X c : Option Value} {v : Value} (hv : v = .str ⟨tokl'.toArray⟩ tt') :
    (fun y => if y = PySem.Str.ofString "token" then some v else (fun y => if y = PySem.Str.ofString "ch" then c else mTok m₀ tokl tt X y) y) = mTok m₀ tokl' tt' c := funext fun y => by
  subst hv
  unfold mTok
  by_cases e : y = PySem.Str.ofString "token"
  · simp [e]
  · by_cases e2 : y = PySem.Str.ofString "ch" <;> simp [e, e2]
theorem mTok_set2 {m₀ : Str → Option Value} {tokl tokl' : List Nat} {tt tt' : Tok} {X c c2 : Option Value} {v : Value} (hv : v = .str ⟨tokl'.toArray⟩ tt') :
    (fun y => if y = PySem.Str.ofString "token" then some v else (fun y => if y = PySem.Str.ofString "ch" then c else (fun y => if y = PySem.Str.ofString "ch" then c2 else mTok m₀ tokl tt X y) y) y) = mTok m₀ tokl' tt' c := funext fun y => by
  subst hv
  unfold mTok
  by_cases e : y = PySem.Str.ofString "token"
  · simp [e]
  · by_cases e2 : y = PySem.Str.ofString "ch" <;> simp [e, e2]
theorem str_push (l : List Nat) (c : Nat) : (⟨l.toArray⟩ : Str) ++ ⟨#[c]⟩ = ⟨(l ++ [c]).toArray⟩ := by
  apply Str.ext'
  rw [Str.cps_append]
  simp
theorem sign_ne {c d : Nat} (h : c ≠ d) : ((⟨#[c]⟩ : Str) == ⟨#[d]⟩) = false := by
  rw [beq_eq_false_iff_ne]
  intro e
  have := congrArg (fun x : Str => x.cps) e
  simp at this
  exact h this
theorem feed_if (a : Nat) (cs : List Nat) (ln : Int) : (if (⟨#[a]⟩ : Str) = PySem.Str.ofString "
" then ln + 1 else ln) + ((cs.count 10 : Nat) : Int) = ln + (((a :: cs).count 10 : Nat) : Int) := by
  by_cases h : a = 10
  · subst h
    rw [if_pos (by decide +kernel), List.count_cons_self]
    omega
  · rw [if_neg (fun e => ?_), List.count_cons_of_ne (by omega)]
    have e2 : PySem.Str.ofString "
" = ⟨#[10]⟩ := by decide +kernel
    rw [e2] at e
    have := congrArg (fun x : Str => x.cps) e
    simp at this
    exact h this
theorem inJ.start {text : Str} {e : List Nat → List Nat} {a st nl₁ : Nat} {tok rest cs tokl : List Nat} {ok : Nat → Prop} {kE k : Nat} {lE ln : Int} {m₀ : Str → Option Value} {tt : Tok} (h0 : m₀ (PySem.Str.ofString "token") = some (.str ⟨tokl.toArray⟩ tt))
    (h1 : text.cps.toList.drop k = e cs ++ st :: rest) (h2 : ∀ c ∈ cs, ok c) (h3 : tokl ++ cs = tok) (h4 : k + a * cs.length + 1 = kE) (h5 : ln + cs.count 10 + nl₁ = lE) (h6 : 0 ≤ ln) : inJ text e a st nl₁ tok rest ok kE lE m₀ cs.length m₀ k ln :=
  ⟨cs, tokl, tt, _, mTok_start h0, h1, rfl, h2, h3, h4, h5, h6⟩
theorem one_ne (a : Nat) : (⟨#[a]⟩ : Str) ≠ PySem.Str.ofString "" := fun e => by
  rw [show PySem.Str.ofString "" = ⟨#[]⟩ by decide +kernel] at e
  have := congrArg (fun x : Str => x.cps.size) e
  simp at this
theorem empty_push (c : Nat) : PySem.Str.ofString "" ++ ⟨#[c]⟩ = ⟨[c].toArray⟩ := by
  rw [show PySem.Str.ofString "" = ⟨([] : List Nat).toArray⟩ by decide +kernel]
  exact str_push [] c
theorem size_str {l : List Nat} (h : l.length ≤ 5000) : (⟨l.toArray⟩ : Str).length ≤ 5000 := by unfold PySem.Str.length; simpa using h
local macro_rules | `(tactic| walk_at "exec For Name Name cons nil") => `(tactic| (k_here; (with_reducible show wpAny _ _ (exec (Stmt.For _ (Expr.Name (PySem.Str.ofString "fiter") _) _ _ _) _) _ _ _); refine halt ?_))
local macro_rules | `(tactic| walk_at "call builtin:iter") => `(tactic| (k_here; k_dflt (refine' iter2_K (by k_asm) (by k_asm) ?m ?_; (case m => k_mem); intro I' h' F' N' l1; (try k_lt l1))))
local macro_rules | `(tactic| walk_at "compareOp In str str") => `(tactic| (k_here; first | refine in_strT true (by decide +kernel) ?_ | refine in_strT false (by decide +kernel) ?_))
local macro_rules | `(tactic| walk_at "compareOp Eq str str") => `(tactic| (k_here; first | refine eq_strT true (by first | with_reducible assumption | decide +kernel) ?_ | refine eq_strT false (by first | with_reducible assumption | decide +kernel) ?_))
local macro_rules | `(tactic| walk_at "call ref") => `(tactic| (k_here; (with_reducible show wpAny _ _ (call (Value.ref 102) _ _) _ _ _); k_dflt (refine' use_rc ?kr (by k_asm) (by k_asm) (by k_asm) (by k_asm) (by k_asm) ?d1 ?u1 ?a1 ?a2 ?k9 ?l9 ?_; (case kr => assumption); (case d1 => ((try dsimp only); omega)); (case u1 => ((try dsimp only); omega)); (case a1 => assumption); (case a2 => omega); (case k9 => omega); (case l9 => omega); intro h' tk' t' t'' t9' F' N'; (try dsimp only at N'))))
theorem turn_ok {k x K y : Nat} {l LN : Int} (h : k + x = K) (hK : K ≤ 2000) (hl : l + (y : Int) = LN) (hL : LN ≤ 4000) (h0 : 0 ≤ l) : k ≤ 3000 ∧ 0 ≤ l ∧ l ≤ 5000 :=
  ⟨Nat.le_trans (Nat.le_trans (Nat.le_add_right k x) (Nat.le_of_eq h)) (Nat.le_trans hK (by decide)), h0, Int.le_trans (Int.le_add_of_nonneg_right (Int.natCast_nonneg y)) (Int.le_trans (Int.le_of_eq hl) (Int.le_trans hL (by decide)))⟩
theorem two_nat {l : Int} {a b : Nat} {LN : Int} (h : l + (a : Int) + (b : Int) = LN) : l + ((a + b : Nat) : Int) = LN := by rw [Int.natCast_add, ← Int.add_assoc]; exact h
theorem tok_len1 {t c T k n : Nat} (h : t + (c + 1) = T) (hk : k + n + (T + 2) ≤ 2000) : t ≤ 4999 := by lia
theorem tok_len2 {t c T k n : Nat} (h : t + (c + 1) = T + 1) (hk : k + n + (2 * T + 3) ≤ 2000) : t ≤ 5000 := by lia
theorem step_one {k c K : Nat} (h : k + 1 * (c + 1) + 1 = K) : k + 1 + 1 * c + 1 = K := by lia
theorem step_two {k c K : Nat} (h : k + 2 * (c + 1) + 1 = K) : k + 1 + 1 + 2 * c + 1 = K := by lia
theorem line_up {c : Prop} [Decidable c] {l : Int} (h : 0 ≤ l) : 0 ≤ (if c then l + 1 else l) := by split <;> lia
theorem ln_zero {a b : Int} {n c : Nat} (h : a + ((0 : Nat) : Int) + c = b + n + c) : a = b + n := by lia
theorem q_end {k' k n t : Nat} (h : k' = k + n) : k' + 1 + 1 * t + 1 = k + n + (t + 2) := by lia
theorem q_line {a b : Int} {n c : Nat} (h : a = b + n) : a + (c : Int) + ((0 : Nat) : Int) = b + n + c := by lia
theorem e_end {k' k n t : Nat} (h : k' = k + n) : k' + 1 + 1 + 2 * t + 1 = k + n + (2 * t + 3) := by lia
theorem e_line {a b c : Int} {n r q : Nat} (h : a = b + n) (hf : c + (r : Int) = a + (q : Int)) : c + (r : Int) + ((1 : Nat) : Int) = b + n + ((q + 1 : Nat) : Int) := by lia
theorem p_up {k' k n t : Nat} (h : k' = k + n) (h2 : k + n + (2 * t + 3) ≤ 2000) : k' + 1 ≤ 3000 := by lia
theorem l_up {a b : Int} {n q : Nat} (h0 : 0 ≤ a) (h : a = b + n) (h2 : b + n + (q : Int) ≤ 4000) : 0 ≤ a ∧ a ≤ 5000 := by lia
theorem p_up2 {k2 c K : Nat} (h : k2 + 2 * (c + 1) + 1 = K) (h2 : K ≤ 2000) : k2 + 1 ≤ 3000 := by lia
theorem l_up2 {a LN : Int} {r q : Nat} (h0 : 0 ≤ a) (h : a + (r : Int) + ((q : Nat) : Int) = LN) (h2 : LN ≤ 4000) : 0 ≤ a ∧ a ≤ 5000 := by lia
theorem pos_one {l : Int} (h : 0 ≤ l) : 0 ≤ l + 1 := by lia
theorem ct_gt2 {x dx pb st ds pb0 f : Addr} {foc : Value} {fod : Option Addr} {fd : FuncData} {fsl : Array (Option Value)} {c : Addr} {oc : Obj} {pl cp : Addr} {ocp : Obj} {ct : Addr} {oct : Obj} {t0 t1 t2 t3 t4 u0 u1 u2 u3 u4 u5 u6 tl tk : Tok}  {nw : Nat} {text : Str} {ln : Int} {k : Nat}{l tok : List Nat} {cn nl n : Nat} {R : Result → Shared → Prop} (B : Below A₀ base outer h₀) (F : Fr h₀ L s.heap m) (X₀ : (hd.heap_39 w.params).In h₀) (N : News h₀ L s.heap [(pb, W.listOf #[] nw), (x, instObj 119 dx), (dx, lexD w t0 t1 t2 t3 t4 ln tl (.ref st) pb), (st, instObj 119 ds), (ds, strD w u0 u1 u2 u3 u4 u5 u6 pb0 f), (f, fnO foc fod fd fsl), (c, oc), (pl, intL ((k : Nat) : Int) tk), (cp, ocp), (ct, oct)]) (T : Top p loose mean mg mb h₀) (hd' : d < 700) (hu : u < 7000) (hR : ReadSpec w f (fnO foc fod fd fsl) c oc pl cp ocp ct oct text) (hA : Asc [ct, cp, pl, c, f, ds, st, dx, x, pb]) (hT : text.cps.toList.drop k = List.replicate n 10 ++ l) (hTok : TokAt l tok cn nl) (hn : n ≤ 1) (hl : 0 ≤ ln) (hk : k + n + cn ≤ 2000) (hl9 : ln + n + nl ≤ 4000)
    (h : ∀ h' tk' tl' tk'' t', Fr h₀ L h' m → News h₀ L h' [(pb, W.listOf #[] nw), (x, instObj 119 dx), (dx, lexD w t0 t1 t2 t3 t4 (ln + n + nl) tl' (.ref st) pb), (st, instObj 119 ds), (ds, strD w u0 u1 u2 u3 u4 u5 u6 pb0 f), (f, fnO foc fod fd fsl), (c, oc), (pl, intL ((k + n + cn : Nat) : Int) tk''), (cp, ocp), (ct, oct)] → KeepBut s.heap h' [pb, x, dx, st, ds, f, c, pl, cp, ct] → R (.ok (.ret (.str ⟨tok.toArray⟩ t'))) { s with heap := h', toks := tk' }) :
    codeAny (model prog w) (arnd d u (envL nm gen co more loc gl cl qual fn code L blt :: outer) gs) (.call (.ref 109) ⟨[.ref x], []⟩) R s := by
  have hkk0 : (fun (_ : Params → Frag) (_ : OpenLaw) => True) hd.heap_39 PySem.Challenge.rw_sc0065_01 := by k_fill; trivial
  clear hkk0
  (first
    | (refine' code_defG (by k_asm) (by k_asm) (by k_asm) (by k_asm) (by k_asm) ?kA ?kF ?kK ?k6 ?k7 ?k8 ?k9 ?kB ?_ ?c2 ?c3 ?c4 ?c5; (case kA => exact rfl); (case kF => exact rfl); (case kK => exact rfl); (case k6 => k_is); (case k7 => k_is); (case k8 => k_room); (case k9 => first | exact BindsTo.of_eq rfl | exact binds_K (by k_in) rfl (by k_is) rfl rfl rfl | (refine' kp_binds ?kx ?ke; (case kx => k_in); (case ke => exact fun _ => rfl)) | fail "k_enter: no rule for these arguments"); (case c5 => decide); (case kB => exact locs rfl); (case c2 => exact rfl); (case c3 => exact rfl); (case c4 => exact rfl); k_whole; intro g' L' h' FG' F' N' B' X' T' kG'; (try dsimp only); (try k_lift B'); (try k_fold))
    | (refine' Mine.code_defCG (by k_asm) (by k_asm) (by k_asm) (by k_asm) (by k_asm) ?kA ?kF ?kK ?k6 ?k7 ?k8 ?k9 ?kB ?kD ?_ ?c2 ?c3 ?c4; (case kA => exact rfl); (case kF => exact rfl); (case kK => exact rfl); (case k6 => k_is); (case k7 => k_is); (case k8 => k_room); (case k9 => first | exact BindsTo.of_eq rfl | exact binds_K (by k_in) rfl (by k_is) rfl rfl rfl | (refine' kp_binds ?kx ?ke; (case kx => k_in); (case ke => exact fun _ => rfl)) | fail "k_enter: no rule for these arguments"); (case kB => exact rfl); (case kD => decide +kernel); (case c2 => exact rfl); (case c3 => exact rfl); (case c4 => exact rfl); k_whole; intro g' L' h' tk' cells' FG' F' N' Y' B' X' T' l1 kG'; (try k_lt l1); k_cells Y'; (try simp only [List.cons_append, List.nil_append] at N'); (try dsimp only); (try k_lift B'); (try k_fold)))
  (with_reducible rename GSub _ _ _ => kG0)
  have hA' := hA

  k_steps
  (with_reducible rename News _ _ _ _ => N1)
  (with_reducible rename Fr _ _ _ _ => F1)
  unfold Halt
  refine wpAny_For ?_
  refine ld F1 rfl ?_
  refine wpAny_pyIter_cit (N1 _ (List.Mem.head _)).1 ?_
  refine cit_for (J := outJ text l cn nl (k + n + cn) (ln + n + nl) _) (by assumption) F1 (by assumption) N1 (by assumption) (by (try dsimp only); omega) (by (try dsimp only); omega) hR hA' (by omega) (outJ.start hT hn rfl rfl hl) rfl ?_
  intro n' m' k' ln' hInv9
  refine wrapG ?_
  intro Pw9 hPw9
  obtain ⟨⟨X, rfl⟩, hd1, hn', hk1, hl1, hl2⟩ := hInv9
  refine hPw9 ?_
  clear hPw9
  clear Pw9
  refine ⟨turn_ok ((Nat.add_assoc ..).symm.trans hk1) hk (two_nat hl1) hl9 hl2, ?_⟩
  match n', hn', hd1, hk1, hl1 with
  | 1, hn', hd1, hk1, hl1 =>
    have e1 := (sgn_cons hd1).1
    have e2 := (sgn_cons hd1).2
    have e3 : sgn text k' = PySem.Str.ofString "\n" := e1.trans (by decide +kernel)
    refine .inl ⟨by rw [e3]; decide +kernel, ?_⟩
    rw [e3, if_pos rfl]
    intro Qo hoR hoN h' tk' t' tl tk F' N'
    have hk3 : k' + 1 + cn = k + n + cn := hk1
    have hl3 : ln' + 1 + nl = ln + n + nl := hl1
    k_steps
    refine hoN _ (by first | exact .inl rfl | exact .inr rfl) 0 _ (k' + 1) (ln' + 1) _ _ _ _ Nat.zero_lt_one ⟨⟨some (.str (PySem.Str.ofString "\n") t'), ?_⟩, e2, Nat.zero_le _, hk3, ?_, Int.add_nonneg hl2 (by decide)⟩ (by assumption) N'
    · funext y
      by_cases e : y = PySem.Str.ofString "ch" <;> simp [e]
    · exact (congrArg (· + (nl : Int)) (Int.add_zero (ln' + 1))).trans hl3
  | 0, hn', hd1, hk1, hl1 =>
    rw [List.replicate_zero, List.nil_append] at hd1
    have hk3 : k' = k + n := Nat.add_right_cancel (hk1 : k' + cn = k + n + cn)
    have hl3 : ln' = ln + n := ln_zero hl1
    clear hk1 hl1 hn' hn
    cases hTok with
    | done =>
      refine .inr ⟨sgn_nil hd1, ?_⟩
      intro h' tk' ln2 tl tk F' N' hln
      dsimp only
      k_steps
      (with_reducible rename News _ _ _ _ => kN)
      (with_reducible rename Fr h₀ _ _ _ => kF)
      have e4 : ln2 = ln + n + ((0 : Nat) : Int) := hln.trans (hl3.trans (Int.add_zero _).symm)
      rw [e4, hk3] at kN
      exact h _ _ _ _ _ kF kN (keepBut_of kG0 (by assumption))
    | quoted _ rest hb =>
      have hlen := hk
      have e1 := (sgn_cons hd1).1
      have e2 := (sgn_cons hd1).2
      have e3 : sgn text k' = PySem.Str.ofString "\"" := e1.trans (by decide +kernel)
      refine .inl ⟨by rw [e3]; decide +kernel, ?_⟩
      rw [e3, if_neg (by decide +kernel)]
      intro Qo hoR hoN h' tk' t' tl tk F' N'
      k_steps
      unfold Halt
      (with_reducible rename News _ _ _ _ => N1)
      (with_reducible rename Fr _ _ _ _ => F1)
      refine wpAny_For ?_
      refine ld F1 rfl ?_
      refine wpAny_pyIter_cit (N1 _ (List.Mem.head _)).1 ?_
      refine cit_for (J := inJ text (fun l => l) 1 34 0 tok rest (fun c => c ≠ 34 ∧ c ≠ 92) (k + n + (tok.length + 2)) (ln + n + (tok.count 10 : Nat)) _) (by assumption) F1 (by assumption) N1 (by assumption) (by (try dsimp only); omega) (by (try dsimp only); omega) hR hA' (by omega) (inJ.start (tokl := []) rfl e2 hb rfl (q_end hk3) (q_line hl3) hl2) rfl ?_
      intro n2 m2 k2 ln2 hInv9
      refine wrapG ?_
      intro Pw9 hPw9
      obtain ⟨cs, tokl, tt, X2, rfl, hd2, hlen2, hok, htk, hk2, hl2', hl3⟩ := hInv9
      refine hPw9 ?_
      clear hPw9
      clear Pw9
      have hcl : tokl.length + cs.length = tok.length := by rw [← htk, List.length_append]
      refine ⟨turn_ok ((Nat.add_assoc ..).symm.trans hk2) hk (two_nat hl2') hl9 hl3, ?_⟩
      cases cs with
      | nil =>
        have e6 := (sgn_cons (c := 34) hd2).1
        have e7 := (sgn_cons (c := 34) hd2).2
        have e8 : sgn text k2 = PySem.Str.ofString "\"" := e6.trans (by decide +kernel)
        refine .inl ⟨by rw [e8]; decide +kernel, ?_⟩
        rw [e8, if_neg (by decide +kernel)]
        intro Qi hiR hiN h' tk' t' tl tk F' N'
        k_steps
        refine hiR _ _ ?_
        k_steps
        refine hoR _ _ ?_
        k_steps
        (with_reducible rename News _ _ _ _ => kN)
        (with_reducible rename Fr h₀ _ _ _ => kF)
        have e9 : k2 + 1 = k + n + (tok.length + 2) := by simpa using hk2
        have e10 : ln2 = ln + n + (tok.count 10 : Nat) := by simpa using hl2'
        rw [e9, e10] at kN
        rw [List.append_nil] at htk
        subst htk
        exact h _ _ _ _ _ kF (newsSub kN fun p hp => List.mem_cons_of_mem _ (List.mem_cons_of_mem _ hp)) (keepBut_of kG0 (by assumption))
      | cons a cs =>
        have e6 := (sgn_cons (c := a) hd2).1
        have e7 := (sgn_cons (c := a) hd2).2
        have ha := hok a (List.mem_cons_self ..)
        have q1 : ((⟨#[a]⟩ : Str) == PySem.Str.ofString "\"") = false := by
          rw [show PySem.Str.ofString "\"" = ⟨#[34]⟩ by decide +kernel]; exact sign_ne ha.1
        have q2 : ((⟨#[a]⟩ : Str) == PySem.Str.ofString "\\") = false := by
          rw [show PySem.Str.ofString "\\" = ⟨#[92]⟩ by decide +kernel]; exact sign_ne ha.2
        rw [List.length_cons] at hcl hk2
        have hs1 : ((⟨tokl.toArray⟩ : Str) ++ ⟨#[a]⟩).length ≤ sizeLine := by rw [str_push, sizeLine_eq]; exact Nat.le_trans (size_str (by have q := tok_len1 hcl hk; simp; exact q)) (by decide)
        refine .inl ⟨by rw [e6]; exact one_ne a, ?_⟩
        rw [e6]
        intro Qi hiR hiN h' tk' t' tl tk F' N'
        k_steps
        (with_reducible rename News _ _ _ _ => kN)
        (with_reducible rename Fr _ _ _ _ => kF)
        refine hiN _ (by first | exact .inl rfl | exact .inr rfl) cs.length _ (k2 + 1) (if (⟨#[a]⟩ : Str) = PySem.Str.ofString "\n" then ln2 + 1 else ln2) _ _ _ _ (by rw [← hlen2, List.length_cons]; exact Nat.lt_succ_self _) ⟨cs, tokl ++ [a], _, _, mTok_set (congrArg (fun z => Value.str z _) (str_push tokl a)), e7, rfl, fun c hc => hok c (List.mem_cons_of_mem _ hc), by rw [List.append_assoc]; exact htk, step_one hk2, by rw [feed_if]; exact hl2', line_up hl3⟩ kF kN
    | escaped a0 body rest =>
      have e1 := (sgn_cons hd1).1
      have e2 := (sgn_cons hd1).2
      have e4 := (sgn_cons e2).1
      have e5 := (sgn_cons e2).2
      have e3 : sgn text k' = PySem.Str.ofString "\\" := e1.trans (by decide +kernel)
      refine .inl ⟨by rw [e3]; decide +kernel, ?_⟩
      rw [e3, if_neg (by decide +kernel)]
      intro Qo hoR hoN h' tk' t' tl tk F' N'
      have b1 := p_up hk3 hk
      have b2 := l_up hl2 hl3 hl9
      have hs1 : (PySem.Str.ofString "").length + (sgn text (k' + 1)).length ≤ sizeLine := by rw [e4, sizeLine_eq]; exact Nat.le_trans (show _ ≤ 1 from Nat.le_refl _) (by decide)
      k_steps
      unfold Halt
      (with_reducible rename News _ _ _ _ => N1)
      (with_reducible rename Fr _ _ _ _ => F1)
      rw [e4] at F1 N1
      have hfeed := feed_if a0 body ln'
      refine wpAny_For ?_
      refine ld F1 rfl ?_
      refine wpAny_pyIter_cit (N1 _ (List.Mem.head _)).1 ?_
      refine cit_for (J := inJ text esc 2 10 1 (a0 :: body) rest (fun _ => True) (k + n + (2 * body.length + 3)) (ln + n + ((a0 :: body).count 10 + 1 : Nat)) _) (by assumption) F1 (by assumption) N1 (by assumption) (by (try dsimp only); omega) (by (try dsimp only); omega) hR hA' (by omega) (inJ.start (tokl := [a0]) (congrArg (fun z => some (Value.str z _)) (empty_push a0)) e5 (fun _ _ => trivial) rfl (e_end hk3) (e_line hl3 hfeed) (line_up hl2)) rfl ?_
      intro n2 m2 k2 ln2 hInv9
      refine wrapG ?_
      intro Pw9 hPw9
      obtain ⟨cs, tokl, tt, X2, rfl, hd2, hlen2, hok, htk, hk2, hl2', hl3⟩ := hInv9
      refine hPw9 ?_
      clear hPw9
      clear Pw9
      have hcl : tokl.length + cs.length = body.length + 1 := by rw [← List.length_append, htk, List.length_cons]
      refine ⟨turn_ok ((Nat.add_assoc ..).symm.trans hk2) hk (two_nat hl2') hl9 hl3, ?_⟩
      cases cs with
      | nil =>
        have e6 := (sgn_cons (c := 10) hd2).1
        have e7 := (sgn_cons (c := 10) hd2).2
        have e8 : sgn text k2 = PySem.Str.ofString "\n" := e6.trans (by decide +kernel)
        refine .inl ⟨by rw [e8]; decide +kernel, ?_⟩
        rw [e8, if_pos rfl]
        intro Qi hiR hiN h' tk' t' tl tk F' N'
        k_steps
        refine hiR _ _ ?_
        k_steps
        refine hoR _ _ ?_
        k_steps
        (with_reducible rename News _ _ _ _ => kN)
        (with_reducible rename Fr h₀ _ _ _ => kF)
        have e9 : k2 + 1 = k + n + (2 * body.length + 3) := by simpa using hk2
        have e10 : ln2 + 1 = ln + n + ((a0 :: body).count 10 + 1 : Nat) := by simpa using hl2'
        rw [e9, e10] at kN
        rw [List.append_nil] at htk
        subst htk
        exact h _ _ _ _ _ kF (newsSub kN fun p hp => List.mem_cons_of_mem _ (List.mem_cons_of_mem _ hp)) (keepBut_of kG0 (by assumption))
      | cons a cs =>
        have e6 := (sgn_cons (c := 92) (r := a :: (esc cs ++ 10 :: rest)) hd2).1
        have e7 := (sgn_cons (c := 92) (r := a :: (esc cs ++ 10 :: rest)) hd2).2
        have e4' := (sgn_cons e7).1
        have e5' := (sgn_cons e7).2
        have e8 : sgn text k2 = PySem.Str.ofString "\\" := e6.trans (by decide +kernel)
        rw [List.length_cons] at hcl hk2
        have b3 := p_up2 hk2 hk
        have b4 := l_up2 hl3 hl2' hl9
        have hs1 : (⟨tokl.toArray⟩ : Str).length + (sgn text (k2 + 1)).length ≤ sizeLine := by
          rw [e4', sizeLine_eq]
          exact Nat.le_trans (Nat.add_le_add (size_str (tok_len2 hcl hk)) (show _ ≤ 1 from Nat.le_refl _)) (by decide)
        refine .inl ⟨by rw [e8]; decide +kernel, ?_⟩
        rw [e8, if_neg (by decide +kernel)]
        intro Qi hiR hiN h' tk' t' tl tk F' N'
        k_steps
        (with_reducible rename News _ _ _ _ => kN)
        (with_reducible rename Fr _ _ _ _ => kF)
        rw [e4'] at kN kF
        refine hiN _ (by first | exact .inl rfl | exact .inr rfl) cs.length _ (k2 + 1 + 1) (if (⟨#[a]⟩ : Str) = PySem.Str.ofString "\n" then ln2 + 1 else ln2) _ _ _ _ (by rw [← hlen2, List.length_cons]; exact Nat.lt_succ_self _) ⟨cs, tokl ++ [a], _, _, mTok_set2 (congrArg (fun z => Value.str z _) (str_push tokl a)), e5', rfl, fun c hc => trivial, by rw [List.append_assoc]; exact htk, step_two hk2, by rw [feed_if]; exact hl2', line_up hl3⟩ kF kN
end
end
theorem fresh_P_gt1 : True := by
  w_top off
  trivial
section
local macro_rules | `(tactic| walk_at "call builtin:list.append") => `(tactic| (k_here; (try dsimp only [List.cons_append, List.nil_append]); (with_reducible show wpAny _ _ (call (Value.builtin _) [Value.ref _, _]) _ _ _); k_dflt (refine' append_K (by k_asm) (by k_asm) ?k3 ?_ ?z; (case k3 => k_upd); (case z => first | exact Nat.le_of_ble_eq_true rfl | (simp only [List.size_toArray, PySem.sizeLine_eq]; omega) | size_fits); k_whole); intro h' F' N'; (try k_sweep)))
section
variable {w : World} {A₀ : Around} {E : Value → Shared → Prop} {s : Shared} {base h₀ : Heap} {outer : List Env} {L : Addr} {m : Str → Option Value} {news : List (Addr × Obj)} {mg mb : Str → Option Value} {p : Program} {loose : List Str} {mean : ExcName → Option Value} {Q : Value → Shared → Prop} {d u : Nat} {gs : Option (List Code)}
  {nm : List (Str × NameKind)} {gen co : Bool} {more : List (Str × Const)} {loc gl : Addr} {cl : List (Str × Addr)} {qual : Str} {fn : Option Addr} {code : Value} {blt : Addr}
theorem ct_gt1 {x dx pb : Addr} {t0 t1 t2 t3 t4 tl : Tok} {ln : Int} {st v : Value} {vs : List Value} {nw : Nat} {R : Result → Shared → Prop} (B : Below A₀ base outer h₀) (F : Fr h₀ L s.heap m) (X₀ : (hd.heap_39 w.params).In h₀) (N : News h₀ L s.heap [(pb, W.listOf (v :: vs).toArray nw), (x, instObj 119 dx), (dx, lexD w t0 t1 t2 t3 t4 ln tl st pb)]) (T : Top p loose mean mg mb h₀) (hd' : d < 800) (hu : u < 8000) (hA : Asc [dx, x, pb]) (hn : vs.length ≤ 100)
    (h : ∀ h' tk' nw', Fr h₀ L h' m → News h₀ L h' [(pb, W.listOf vs.toArray nw'), (x, instObj 119 dx), (dx, lexD w t0 t1 t2 t3 t4 ln tl st pb)] → KeepBut s.heap h' [pb, x, dx] → R (.ok (.ret v)) { s with heap := h', toks := tk' }) :
    codeAny (model prog w) (arnd d u (envL nm gen co more loc gl cl qual fn code L blt :: outer) gs) (.call (.ref 109) ⟨[.ref x], []⟩) R s := by
  have hkk0 : (fun (_ : Params → Frag) (_ : OpenLaw) => True) hd.heap_39 PySem.Challenge.rw_sc0065_01 := by k_fill; trivial
  clear hkk0
  (first
    | (refine' code_defG (by k_asm) (by k_asm) (by k_asm) (by k_asm) (by k_asm) ?kA ?kF ?kK ?k6 ?k7 ?k8 ?k9 ?kB ?_ ?c2 ?c3 ?c4 ?c5; (case kA => exact rfl); (case kF => exact rfl); (case kK => exact rfl); (case k6 => k_is); (case k7 => k_is); (case k8 => k_room); (case k9 => first | exact BindsTo.of_eq rfl | exact binds_K (by k_in) rfl (by k_is) rfl rfl rfl | (refine' kp_binds ?kx ?ke; (case kx => k_in); (case ke => exact fun _ => rfl)) | fail "k_enter: no rule for these arguments"); (case c5 => decide); (case kB => exact locs rfl); (case c2 => exact rfl); (case c3 => exact rfl); (case c4 => exact rfl); k_whole; intro g' L' h' FG' F' N' B' X' T' kG'; (try dsimp only); (try k_lift B'); (try k_fold))
    | (refine' Mine.code_defCG (by k_asm) (by k_asm) (by k_asm) (by k_asm) (by k_asm) ?kA ?kF ?kK ?k6 ?k7 ?k8 ?k9 ?kB ?kD ?_ ?c2 ?c3 ?c4; (case kA => exact rfl); (case kF => exact rfl); (case kK => exact rfl); (case k6 => k_is); (case k7 => k_is); (case k8 => k_room); (case k9 => first | exact BindsTo.of_eq rfl | exact binds_K (by k_in) rfl (by k_is) rfl rfl rfl | (refine' kp_binds ?kx ?ke; (case kx => k_in); (case ke => exact fun _ => rfl)) | fail "k_enter: no rule for these arguments"); (case kB => exact rfl); (case kD => decide +kernel); (case c2 => exact rfl); (case c3 => exact rfl); (case c4 => exact rfl); k_whole; intro g' L' h' tk' cells' FG' F' N' Y' B' X' T' l1 kG'; (try k_lt l1); k_cells Y'; (try simp only [List.cons_append, List.nil_append] at N'); (try dsimp only); (try k_lift B'); (try k_fold)))
  (with_reducible rename GSub _ _ _ => kG0)

  k_steps
  (with_reducible rename News _ _ _ _ => kN)
  (with_reducible rename Fr h₀ _ _ _ => kF)
  exact h _ _ _ kF kN (keepBut_of kG0 (by assumption))
theorem ct_push {x dx pb : Addr} {t0 t1 t2 t3 t4 tl : Tok} {ln : Int} {st v : Value} {vs : List Value} {nw : Nat} {R : Result → Shared → Prop} (B : Below A₀ base outer h₀) (F : Fr h₀ L s.heap m) (X₀ : (hd.heap_39 w.params).In h₀) (N : News h₀ L s.heap [(pb, W.listOf vs.toArray nw), (x, instObj 119 dx), (dx, lexD w t0 t1 t2 t3 t4 ln tl st pb)]) (T : Top p loose mean mg mb h₀) (hd' : d < 800) (hu : u < 8000) (hA : Asc [dx, x, pb]) (hn : vs.length ≤ 100)
    (h : ∀ h' tk' nw', Fr h₀ L h' m → News h₀ L h' [(pb, W.listOf (vs ++ [v]).toArray nw'), (x, instObj 119 dx), (dx, lexD w t0 t1 t2 t3 t4 ln tl st pb)] → KeepBut s.heap h' [pb, x, dx] → R (.ok (.ret .none)) { s with heap := h', toks := tk' }) :
    codeAny (model prog w) (arnd d u (envL nm gen co more loc gl cl qual fn code L blt :: outer) gs) (.call (.ref 116) ⟨[.ref x, v], []⟩) R s := by
  have hkk0 : (fun (_ : Params → Frag) (_ : OpenLaw) => True) hd.heap_39 PySem.Challenge.rw_sc0065_01 := by k_fill; trivial
  clear hkk0
  (first
    | (refine' code_defG (by k_asm) (by k_asm) (by k_asm) (by k_asm) (by k_asm) ?kA ?kF ?kK ?k6 ?k7 ?k8 ?k9 ?kB ?_ ?c2 ?c3 ?c4 ?c5; (case kA => exact rfl); (case kF => exact rfl); (case kK => exact rfl); (case k6 => k_is); (case k7 => k_is); (case k8 => k_room); (case k9 => first | exact BindsTo.of_eq rfl | exact binds_K (by k_in) rfl (by k_is) rfl rfl rfl | (refine' kp_binds ?kx ?ke; (case kx => k_in); (case ke => exact fun _ => rfl)) | fail "k_enter: no rule for these arguments"); (case c5 => decide); (case kB => exact locs rfl); (case c2 => exact rfl); (case c3 => exact rfl); (case c4 => exact rfl); k_whole; intro g' L' h' FG' F' N' B' X' T' kG'; (try dsimp only); (try k_lift B'); (try k_fold))
    | (refine' Mine.code_defCG (by k_asm) (by k_asm) (by k_asm) (by k_asm) (by k_asm) ?kA ?kF ?kK ?k6 ?k7 ?k8 ?k9 ?kB ?kD ?_ ?c2 ?c3 ?c4; (case kA => exact rfl); (case kF => exact rfl); (case kK => exact rfl); (case k6 => k_is); (case k7 => k_is); (case k8 => k_room); (case k9 => first | exact BindsTo.of_eq rfl | exact binds_K (by k_in) rfl (by k_is) rfl rfl rfl | (refine' kp_binds ?kx ?ke; (case kx => k_in); (case ke => exact fun _ => rfl)) | fail "k_enter: no rule for these arguments"); (case kB => exact rfl); (case kD => decide +kernel); (case c2 => exact rfl); (case c3 => exact rfl); (case c4 => exact rfl); k_whole; intro g' L' h' tk' cells' FG' F' N' Y' B' X' T' l1 kG'; (try k_lt l1); k_cells Y'; (try simp only [List.cons_append, List.nil_append] at N'); (try dsimp only); (try k_lift B'); (try k_fold)))
  (with_reducible rename GSub _ _ _ => kG0)

  k_steps
  (with_reducible rename News _ _ _ _ => kN)
  (with_reducible rename Fr h₀ _ _ _ => kF)
  rw [show vs.toArray.push v = (vs ++ [v]).toArray by simp] at kN
  exact h _ _ _ kF kN (keepBut_of kG0 (by assumption))
end
end
end Mine
end
theorem Mine.fresh_P_quo : True := by
  w_top off
  trivial
section
open PySem PySem.W PyProof.Rows PySem.Calls
set_option maxRecDepth 100000
set_option maxHeartbeats 4000000
namespace Mine
section
variable {w : World} {A₀ : Around} {E : Value → Shared → Prop} {s : Shared} {base h₀ : Heap} {outer : List Env} {L : Addr} {m : Str → Option Value} {news : List (Addr × Obj)} {mg mb : Str → Option Value} {p : Program} {loose : List Str} {mean : ExcName → Option Value} {Q : Value → Shared → Prop} {d u : Nat} {gs : Option (List Code)}
  {nm : List (Str × NameKind)} {gen co : Bool} {more : List (Str × Const)} {loc gl : Addr} {cl : List (Str × Addr)} {qual : Str} {fn : Option Addr} {code : Value} {blt : Addr}

theorem pat_method {prog : Program} {w : World} {A : Around} {E : Value → Shared → Prop} {s : Shared} {h₀ : Heap} {L P : Addr} {m : Str → Option Value} {K : Frag} {pl : Sem Bool} {dt : Data} {sl : Array (Option Value)} {Q : Value × List Value → Shared → Prop} (F : Fr h₀ L s.heap m) (X₀ : K.In h₀) (e : K.lookup P = some ⟨.type "re.Pattern", none, dt, sl⟩)
    (h : Q (.builtin "re.Pattern.sub", [.ref P]) s) : wpAny (model prog w) A (getMethod (.ref P) "sub" pl) Q E s :=
  have hP := (X₀.keeps F.keep) _ _ e
  getMethod_builtin ⟨_, hP, rfl⟩ plainAttrs_pat slot_sub type_sub (fun a e => by cases e; exact ⟨_, hP, rfl⟩) h
theorem call_sub2 {prog : Program} {A : Around} {r : Nat} {tx tr : Tok} (hr : r < 192) (F : Fr h₀ L s.heap m) (X₀ : (hd.heap_39 w.params).In h₀) (N : News h₀ L s.heap news)
    (h : ∀ h' tk t, Fr h₀ L h' m → News h₀ L h' news → Q (.str ⟨(crlfL r).toArray⟩ t) { s with heap := h', toks := tk }) : wpAny (model prog w) A (call (.builtin "re.Pattern.sub") [.ref 133, .str "\r\n" tr, .str ⟨(mailL r).toArray⟩ tx]) Q E s := by
  obtain ⟨t, a, b, c, d⟩ := subOk_spec (fix_ok hr)
  have hl := (can_of hr).2.2.2.2.2.2.2.2
  refine call_sub (x := ⟨(mailL r).toArray⟩) (F := 200) (k := 40) (by decide) (by decide) (by unfold PySem.Str.length; simp; omega) (by decide +kernel) b c (patAt w X₀ F.keep).2 a fun h' tk t' hk => ?_
  rw [d]
  exact h h' tk t' (F.keeps hk) (N.grown hk)
theorem call_sub1 {prog : Program} {A : Around} {r : Nat} {tx tr : Tok} (hr : r < 192) (F : Fr h₀ L s.heap m) (X₀ : (hd.heap_39 w.params).In h₀) (N : News h₀ L s.heap news)
    (h : ∀ h' tk t, Fr h₀ L h' m → News h₀ L h' news → Q (.str ⟨(quotL r).toArray⟩ t) { s with heap := h', toks := tk }) : wpAny (model prog w) A (call (.builtin "re.Pattern.sub") [.ref 128, .str ".." tr, .str ⟨(crlfL r).toArray⟩ tx]) Q E s := by
  obtain ⟨t, a, b, c, d⟩ := subOk_spec (quo_ok hr)
  have hl := (can_of hr).2.2.2.2.2.2.2.2
  refine call_sub (x := ⟨(crlfL r).toArray⟩) (F := 200) (k := 40) (by decide) (by decide) (by unfold PySem.Str.length; simp; omega) (by decide +kernel) b c (patAt w X₀ F.keep).1 a fun h' tk t' hk => ?_
  rw [d]
  exact h h' tk t' (F.keeps hk) (N.grown hk)
local macro_rules | `(tactic| walk_at "getMethod ref") => `(tactic| (k_here; k_dflt (refine' pat_method (by k_asm) (by k_asm) ?e ?_; (case e => k_is); k_whole)))
local macro_rules | `(tactic| walk_at "call builtin:re.Pattern.sub") => `(tactic| (k_here; k_dflt (first
  | (refine' call_sub2 ?hr (by k_asm) (by k_asm) (by k_asm) ?_; (case hr => assumption); k_whole; intro h' tk' t' F' N')
  | (refine' call_sub1 ?hr (by k_asm) (by k_asm) (by k_asm) ?_; (case hr => assumption); k_whole; intro h' tk' t' F' N'))))
theorem ct_fix {r : Nat} {tt : Tok} (B : Below A₀ base outer h₀) (F : Fr h₀ L s.heap m) (X₀ : (hd.heap_39 w.params).In h₀) (N : News h₀ L s.heap []) (T : Top p loose mean mg mb h₀) (hd' : d < 800) (hu : u < 8000) (hr : r < 192)
    (h : ∀ h' tk' t', Fr h₀ L h' m → KeepBut s.heap h' [] → Q (.str ⟨(crlfL r).toArray⟩ t') { s with heap := h', toks := tk' }) :
    wpAny (model prog w) (arnd d u (envL nm gen co more loc gl cl qual fn code L blt :: outer) gs) (call (.ref 147) [.str ⟨(mailL r).toArray⟩ tt] []) Q E s := by
  have hkk0 : (fun (_ : Params → Frag) (_ : OpenLaw) => True) hd.heap_39 PySem.Challenge.rw_sc0065_01 := by k_fill; trivial
  clear hkk0
  refine wpAny_call ?_
  (first
    | (refine' code_defG (by k_asm) (by k_asm) (by k_asm) (by k_asm) (by k_asm) ?kA ?kF ?kK ?k6 ?k7 ?k8 ?k9 ?kB ?_ ?c2 ?c3 ?c4 ?c5; (case kA => exact rfl); (case kF => exact rfl); (case kK => exact rfl); (case k6 => k_is); (case k7 => k_is); (case k8 => k_room); (case k9 => first | exact BindsTo.of_eq rfl | exact binds_K (by k_in) rfl (by k_is) rfl rfl rfl | (refine' kp_binds ?kx ?ke; (case kx => k_in); (case ke => exact fun _ => rfl)) | fail "k_enter: no rule for these arguments"); (case c5 => decide); (case kB => exact locs rfl); (case c2 => exact rfl); (case c3 => exact rfl); (case c4 => exact rfl); k_whole; intro g' L' h' FG' F' N' B' X' T' kG'; (try dsimp only); (try k_lift B'); (try k_fold))
    | (refine' Mine.code_defCG (by k_asm) (by k_asm) (by k_asm) (by k_asm) (by k_asm) ?kA ?kF ?kK ?k6 ?k7 ?k8 ?k9 ?kB ?kD ?_ ?c2 ?c3 ?c4; (case kA => exact rfl); (case kF => exact rfl); (case kK => exact rfl); (case k6 => k_is); (case k7 => k_is); (case k8 => k_room); (case k9 => first | exact BindsTo.of_eq rfl | exact binds_K (by k_in) rfl (by k_is) rfl rfl rfl | (refine' kp_binds ?kx ?ke; (case kx => k_in); (case ke => exact fun _ => rfl)) | fail "k_enter: no rule for these arguments"); (case kB => exact rfl); (case kD => decide +kernel); (case c2 => exact rfl); (case c3 => exact rfl); (case c4 => exact rfl); k_whole; intro g' L' h' tk' cells' FG' F' N' Y' B' X' T' l1 kG'; (try k_lt l1); k_cells Y'; (try simp only [List.cons_append, List.nil_append] at N'); (try dsimp only); (try k_lift B'); (try k_fold)))
  (with_reducible rename GSub _ _ _ => kG0)
  k_steps
  (with_reducible rename Fr h₀ _ _ _ => kF)
  exact h _ _ _ kF (keepBut_of kG0 (by assumption))
theorem ct_quo {r : Nat} {tt : Tok} (B : Below A₀ base outer h₀) (F : Fr h₀ L s.heap m) (X₀ : (hd.heap_39 w.params).In h₀) (N : News h₀ L s.heap []) (T : Top p loose mean mg mb h₀) (hd' : d < 800) (hu : u < 8000) (hr : r < 192)
    (h : ∀ h' tk' t', Fr h₀ L h' m → KeepBut s.heap h' [] → Q (.str ⟨(quotL r).toArray⟩ t') { s with heap := h', toks := tk' }) :
    wpAny (model prog w) (arnd d u (envL nm gen co more loc gl cl qual fn code L blt :: outer) gs) (call (.ref 140) [.str ⟨(mailL r).toArray⟩ tt] []) Q E s := by
  have hkk0 : (fun (_ : Params → Frag) (_ : OpenLaw) => True) hd.heap_39 PySem.Challenge.rw_sc0065_01 := by k_fill; trivial
  clear hkk0
  refine wpAny_call ?_
  (first
    | (refine' code_defG (by k_asm) (by k_asm) (by k_asm) (by k_asm) (by k_asm) ?kA ?kF ?kK ?k6 ?k7 ?k8 ?k9 ?kB ?_ ?c2 ?c3 ?c4 ?c5; (case kA => exact rfl); (case kF => exact rfl); (case kK => exact rfl); (case k6 => k_is); (case k7 => k_is); (case k8 => k_room); (case k9 => first | exact BindsTo.of_eq rfl | exact binds_K (by k_in) rfl (by k_is) rfl rfl rfl | (refine' kp_binds ?kx ?ke; (case kx => k_in); (case ke => exact fun _ => rfl)) | fail "k_enter: no rule for these arguments"); (case c5 => decide); (case kB => exact locs rfl); (case c2 => exact rfl); (case c3 => exact rfl); (case c4 => exact rfl); k_whole; intro g' L' h' FG' F' N' B' X' T' kG'; (try dsimp only); (try k_lift B'); (try k_fold))
    | (refine' Mine.code_defCG (by k_asm) (by k_asm) (by k_asm) (by k_asm) (by k_asm) ?kA ?kF ?kK ?k6 ?k7 ?k8 ?k9 ?kB ?kD ?_ ?c2 ?c3 ?c4; (case kA => exact rfl); (case kF => exact rfl); (case kK => exact rfl); (case k6 => k_is); (case k7 => k_is); (case k8 => k_room); (case k9 => first | exact BindsTo.of_eq rfl | exact binds_K (by k_in) rfl (by k_is) rfl rfl rfl | (refine' kp_binds ?kx ?ke; (case kx => k_in); (case ke => exact fun _ => rfl)) | fail "k_enter: no rule for these arguments"); (case kB => exact rfl); (case kD => decide +kernel); (case c2 => exact rfl); (case c3 => exact rfl); (case c4 => exact rfl); k_whole; intro g' L' h' tk' cells' FG' F' N' Y' B' X' T' l1 kG'; (try k_lt l1); k_cells Y'; (try simp only [List.cons_append, List.nil_append] at N'); (try dsimp only); (try k_lift B'); (try k_fold)))
  (with_reducible rename GSub _ _ _ => kG0)
  k_steps
  (with_reducible rename Fr h₀ _ _ _ => kF)
  exact h _ _ _ kF (keepBut_of kG0 (by assumption))
end
end Mine
end
theorem Mine.fresh_P_hsv : True := by
  w_top off
  trivial
section
open PySem PySem.W PyProof.Rows PySem.Calls
set_option maxRecDepth 100000
set_option maxHeartbeats 4000000
namespace Mine
section
variable {w : World} {A₀ : Around} {E : Value → Shared → Prop} {s : Shared} {base h₀ : Heap} {outer : List Env} {L : Addr} {m : Str → Option Value} {news : List (Addr × Obj)} {mg mb : Str → Option Value} {p : Program} {loose : List Str} {mean : ExcName → Option Value} {Q : Value → Shared → Prop} {d u : Nat} {gs : Option (List Code)}
  {nm : List (Str × NameKind)} {gen co : Bool} {more : List (Str × Const)} {loc gl : Addr} {cl : List (Str × Addr)} {qual : Str} {fn : Option Addr} {code : Value} {blt : Addr}
noncomputable abbrev tup3 (x y z : Value) : Obj := { cls := .type "tuple", data := .seq #[x, y, z] }
theorem ne_of_eqF {m M : Nat} (hm : m ≤ 32) (hM : M ≤ 32) (h1 : (Float64.cmp (fl m) (fl M) == some .eq) = false) : m ≠ M := by
  rw [eq_fl hm hM] at h1
  exact of_decide_eq_false h1
theorem z0 {m M : Nat} (hmM : m ≤ M) (hM : M ≤ 32) (h : m ≠ M) : Float64.isZero (Float64.sub (fl M) (fl m)) = false ∧ Float64.isZero (Float64.sub (Float64.sub (Float64.ofFrac false 2 1) (fl M)) (fl m)) = false := by
  have := List.all_eq_true.mp (List.all_eq_true.mp fl_all2 M (List.mem_range.mpr (by lia))) m (List.mem_range.mpr (by lia))
  simp only [Bool.and_eq_true, Bool.or_eq_true, beq_iff_eq] at this
  rcases this.1.2 with e | e
  · exact absurd e.symm h
  · exact e
theorem add_fl {m M : Nat} (hmM : m ≤ M) (hM : M ≤ 32) : Float64.add (fl M) (fl m) = fl (M + m) := by
  have := List.all_eq_true.mp (List.all_eq_true.mp fl_all2 M (List.mem_range.mpr (by lia))) m (List.mem_range.mpr (by lia))
  simp only [Bool.and_eq_true, Bool.or_eq_true, beq_iff_eq] at this
  exact this.2
theorem nz_fl {M : Nat} (hM : M ≤ 64) (h : 0 < M) : Float64.isZero (fl M) = false := by
  have := List.all_eq_true.mp fl_all3 M (List.mem_range.mpr (by lia))
  simp only [Bool.and_eq_true, Bool.or_eq_true, beq_iff_eq] at this
  rcases this.1 with e | e
  · lia
  · exact e
theorem z1 {m M : Nat} (hmM : m ≤ M) (hM : M ≤ 32) (h1 : (Float64.cmp (fl m) (fl M) == some .eq) = false) : ¬ Float64.isZero (fl M) = true := by
  have := ne_of_eqF (by lia) hM h1
  rw [nz_fl (by lia) (by lia)]; exact Bool.false_ne_true
theorem z2 {m M : Nat} (hmM : m ≤ M) (hM : M ≤ 32) (h1 : (Float64.cmp (fl m) (fl M) == some .eq) = false) : ¬ Float64.isZero (Float64.sub (fl M) (fl m)) = true := by
  rw [(z0 hmM hM (ne_of_eqF (by lia) hM h1)).1]; exact Bool.false_ne_true
theorem z3 {m M : Nat} (hmM : m ≤ M) (hM : M ≤ 32) (h1 : (Float64.cmp (fl m) (fl M) == some .eq) = false) : ¬ Float64.isZero (Float64.add (fl M) (fl m)) = true := by
  have := ne_of_eqF (by lia) hM h1
  rw [add_fl hmM hM, nz_fl (by lia) (by lia)]; exact Bool.false_ne_true
theorem z4 {m M : Nat} {two : UInt64} (h2 : two = Float64.ofFrac false 2 1) (hmM : m ≤ M) (hM : M ≤ 32) (h1 : (Float64.cmp (fl m) (fl M) == some .eq) = false) : ¬ Float64.isZero (Float64.sub (Float64.sub two (fl M)) (fl m)) = true := by
  rw [h2, (z0 hmM hM (ne_of_eqF (by lia) hM h1)).2]; exact Bool.false_ne_true
theorem max3_K {prog : Program} {A : Around} {a b c : Nat} {t u' x : Tok} (F : Fr h₀ L s.heap m) (N : News h₀ L s.heap news) (hh : A.handled = none) (ha : a ≤ 32) (hb : b ≤ 32) (hc : c ≤ 32)
    (h : ∀ h' tk t', Fr h₀ L h' m → News h₀ L h' news → Q (.float (fl (max (max a b) c)) t') { s with heap := h', toks := tk }) :
    wpAny (model prog w) A (call (.builtin "max") [.float (fl a) t, .float (fl b) u', .float (fl c) x]) Q E s := max3_fl hh ha hb hc fun h' tk t' hk => h h' tk t' (F.keeps hk) (N.grown hk)
theorem min3_K {prog : Program} {A : Around} {a b c : Nat} {t u' x : Tok} (F : Fr h₀ L s.heap m) (N : News h₀ L s.heap news) (hh : A.handled = none) (ha : a ≤ 32) (hb : b ≤ 32) (hc : c ≤ 32)
    (h : ∀ h' tk t', Fr h₀ L h' m → News h₀ L h' news → Q (.float (fl (min (min a b) c)) t') { s with heap := h', toks := tk }) :
    wpAny (model prog w) A (call (.builtin "min") [.float (fl a) t, .float (fl b) u', .float (fl c) x]) Q E s := min3_fl hh ha hb hc fun h' tk t' hk => h h' tk t' (F.keeps hk) (N.grown hk)
local macro_rules | `(tactic| walk_at "call builtin:max") => `(tactic| (k_here; k_dflt (refine' max3_K (by k_asm) (by k_asm) ?hh ?a ?b ?c ?_; (case hh => rfl); (case a => first | assumption | decide | omega); (case b => first | assumption | decide | omega); (case c => first | assumption | decide | omega); k_whole; intro h' tk' t' F' N')))
local macro_rules | `(tactic| walk_at "call builtin:min") => `(tactic| (k_here; k_dflt (refine' min3_K (by k_asm) (by k_asm) ?hh ?a ?b ?c ?_; (case hh => rfl); (case a => first | assumption | decide | omega); (case b => first | assumption | decide | omega); (case c => first | assumption | decide | omega); k_whole; intro h' tk' t' F' N')))
/-- a mark that the walk spends at a branch -/
structure JMark : Prop where
theorem if_join {M : Model} {A : Around} {t : Sem Flow} {Q : Flow → Shared → Prop} {E : Value → Shared → Prop} {h : Heap} {g1 g2 g3 : _} {tk : Tok} {h₀ : Heap} {L : Addr} {m : Str → Option Value} {news : List (Addr × Obj)} (x : Str) (_F : Fr h₀ L h m) (_N : News h₀ L h news)
    (h1 : ∀ Q' : Flow → Shared → Prop, (∀ h' tk' v, Fr h₀ L h' (fun y => if y = x then some v else m y) → News h₀ L h' news → Q' .next ⟨h', g1, g2, tk', g3⟩) → wpAny M A t Q' E ⟨h, g1, g2, tk, g3⟩)
    (h2 : ∀ h' tk' v, Fr h₀ L h' (fun y => if y = x then some v else m y) → News h₀ L h' news → Q .next ⟨h', g1, g2, tk', g3⟩) : wpAny M A t Q E ⟨h, g1, g2, tk, g3⟩ := h1 Q h2
local macro_rules | `(tactic| walk_at "exec If") => `(tactic| ((with_reducible rename JMark => jm9); clear jm9; refine Stop.out (P := _) ?_))
theorem ct_hsv {a b c : Nat} {t1 t2 t3 : Tok} (B : Below A₀ base outer h₀) (F : Fr h₀ L s.heap m) (X₀ : (hd.heap_39 w.params).In h₀) (N : News h₀ L s.heap []) (T : Top p loose mean mg mb h₀) (hd' : d < 800) (hu : u < 8000) (ha : a ≤ 32) (hb : b ≤ 32) (hc : c ≤ 32)
    (h : ∀ h' tk' D v1 v2 t, Fr h₀ L h' m → News h₀ L h' [(D, tup3 v1 v2 (.float (fl (max (max a b) c)) t))] → KeepBut s.heap h' [] → (∀ q ob, s.heap.get? q = some ob → q ≠ D) → Q (.ref D) { s with heap := h', toks := tk' }) :
    wpAny (model prog w) (arnd d u (envL nm gen co more loc gl cl qual fn code L blt :: outer) gs) (call (.ref 45) [.float (fl a) t1, .float (fl b) t2, .float (fl c) t3] []) Q E s := by
  have hkk0 : (fun (_ : Params → Frag) (_ : OpenLaw) => True) hd.heap_39 PySem.Challenge.rw_sc0065_01 := by k_fill; trivial
  clear hkk0
  refine wpAny_call ?_
  (first
    | (refine' code_defG (by k_asm) (by k_asm) (by k_asm) (by k_asm) (by k_asm) ?kA ?kF ?kK ?k6 ?k7 ?k8 ?k9 ?kB ?_ ?c2 ?c3 ?c4 ?c5; (case kA => exact rfl); (case kF => exact rfl); (case kK => exact rfl); (case k6 => k_is); (case k7 => k_is); (case k8 => k_room); (case k9 => first | exact BindsTo.of_eq rfl | exact binds_K (by k_in) rfl (by k_is) rfl rfl rfl | (refine' kp_binds ?kx ?ke; (case kx => k_in); (case ke => exact fun _ => rfl)) | fail "k_enter: no rule for these arguments"); (case c5 => decide); (case kB => exact locs rfl); (case c2 => exact rfl); (case c3 => exact rfl); (case c4 => exact rfl); k_whole; intro g' L' h' FG' F' N' B' X' T' kG'; (try dsimp only); (try k_lift B'); (try k_fold))
    | (refine' Mine.code_defCG (by k_asm) (by k_asm) (by k_asm) (by k_asm) (by k_asm) ?kA ?kF ?kK ?k6 ?k7 ?k8 ?k9 ?kB ?kD ?_ ?c2 ?c3 ?c4; (case kA => exact rfl); (case kF => exact rfl); (case kK => exact rfl); (case k6 => k_is); (case k7 => k_is); (case k8 => k_room); (case k9 => first | exact BindsTo.of_eq rfl | exact binds_K (by k_in) rfl (by k_is) rfl rfl rfl | (refine' kp_binds ?kx ?ke; (case kx => k_in); (case ke => exact fun _ => rfl)) | fail "k_enter: no rule for these arguments"); (case kB => exact rfl); (case kD => decide +kernel); (case c2 => exact rfl); (case c3 => exact rfl); (case c4 => exact rfl); k_whole; intro g' L' h' tk' cells' FG' F' N' Y' B' X' T' l1 kG'; (try k_lt l1); k_cells Y'; (try simp only [List.cons_append, List.nil_append] at N'); (try dsimp only); (try k_lift B'); (try k_fold)))
  (with_reducible rename GSub _ _ _ => kG0)
  k_steps
  all_goals first
    | exact absurd (show Float64.isZero (fl (max (max a b) c)) = true by with_reducible assumption) (z1 (m := min (min a b) c) (by omega) (by omega) (by assumption))
    | exact absurd (show Float64.isZero (Float64.sub (fl (max (max a b) c)) (fl (min (min a b) c))) = true by with_reducible assumption) (z2 (by omega) (by omega) (by assumption))
    | exact absurd (show Float64.isZero (Float64.add (fl (max (max a b) c)) (fl (min (min a b) c))) = true by with_reducible assumption) (z3 (by omega) (by omega) (by assumption))
    | exact absurd (show Float64.isZero (Float64.sub (Float64.sub _ (fl (max (max a b) c))) (fl (min (min a b) c))) = true by with_reducible assumption) (z4 (by decide +kernel) (by omega) (by omega) (by assumption))
    | ((with_reducible rename News _ _ _ _ => kN)
       (with_reducible rename Fr h₀ _ _ _ => kF)
       exact h _ _ _ _ _ _ kF kN (keepBut_of kG0 (by assumption)) (fresh0 kG0 (by assumption) (List.mem_cons_self ..)))
theorem ct_hls {a b c : Nat} {t1 t2 t3 : Tok} (B : Below A₀ base outer h₀) (F : Fr h₀ L s.heap m) (X₀ : (hd.heap_39 w.params).In h₀) (N : News h₀ L s.heap []) (T : Top p loose mean mg mb h₀) (hd' : d < 800) (hu : u < 8000) (ha : a ≤ 32) (hb : b ≤ 32) (hc : c ≤ 32)
    (h : ∀ h' tk' D v1 v2 t, Fr h₀ L h' m → News h₀ L h' [(D, tup3 v1 (.float (Float64.div (Float64.add (fl (max (max a b) c)) (fl (min (min a b) c))) 4611686018427387904) t) v2)] → KeepBut s.heap h' [] → (∀ q ob, s.heap.get? q = some ob → q ≠ D) → Q (.ref D) { s with heap := h', toks := tk' }) :
    wpAny (model prog w) (arnd d u (envL nm gen co more loc gl cl qual fn code L blt :: outer) gs) (call (.ref 38) [.float (fl a) t1, .float (fl b) t2, .float (fl c) t3] []) Q E s := by
  have hkk0 : (fun (_ : Params → Frag) (_ : OpenLaw) => True) hd.heap_39 PySem.Challenge.rw_sc0065_01 := by k_fill; trivial
  clear hkk0
  refine wpAny_call ?_
  (first
    | (refine' code_defG (by k_asm) (by k_asm) (by k_asm) (by k_asm) (by k_asm) ?kA ?kF ?kK ?k6 ?k7 ?k8 ?k9 ?kB ?_ ?c2 ?c3 ?c4 ?c5; (case kA => exact rfl); (case kF => exact rfl); (case kK => exact rfl); (case k6 => k_is); (case k7 => k_is); (case k8 => k_room); (case k9 => first | exact BindsTo.of_eq rfl | exact binds_K (by k_in) rfl (by k_is) rfl rfl rfl | (refine' kp_binds ?kx ?ke; (case kx => k_in); (case ke => exact fun _ => rfl)) | fail "k_enter: no rule for these arguments"); (case c5 => decide); (case kB => exact locs rfl); (case c2 => exact rfl); (case c3 => exact rfl); (case c4 => exact rfl); k_whole; intro g' L' h' FG' F' N' B' X' T' kG'; (try dsimp only); (try k_lift B'); (try k_fold))
    | (refine' Mine.code_defCG (by k_asm) (by k_asm) (by k_asm) (by k_asm) (by k_asm) ?kA ?kF ?kK ?k6 ?k7 ?k8 ?k9 ?kB ?kD ?_ ?c2 ?c3 ?c4; (case kA => exact rfl); (case kF => exact rfl); (case kK => exact rfl); (case k6 => k_is); (case k7 => k_is); (case k8 => k_room); (case k9 => first | exact BindsTo.of_eq rfl | exact binds_K (by k_in) rfl (by k_is) rfl rfl rfl | (refine' kp_binds ?kx ?ke; (case kx => k_in); (case ke => exact fun _ => rfl)) | fail "k_enter: no rule for these arguments"); (case kB => exact rfl); (case kD => decide +kernel); (case c2 => exact rfl); (case c3 => exact rfl); (case c4 => exact rfl); k_whole; intro g' L' h' tk' cells' FG' F' N' Y' B' X' T' l1 kG'; (try k_lt l1); k_cells Y'; (try simp only [List.cons_append, List.nil_append] at N'); (try dsimp only); (try k_lift B'); (try k_fold)))
  (with_reducible rename GSub _ _ _ => kG0)
  have jm1 : JMark := ⟨⟩
  k_steps
  refine Stop.mk ?_
  walk1
  have jm2 : JMark := ⟨⟩
  k_steps
  all_goals first
    | exact absurd (show Float64.isZero (fl (max (max a b) c)) = true by with_reducible assumption) (z1 (m := min (min a b) c) (by omega) (by omega) (by assumption))
    | exact absurd (show Float64.isZero (Float64.sub (fl (max (max a b) c)) (fl (min (min a b) c))) = true by with_reducible assumption) (z2 (by omega) (by omega) (by assumption))
    | exact absurd (show Float64.isZero (Float64.add (fl (max (max a b) c)) (fl (min (min a b) c))) = true by with_reducible assumption) (z3 (by omega) (by omega) (by assumption))
    | exact absurd (show Float64.isZero (Float64.sub (Float64.sub _ (fl (max (max a b) c))) (fl (min (min a b) c))) = true by with_reducible assumption) (z4 (by decide +kernel) (by omega) (by omega) (by assumption))
    | (refine Stop.mk ?_
       (with_reducible rename News _ _ _ _ => kN)
       (with_reducible rename Fr _ _ _ _ => kF)
       refine if_join (PySem.Str.ofString "s") kF kN (fun Qj hqj => ?_) (fun hj tkj vj Fj Nj => ?_)
       all_goals k_steps
       all_goals first
          | exact absurd (show Float64.isZero (fl (max (max a b) c)) = true by with_reducible assumption) (z1 (m := min (min a b) c) (by omega) (by omega) (by assumption))
          | exact absurd (show Float64.isZero (Float64.sub (fl (max (max a b) c)) (fl (min (min a b) c))) = true by with_reducible assumption) (z2 (by omega) (by omega) (by assumption))
          | exact absurd (show Float64.isZero (Float64.add (fl (max (max a b) c)) (fl (min (min a b) c))) = true by with_reducible assumption) (z3 (by omega) (by omega) (by assumption))
          | exact absurd (show Float64.isZero (Float64.sub (Float64.sub _ (fl (max (max a b) c))) (fl (min (min a b) c))) = true by with_reducible assumption) (z4 (by decide +kernel) (by omega) (by omega) (by assumption))
          | exact hqj _ _ _ (by assumption) (by assumption)
          | ((with_reducible rename News _ _ _ _ => kN)
             (with_reducible rename Fr h₀ _ _ _ => kF)
             exact h _ _ _ _ _ _ kF kN (keepBut_of kG0 (by assumption)) (fresh0 kG0 (by assumption) (List.mem_cons_self ..))))
    | ((with_reducible rename News _ _ _ _ => kN)
       (with_reducible rename Fr h₀ _ _ _ => kF)
       exact h _ _ _ _ _ _ kF kN (keepBut_of kG0 (by assumption)) (fresh0 kG0 (by assumption) (List.mem_cons_self ..)))
end
end Mine
end
theorem Mine.fresh_P_bis : True := by
  w_top off
  trivial
section
open PySem PySem.W PyProof.Rows PySem.Calls
set_option maxRecDepth 100000
set_option maxHeartbeats 4000000
namespace Mine
section
variable {w : World} {A₀ : Around} {E : Value → Shared → Prop} {s : Shared} {base h₀ : Heap} {outer : List Env} {L : Addr} {m : Str → Option Value} {news : List (Addr × Obj)} {mg mb : Str → Option Value} {p : Program} {loose : List Str} {mean : ExcName → Option Value} {Q : Value → Shared → Prop} {d u : Nat} {gs : Option (List Code)}
  {nm : List (Str × NameKind)} {gen co : Bool} {more : List (Str × Const)} {loc gl : Addr} {cl : List (Str × Addr)} {qual : Str} {fn : Option Addr} {code : Value} {blt : Addr}

/-- a while whose map turns alone -/
theorem while_K {prog : Program} {A : Around} {test : Expr} {body : List Stmt} {env : Env} {Q : Flow → Shared → Prop} {m₀ : Str → Option Value} {n₀ : Nat} {pos : Pos} (J : Nat → (Str → Option Value) → Prop) (F : Fr h₀ L s.heap m₀) (N : News h₀ L s.heap news) (hJ : J n₀ m₀)
    (turn : ∀ n m' h tk, J n m' → Fr h₀ L h m' → News h₀ L h news →
      (∀ Q' : Flow → Shared → Prop, (∀ v s₃, Q (.ret v) s₃ → Q' (.ret v) s₃) → (∀ f, f = .next ∨ f = .cont → ∀ n' m'' h'' tk'', n' < n → J n' m'' → Fr h₀ L h'' m'' → News h₀ L h'' news → Q' f { s with heap := h'', toks := tk'' }) →
        wpAny (model prog w) A (isTrue test env (eval test env)) (fun b s₂ => b = true ∧ wpAny (model prog w) A (execs body env) Q' (fun _ _ => False) s₂) (fun _ _ => False) { s with heap := h, toks := tk }) ∨
      wpAny (model prog w) A (isTrue test env (eval test env)) (fun b s₂ => b = false ∧ Q .next s₂) (fun _ _ => False) { s with heap := h, toks := tk }) :
    wpAny (model prog w) A (exec (.While test body [] pos) env) Q E s := by
  refine wpAny_While ?_
  refine codeAny_whileLoop (I := fun n s' => ∃ m' h tk, J n m' ∧ s' = { s with heap := h, toks := tk } ∧ Fr h₀ L h m' ∧ News h₀ L h news) ?_ n₀ ⟨m₀, _, _, hJ, rfl, F, N⟩
  rintro n s' ⟨m', h, tk, hJ, rfl, F, N⟩
  rcases turn n m' h tk hJ F N with ht | ht
  · refine wpAny_mono (ht (fun f s₃ => match f with | .ret v => Q (.ret v) s₃ | .brk => False | _ => ∃ n' m'' h'' tk'', n' < n ∧ J n' m'' ∧ s₃ = { s with heap := h'', toks := tk'' } ∧ Fr h₀ L h'' m'' ∧ News h₀ L h'' news) (fun v s₃ hr => hr) (fun f hf n' m'' h'' tk'' a b d e => by rcases hf with rfl | rfl <;> exact ⟨n', m'', h'', tk'', a, b, rfl, d, e⟩)) (fun b s₂ hb => ?_) fun _ _ e => e.elim
    obtain ⟨rfl, hb⟩ := hb
    rw [if_pos rfl]
    refine wpAny_mono hb (fun f s₃ hf => ?_) fun _ _ e => e.elim
    cases f with
    | ret v => exact hf
    | brk => exact hf.elim
    | next => obtain ⟨n', m'', h'', tk'', a, b, c, d, e⟩ := hf; exact ⟨n', a, m'', h'', tk'', b, c, d, e⟩
    | cont => obtain ⟨n', m'', h'', tk'', a, b, c, d, e⟩ := hf; exact ⟨n', a, m'', h'', tk'', b, c, d, e⟩
  · refine wpAny_mono ht (fun b s₂ hb => ?_) fun _ _ e => e.elim
    obtain ⟨rfl, hb⟩ := hb
    rw [if_neg Bool.false_ne_true]
    exact wpAny_execs_nil hb
/-- a search's map: its two ends, and what its middle holds -/
noncomputable abbrev mBis (m₀ : Str → Option Value) (lo hi : Int) (t1 t2 : Tok) (X : Option Value) : Str → Option Value := fun y => if y = PySem.Str.ofString "lo" then some (.int lo t1) else if y = PySem.Str.ofString "hi" then some (.int hi t2) else if y = PySem.Str.ofString "mid" then X else m₀ y
noncomputable def bisJ (i : Nat) (len : Nat) (m₀ : Str → Option Value) (n : Nat) (m' : Str → Option Value) : Prop :=
  ∃ lo hi t1 t2 X, m' = mBis m₀ lo hi t1 t2 X ∧ 0 ≤ lo ∧ lo ≤ i ∧ (i : Int) ≤ hi ∧ hi ≤ len ∧ (n : Int) = hi - lo
theorem bisJ.start {i len : Nat} {m₀ : Str → Option Value} {t1 t2 : Tok} (h1 : m₀ (PySem.Str.ofString "lo") = some (.int 0 t1)) (h2 : m₀ (PySem.Str.ofString "hi") = some (.int len t2)) (hi : i ≤ len) : bisJ i len m₀ len m₀ :=
  ⟨0, len, t1, t2, m₀ (PySem.Str.ofString "mid"), funext fun y => by
    unfold mBis
    by_cases e1 : y = PySem.Str.ofString "lo"
    · rw [if_pos e1, e1, h1]
    · by_cases e2 : y = PySem.Str.ofString "hi"
      · rw [if_neg e1, if_pos e2, e2, h2]
      · by_cases e3 : y = PySem.Str.ofString "mid"
        · rw [if_neg e1, if_neg e2, if_pos e3, e3]
        · rw [if_neg e1, if_neg e2, if_neg e3], by lia, by lia, by lia, by lia, by lia⟩
theorem ne_lo_hi : ¬ PySem.Str.ofString "lo" = PySem.Str.ofString "hi" := by decide +kernel
theorem ne_lo_mid : ¬ PySem.Str.ofString "lo" = PySem.Str.ofString "mid" := by decide +kernel
theorem ne_hi_mid : ¬ PySem.Str.ofString "hi" = PySem.Str.ofString "mid" := by decide +kernel
theorem mBis_lo {m₀ : Str → Option Value} {lo hi lo' : Int} {t1 t2 t3 : Tok} {X c : Option Value} :
    (fun y => if y = PySem.Str.ofString "lo" then some (.int lo' t3) else (fun y => if y = PySem.Str.ofString "mid" then c else mBis m₀ lo hi t1 t2 X y) y) = mBis m₀ lo' hi t3 t2 c := funext fun y => by
  unfold mBis
  by_cases e1 : y = PySem.Str.ofString "lo"
  · simp [e1]
  · by_cases e3 : y = PySem.Str.ofString "mid"
    · simp [e3, Ne.symm ne_lo_mid, Ne.symm ne_hi_mid]
    · simp [e1, e3]
theorem mBis_hi {m₀ : Str → Option Value} {lo hi hi' : Int} {t1 t2 t3 : Tok} {X c : Option Value} :
    (fun y => if y = PySem.Str.ofString "hi" then some (.int hi' t3) else (fun y => if y = PySem.Str.ofString "mid" then c else mBis m₀ lo hi t1 t2 X y) y) = mBis m₀ lo hi' t1 t3 c := funext fun y => by
  unfold mBis
  by_cases e1 : y = PySem.Str.ofString "lo"
  · simp [e1, ne_lo_hi, ne_lo_mid]
  · by_cases e2 : y = PySem.Str.ofString "hi"
    · simp [e2, Ne.symm ne_lo_hi, ne_hi_mid]
    · by_cases e3 : y = PySem.Str.ofString "mid"
      · simp [e3, Ne.symm ne_lo_mid, Ne.symm ne_hi_mid]
      · simp [e1, e2, e3]
local macro_rules | `(tactic| walk_at "exec While Compare cons nil") => `(tactic| (k_here; refine halt ?_))
theorem mid_in {lo hi : Int} (h : lo < hi) : lo ≤ (lo + hi).fdiv 2 ∧ (lo + hi).fdiv 2 < hi := by
  rw [Int.fdiv_eq_ediv_of_nonneg _ (by decide)]; lia
theorem mid_nat {lo hi M : Int} {len : Nat} (b1 : 0 ≤ lo) (b4 : hi ≤ len) (m : lo ≤ M ∧ M < hi) : M.toNat < len ∧ 0 ≤ M ∧ M < len := by lia
theorem bis_up {i n : Nat} {lo hi M : Int} (b1 : 0 ≤ lo) (b5 : (n : Int) = hi - lo) (m : lo ≤ M ∧ M < hi) (q : M.toNat < i) : (hi - (M + 1)).toNat < n ∧ 0 ≤ M + 1 ∧ M + 1 ≤ i ∧ ((hi - (M + 1)).toNat : Int) = hi - (M + 1) :=
  ⟨by lia, by lia, by lia, by lia⟩
theorem bis_down {i len n : Nat} {lo hi M : Int} (b1 : 0 ≤ lo) (b4 : hi ≤ len) (b5 : (n : Int) = hi - lo) (m : lo ≤ M ∧ M < hi) (q : ¬ M.toNat < i) : (M - lo).toNat < n ∧ (i : Int) ≤ M ∧ M ≤ len ∧ ((M - lo).toNat : Int) = M - lo :=
  ⟨by lia, by lia, by lia, by lia⟩
theorem bis_end {i : Nat} {lo hi : Int} (b2 : lo ≤ i) (b3 : (i : Int) ≤ hi) (h : ¬ lo < hi) : lo = i := by lia
theorem ct_bisl {a : Addr} {x : Int} {xt lt : Tok} {vs : List Value} {ns : List Int} {n : Nat} (B : Below A₀ base outer h₀) (F : Fr h₀ L s.heap m) (X₀ : (hd.heap_39 w.params).In h₀) (N : News h₀ L s.heap [(a, W.listOf vs.toArray n)]) (T : Top p loose mean mg mb h₀) (hd' : d < 800) (hu : u < 8000) (hI : IntsAre vs ns) (hs : ns.Pairwise (· ≤ ·)) (hn : ns.length ≤ 1000)
    (h : ∀ h' tk' t, Fr h₀ L h' m → News h₀ L h' [(a, W.listOf vs.toArray n)] → KeepBut s.heap h' [a] → Q (.int (idxL ns x : Nat) t) { s with heap := h', toks := tk' }) :
    wpAny (model prog w) (arnd d u (envL nm gen co more loc gl cl qual fn code L blt :: outer) gs) (call (.ref 81) [.ref a, .int x xt, .int 0 lt, .none] []) Q E s := by
  have hkk0 : (fun (_ : Params → Frag) (_ : OpenLaw) => True) hd.heap_39 PySem.Challenge.rw_sc0065_01 := by k_fill; trivial
  clear hkk0
  refine wpAny_call ?_
  (first
    | (refine' code_defG (by k_asm) (by k_asm) (by k_asm) (by k_asm) (by k_asm) ?kA ?kF ?kK ?k6 ?k7 ?k8 ?k9 ?kB ?_ ?c2 ?c3 ?c4 ?c5; (case kA => exact rfl); (case kF => exact rfl); (case kK => exact rfl); (case k6 => k_is); (case k7 => k_is); (case k8 => k_room); (case k9 => first | exact BindsTo.of_eq rfl | exact binds_K (by k_in) rfl (by k_is) rfl rfl rfl | (refine' kp_binds ?kx ?ke; (case kx => k_in); (case ke => exact fun _ => rfl)) | fail "k_enter: no rule for these arguments"); (case c5 => decide); (case kB => exact locs rfl); (case c2 => exact rfl); (case c3 => exact rfl); (case c4 => exact rfl); k_whole; intro g' L' h' FG' F' N' B' X' T' kG'; (try dsimp only); (try k_lift B'); (try k_fold))
    | (refine' Mine.code_defCG (by k_asm) (by k_asm) (by k_asm) (by k_asm) (by k_asm) ?kA ?kF ?kK ?k6 ?k7 ?k8 ?k9 ?kB ?kD ?_ ?c2 ?c3 ?c4; (case kA => exact rfl); (case kF => exact rfl); (case kK => exact rfl); (case k6 => k_is); (case k7 => k_is); (case k8 => k_room); (case k9 => first | exact BindsTo.of_eq rfl | exact binds_K (by k_in) rfl (by k_is) rfl rfl rfl | (refine' kp_binds ?kx ?ke; (case kx => k_in); (case ke => exact fun _ => rfl)) | fail "k_enter: no rule for these arguments"); (case kB => exact rfl); (case kD => decide +kernel); (case c2 => exact rfl); (case c3 => exact rfl); (case c4 => exact rfl); k_whole; intro g' L' h' tk' cells' FG' F' N' Y' B' X' T' l1 kG'; (try k_lt l1); k_cells Y'; (try simp only [List.cons_append, List.nil_append] at N'); (try dsimp only); (try k_lift B'); (try k_fold)))
  (with_reducible rename GSub _ _ _ => kG0)
  k_steps
  (with_reducible rename News _ _ _ _ => N1)
  (with_reducible rename Fr _ _ _ _ => F1)
  unfold Halt
  have hlen := hI.length
  have hix := idxL_le ns x
  refine while_K (J := bisJ (idxL ns x) ns.length _) F1 N1 (bisJ.start rfl rfl hix) ?_
  rintro n m' h' tk ⟨lo, hi, t1, t2, X, rfl, b1, b2, b3, b4, b5⟩ F' N'
  by_cases hlt : lo < hi
  · left
    intro Qw hwR hwN
    have hm1 := mid_in hlt
    have hm2 := mid_nat b1 b4 hm1
    have hiff := idxL_iff ns x hs ((lo + hi).fdiv 2).toNat hm2.1
    k_steps
    all_goals (
      (with_reducible rename News _ _ _ _ => kN)
      (with_reducible rename Fr _ _ _ _ => kF)
      first
      | (have qq := bis_up b1 b5 hm1 (hiff.mp (by assumption)); exact hwN _ (by first | exact .inl rfl | exact .inr rfl) (hi - ((lo + hi).fdiv 2 + 1)).toNat _ _ _ qq.1 ⟨(lo + hi).fdiv 2 + 1, hi, _, _, _, mBis_lo, qq.2.1, qq.2.2.1, b3, b4, qq.2.2.2⟩ kF kN)
      | (have qq := bis_down b1 b4 b5 hm1 (fun z => absurd (hiff.mpr z) (by assumption)); exact hwN _ (by first | exact .inl rfl | exact .inr rfl) ((lo + hi).fdiv 2 - lo).toNat _ _ _ qq.1 ⟨lo, (lo + hi).fdiv 2, _, _, _, mBis_hi, b1, b2, qq.2.1, qq.2.2.1, qq.2.2.2⟩ kF kN))
  · right
    k_steps
    · exact decide_eq_false hlt
    · (with_reducible rename News _ _ _ _ => kN)
      (with_reducible rename Fr h₀ _ _ _ => kF)
      have e := bis_end b2 b3 hlt
      rw [e]
      exact h _ _ _ kF kN (keepBut_of kG0 (by assumption))
theorem ct_bisr {a : Addr} {x : Int} {xt lt : Tok} {vs : List Value} {ns : List Int} {n : Nat} (B : Below A₀ base outer h₀) (F : Fr h₀ L s.heap m) (X₀ : (hd.heap_39 w.params).In h₀) (N : News h₀ L s.heap [(a, W.listOf vs.toArray n)]) (T : Top p loose mean mg mb h₀) (hd' : d < 800) (hu : u < 8000) (hI : IntsAre vs ns) (hs : ns.Pairwise (· ≤ ·)) (hn : ns.length ≤ 1000)
    (h : ∀ h' tk' t, Fr h₀ L h' m → News h₀ L h' [(a, W.listOf vs.toArray n)] → KeepBut s.heap h' [a] → Q (.int (idxR ns x : Nat) t) { s with heap := h', toks := tk' }) :
    wpAny (model prog w) (arnd d u (envL nm gen co more loc gl cl qual fn code L blt :: outer) gs) (call (.ref 63) [.ref a, .int x xt, .int 0 lt, .none] []) Q E s := by
  have hkk0 : (fun (_ : Params → Frag) (_ : OpenLaw) => True) hd.heap_39 PySem.Challenge.rw_sc0065_01 := by k_fill; trivial
  clear hkk0
  refine wpAny_call ?_
  (first
    | (refine' code_defG (by k_asm) (by k_asm) (by k_asm) (by k_asm) (by k_asm) ?kA ?kF ?kK ?k6 ?k7 ?k8 ?k9 ?kB ?_ ?c2 ?c3 ?c4 ?c5; (case kA => exact rfl); (case kF => exact rfl); (case kK => exact rfl); (case k6 => k_is); (case k7 => k_is); (case k8 => k_room); (case k9 => first | exact BindsTo.of_eq rfl | exact binds_K (by k_in) rfl (by k_is) rfl rfl rfl | (refine' kp_binds ?kx ?ke; (case kx => k_in); (case ke => exact fun _ => rfl)) | fail "k_enter: no rule for these arguments"); (case c5 => decide); (case kB => exact locs rfl); (case c2 => exact rfl); (case c3 => exact rfl); (case c4 => exact rfl); k_whole; intro g' L' h' FG' F' N' B' X' T' kG'; (try dsimp only); (try k_lift B'); (try k_fold))
    | (refine' Mine.code_defCG (by k_asm) (by k_asm) (by k_asm) (by k_asm) (by k_asm) ?kA ?kF ?kK ?k6 ?k7 ?k8 ?k9 ?kB ?kD ?_ ?c2 ?c3 ?c4; (case kA => exact rfl); (case kF => exact rfl); (case kK => exact rfl); (case k6 => k_is); (case k7 => k_is); (case k8 => k_room); (case k9 => first | exact BindsTo.of_eq rfl | exact binds_K (by k_in) rfl (by k_is) rfl rfl rfl | (refine' kp_binds ?kx ?ke; (case kx => k_in); (case ke => exact fun _ => rfl)) | fail "k_enter: no rule for these arguments"); (case kB => exact rfl); (case kD => decide +kernel); (case c2 => exact rfl); (case c3 => exact rfl); (case c4 => exact rfl); k_whole; intro g' L' h' tk' cells' FG' F' N' Y' B' X' T' l1 kG'; (try k_lt l1); k_cells Y'; (try simp only [List.cons_append, List.nil_append] at N'); (try dsimp only); (try k_lift B'); (try k_fold)))
  (with_reducible rename GSub _ _ _ => kG0)
  k_steps
  (with_reducible rename News _ _ _ _ => N1)
  (with_reducible rename Fr _ _ _ _ => F1)
  unfold Halt
  have hlen := hI.length
  have hix := idxR_le ns x
  refine while_K (J := bisJ (idxR ns x) ns.length _) F1 N1 (bisJ.start rfl rfl hix) ?_
  rintro n m' h' tk ⟨lo, hi, t1, t2, X, rfl, b1, b2, b3, b4, b5⟩ F' N'
  by_cases hlt : lo < hi
  · left
    intro Qw hwR hwN
    have hm1 := mid_in hlt
    have hm2 := mid_nat b1 b4 hm1
    have hiff := idxR_iff ns x hs ((lo + hi).fdiv 2).toNat hm2.1
    k_steps
    all_goals (
      (with_reducible rename News _ _ _ _ => kN)
      (with_reducible rename Fr _ _ _ _ => kF)
      first
      | (have qq := bis_up b1 b5 hm1 (Decidable.byContradiction fun z => absurd (hiff.mpr z) (by assumption)); exact hwN _ (by first | exact .inl rfl | exact .inr rfl) (hi - ((lo + hi).fdiv 2 + 1)).toNat _ _ _ qq.1 ⟨(lo + hi).fdiv 2 + 1, hi, _, _, _, mBis_lo, qq.2.1, qq.2.2.1, b3, b4, qq.2.2.2⟩ kF kN)
      | (have qq := bis_down b1 b4 b5 hm1 (hiff.mp (by assumption)); exact hwN _ (by first | exact .inl rfl | exact .inr rfl) ((lo + hi).fdiv 2 - lo).toNat _ _ _ qq.1 ⟨lo, (lo + hi).fdiv 2, _, _, _, mBis_hi, b1, b2, qq.2.1, qq.2.2.1, qq.2.2.2⟩ kF kN))
  · right
    k_steps
    · exact decide_eq_false hlt
    · (with_reducible rename News _ _ _ _ => kN)
      (with_reducible rename Fr h₀ _ _ _ => kF)
      have e := bis_end b2 b3 hlt
      rw [e]
      exact h _ _ _ kF kN (keepBut_of kG0 (by assumption))
end
end Mine
end
theorem Mine.fresh_P_ins : True := by
  w_top off
  trivial
section
open PySem PySem.W PyProof.Rows PySem.Calls
set_option maxRecDepth 100000
set_option maxHeartbeats 4000000
namespace Mine
section
variable {w : World} {A₀ : Around} {E : Value → Shared → Prop} {s : Shared} {base h₀ : Heap} {outer : List Env} {L : Addr} {m : Str → Option Value} {news : List (Addr × Obj)} {mg mb : Str → Option Value} {p : Program} {loose : List Str} {mean : ExcName → Option Value} {Q : Value → Shared → Prop} {d u : Nat} {gs : Option (List Code)}
  {nm : List (Str × NameKind)} {gen co : Bool} {more : List (Str × Const)} {loc gl : Addr} {cl : List (Str × Addr)} {qual : Str} {fn : Option Addr} {code : Value} {blt : Addr}

theorem ints_insert (x : Int) (t : Tok) : ∀ (i : Nat) {vs : List Value} {ns : List Int}, IntsAre vs ns → IntsAre (vs.take i ++ .int x t :: vs.drop i) (ns.take i ++ x :: ns.drop i)
  | 0, _, _, h => .cons x t h
  | _ + 1, _, _, .nil => .cons x t .nil
  | i + 1, _, _, .cons n u h => .cons n u (ints_insert x t i h)

theorem insert_K {prog : Program} {w : World} {A : Around} {E : Value → Shared → Prop} {s : Shared} {h₀ : Heap} {L D : Addr} {m : Str → Option Value} {news : List (Addr × Obj)} {g : Obj → List (Addr × Obj)} {vs : List Value} {ns : List Int} {n i : Nat} {x : Int} {xt u : Tok} {Q : Value → Shared → Prop}
    (F : Fr h₀ L s.heap m) (N : News h₀ L s.heap news) (U : UpdF D (PySem.W.listOf vs.toArray n) news g) (hI : IntsAre vs ns) (hi : i ≤ ns.length) (hn : ns.length ≤ 1000)
    (h : ∀ h' vs' n', Fr h₀ L h' m → News h₀ L h' (g (PySem.W.listOf vs'.toArray n')) → IntsAre vs' (ns.take i ++ x :: ns.drop i) → Q .none { s with heap := h' }) :
    wpAny (model prog w) A (call (.builtin "list.insert") [.ref D, .int (i : Int) u, .int x xt]) Q E s := by
  generalize hz : (i : Int) = z
  obtain ⟨pre, post, rfl, hg, a, b⟩ := U.split
  have zz := N (D, PySem.W.listOf vs.toArray n) (List.mem_append.mpr (.inr (.head _)))
  have hlen := hI.length
  have hsz : vs.toArray.size ≤ sizeLine := by rw [List.size_toArray, sizeLine_eq]; lia
  have hfit : ¬ (!Builtin.List.listFitsIndex z) = true := by
    unfold Builtin.List.listFitsIndex
    simp
    lia
  have hM := PySem.AutoListH.list_insert_list_int_int_1 D vs.toArray n z u x xt hfit hsz
  have he : (fun xs : Array Value => have k := if z < 0 then (z + ((xs.size : Nat) : Int)).toNat else min z.toNat xs.size; (xs.extract 0 k).push (Value.int x xt) ++ xs.extract k) vs.toArray = (vs.take i ++ .int x xt :: vs.drop i).toArray := by
    dsimp only
    rw [if_neg (by lia), ← hz, Int.toNat_natCast, List.size_toArray, Nat.min_eq_left (by lia)]
    apply Array.toList_inj.mp
    simp
    rw [List.take_of_length_le (by simp)]
  refine call_meets PySem.F.slot_list_insert ⟨_, zz.1, rfl⟩ PySem.F.entry_list_insert (PySem.F.args_list_insert_3 _ _ _) hM ⟨zz.1, ?_⟩
  refine h _ (vs.take i ++ .int x xt :: vs.drop i) (n + 1) (F.change (Heap.SameBut.update ..) zz.2.1 zz.2.2) ?_ ?_
  · rw [hg]
    exact kl_turn _ N a b he (by simp; lia)
  · exact ints_insert x xt i hI
local macro_rules | `(tactic| walk_at "call ref") => `(tactic| (k_here; (with_reducible show wpAny _ _ (call (Value.ref _) _ _) _ _ _); refine Stop.out (P := _) ?_))
local macro_rules | `(tactic| walk_at "call builtin:list.insert") => `(tactic| (k_here; k_dflt (refine' insert_K (by k_asm) (by k_asm) ?U ?i1 ?h1 ?n1 ?_; (case U => k_updF); (case i1 => assumption); (case h1 => first | exact idxL_le _ _ | exact idxR_le _ _); (case n1 => assumption); intro h' vs' n' F' N' hI')))
theorem ct_insl {a : Addr} {x : Int} {xt : Tok} {vs : List Value} {ns : List Int} {n : Nat} (B : Below A₀ base outer h₀) (F : Fr h₀ L s.heap m) (X₀ : (hd.heap_39 w.params).In h₀) (N : News h₀ L s.heap [(a, W.listOf vs.toArray n)]) (T : Top p loose mean mg mb h₀) (hd' : d < 790) (hu : u < 7900) (hI : IntsAre vs ns) (hs : ns.Pairwise (· ≤ ·)) (hn : ns.length ≤ 1000)
    (h : ∀ h' tk' vs' n', Fr h₀ L h' m → News h₀ L h' [(a, W.listOf vs'.toArray n')] → IntsAre vs' (insL ns x) → KeepBut s.heap h' [a] → Q .none { s with heap := h', toks := tk' }) :
    wpAny (model prog w) (arnd d u (envL nm gen co more loc gl cl qual fn code L blt :: outer) gs) (call (.ref 72) [.ref a, .int x xt] []) Q E s := by
  have hkk0 : (fun (_ : Params → Frag) (_ : OpenLaw) => True) hd.heap_39 PySem.Challenge.rw_sc0065_01 := by k_fill; trivial
  clear hkk0
  refine wpAny_call ?_
  (first
    | (refine' code_defG (by k_asm) (by k_asm) (by k_asm) (by k_asm) (by k_asm) ?kA ?kF ?kK ?k6 ?k7 ?k8 ?k9 ?kB ?_ ?c2 ?c3 ?c4 ?c5; (case kA => exact rfl); (case kF => exact rfl); (case kK => exact rfl); (case k6 => k_is); (case k7 => k_is); (case k8 => k_room); (case k9 => first | exact BindsTo.of_eq rfl | exact binds_K (by k_in) rfl (by k_is) rfl rfl rfl | (refine' kp_binds ?kx ?ke; (case kx => k_in); (case ke => exact fun _ => rfl)) | fail "k_enter: no rule for these arguments"); (case c5 => decide); (case kB => exact locs rfl); (case c2 => exact rfl); (case c3 => exact rfl); (case c4 => exact rfl); k_whole; intro g' L' h' FG' F' N' B' X' T' kG'; (try dsimp only); (try k_lift B'); (try k_fold))
    | (refine' Mine.code_defCG (by k_asm) (by k_asm) (by k_asm) (by k_asm) (by k_asm) ?kA ?kF ?kK ?k6 ?k7 ?k8 ?k9 ?kB ?kD ?_ ?c2 ?c3 ?c4; (case kA => exact rfl); (case kF => exact rfl); (case kK => exact rfl); (case k6 => k_is); (case k7 => k_is); (case k8 => k_room); (case k9 => first | exact BindsTo.of_eq rfl | exact binds_K (by k_in) rfl (by k_is) rfl rfl rfl | (refine' kp_binds ?kx ?ke; (case kx => k_in); (case ke => exact fun _ => rfl)) | fail "k_enter: no rule for these arguments"); (case kB => exact rfl); (case kD => decide +kernel); (case c2 => exact rfl); (case c3 => exact rfl); (case c4 => exact rfl); k_whole; intro g' L' h' tk' cells' FG' F' N' Y' B' X' T' l1 kG'; (try k_lt l1); k_cells Y'; (try simp only [List.cons_append, List.nil_append] at N'); (try dsimp only); (try k_lift B'); (try k_fold)))
  (with_reducible rename GSub _ _ _ => kG0)
  k_steps
  refine Stop.mk ?_
  refine' ct_bisl ?xk1 ?xk2 ?xk3 ?xk4 ?xk5 ?xd1 ?xu1 ?xi1 ?xs1 ?xn1 ?_
  case xk1 => k_asm
  case xk2 => k_asm
  case xk3 => k_asm
  case xk4 => k_asm
  case xk5 => k_asm
  case xd1 => ((try dsimp only); omega)
  case xu1 => ((try dsimp only); omega)
  case xi1 => assumption
  case xs1 => assumption
  case xn1 => assumption
  intro h' tk' t' F' N' k'
  k_steps
  (with_reducible rename News _ _ _ _ => kN)
  (with_reducible rename Fr h₀ _ _ _ => kF)
  exact h _ _ _ _ kF kN (by assumption) (keepBut_of kG0 (by assumption))
theorem ct_insr {a : Addr} {x : Int} {xt : Tok} {vs : List Value} {ns : List Int} {n : Nat} (B : Below A₀ base outer h₀) (F : Fr h₀ L s.heap m) (X₀ : (hd.heap_39 w.params).In h₀) (N : News h₀ L s.heap [(a, W.listOf vs.toArray n)]) (T : Top p loose mean mg mb h₀) (hd' : d < 790) (hu : u < 7900) (hI : IntsAre vs ns) (hs : ns.Pairwise (· ≤ ·)) (hn : ns.length ≤ 1000)
    (h : ∀ h' tk' vs' n', Fr h₀ L h' m → News h₀ L h' [(a, W.listOf vs'.toArray n')] → IntsAre vs' (insR ns x) → KeepBut s.heap h' [a] → Q .none { s with heap := h', toks := tk' }) :
    wpAny (model prog w) (arnd d u (envL nm gen co more loc gl cl qual fn code L blt :: outer) gs) (call (.ref 54) [.ref a, .int x xt] []) Q E s := by
  have hkk0 : (fun (_ : Params → Frag) (_ : OpenLaw) => True) hd.heap_39 PySem.Challenge.rw_sc0065_01 := by k_fill; trivial
  clear hkk0
  refine wpAny_call ?_
  (first
    | (refine' code_defG (by k_asm) (by k_asm) (by k_asm) (by k_asm) (by k_asm) ?kA ?kF ?kK ?k6 ?k7 ?k8 ?k9 ?kB ?_ ?c2 ?c3 ?c4 ?c5; (case kA => exact rfl); (case kF => exact rfl); (case kK => exact rfl); (case k6 => k_is); (case k7 => k_is); (case k8 => k_room); (case k9 => first | exact BindsTo.of_eq rfl | exact binds_K (by k_in) rfl (by k_is) rfl rfl rfl | (refine' kp_binds ?kx ?ke; (case kx => k_in); (case ke => exact fun _ => rfl)) | fail "k_enter: no rule for these arguments"); (case c5 => decide); (case kB => exact locs rfl); (case c2 => exact rfl); (case c3 => exact rfl); (case c4 => exact rfl); k_whole; intro g' L' h' FG' F' N' B' X' T' kG'; (try dsimp only); (try k_lift B'); (try k_fold))
    | (refine' Mine.code_defCG (by k_asm) (by k_asm) (by k_asm) (by k_asm) (by k_asm) ?kA ?kF ?kK ?k6 ?k7 ?k8 ?k9 ?kB ?kD ?_ ?c2 ?c3 ?c4; (case kA => exact rfl); (case kF => exact rfl); (case kK => exact rfl); (case k6 => k_is); (case k7 => k_is); (case k8 => k_room); (case k9 => first | exact BindsTo.of_eq rfl | exact binds_K (by k_in) rfl (by k_is) rfl rfl rfl | (refine' kp_binds ?kx ?ke; (case kx => k_in); (case ke => exact fun _ => rfl)) | fail "k_enter: no rule for these arguments"); (case kB => exact rfl); (case kD => decide +kernel); (case c2 => exact rfl); (case c3 => exact rfl); (case c4 => exact rfl); k_whole; intro g' L' h' tk' cells' FG' F' N' Y' B' X' T' l1 kG'; (try k_lt l1); k_cells Y'; (try simp only [List.cons_append, List.nil_append] at N'); (try dsimp only); (try k_lift B'); (try k_fold)))
  (with_reducible rename GSub _ _ _ => kG0)
  k_steps
  refine Stop.mk ?_
  refine' ct_bisr ?xk1 ?xk2 ?xk3 ?xk4 ?xk5 ?xd1 ?xu1 ?xi1 ?xs1 ?xn1 ?_
  case xk1 => k_asm
  case xk2 => k_asm
  case xk3 => k_asm
  case xk4 => k_asm
  case xk5 => k_asm
  case xd1 => ((try dsimp only); omega)
  case xu1 => ((try dsimp only); omega)
  case xi1 => assumption
  case xs1 => assumption
  case xn1 => assumption
  intro h' tk' t' F' N' k'
  k_steps
  (with_reducible rename News _ _ _ _ => kN)
  (with_reducible rename Fr h₀ _ _ _ => kF)
  exact h _ _ _ _ kF kN (by assumption) (keepBut_of kG0 (by assumption))
end
end Mine
end
section
open PySem PySem.W PyProof.Rows PySem.Calls
set_option maxRecDepth 100000
set_option maxHeartbeats 4000000
namespace Mine
section
variable {w : World} {A₀ : Around} {E : Value → Shared → Prop} {s : Shared} {base h₀ : Heap} {outer : List Env} {L : Addr} {m : Str → Option Value} {news : List (Addr × Obj)} {mg mb : Str → Option Value} {p : Program} {loose : List Str} {mean : ExcName → Option Value} {Q : Value → Shared → Prop} {d u : Nat} {gs : Option (List Code)}
  {nm : List (Str × NameKind)} {gen co : Bool} {more : List (Str × Const)} {loc gl : Addr} {cl : List (Str × Addr)} {qual : Str} {fn : Option Addr} {code : Value} {blt : Addr}

/-- a frame's map: an index, an item -/
noncomputable abbrev mKx (m₀ : Str → Option Value) (K X : Option Value) : Str → Option Value := fun y => if y = PySem.Str.ofString "x" then X else if y = PySem.Str.ofString "k" then K else m₀ y
theorem mKx_start {m₀ : Str → Option Value} : m₀ = mKx m₀ (m₀ (PySem.Str.ofString "k")) (m₀ (PySem.Str.ofString "x")) := funext fun y => by
  unfold mKx
  by_cases e : y = PySem.Str.ofString "x"
  · rw [if_pos e, e]
  · by_cases e2 : y = PySem.Str.ofString "k"
    · rw [if_neg e, if_pos e2, e2]
    · rw [if_neg e, if_neg e2]
theorem mKx_set {m₀ : Str → Option Value} {K X K' X' : Option Value} : (fun y => if y = PySem.Str.ofString "x" then X' else if y = PySem.Str.ofString "k" then K' else mKx m₀ K X y) = mKx m₀ K' X' := funext fun y => by
  unfold mKx
  by_cases e : y = PySem.Str.ofString "x"
  · simp [e]
  · by_cases e2 : y = PySem.Str.ofString "k" <;> simp [e, e2]
/-- four ints in a list -/
noncomputable abbrev four (a b c d : Int) (ta tb tc td : Tok) (n : Nat) : Obj := PySem.W.listOf #[.int a ta, .int b tb, .int c tc, .int d td] n
noncomputable def InB (B a b c d : Int) : Prop := (0 ≤ a ∧ a ≤ B) ∧ (0 ≤ b ∧ b ≤ B) ∧ (0 ≤ c ∧ c ≤ B) ∧ (0 ≤ d ∧ d ≤ B)
theorem enum_tot {prog : Program} {A : Around} {body : List Stmt} {env : Env} {R : Result → Shared → Prop} {pk px pt : Pos} {x1 : Nat} {T e it D : Addr} {vs : List Value} {ns : List Int} {nT nD : Nat} {a₀ b₀ c₀ d₀ : Int} {ta tb tc td : Tok} {m₀ : Str → Option Value}
    (hh : A.handled = none) (hL : env.locals = L) (hxi : env.kindOf "k" = some .local) (hxv : env.kindOf "x" = some .local)
    (hp : (env.scope.kind == .class || (env.scope.kind == .module && env.locals != env.globals)) = false)
    (F : Fr h₀ L s.heap m₀) (N : News h₀ L s.heap [(T, four a₀ b₀ c₀ d₀ ta tb tc td nT), (D, PySem.W.listOf vs.toArray nD)]) (hI : IntsAre vs ns) (hB : InB 257 a₀ b₀ c₀ d₀)
    (he : IsEnum s.heap e it 0 .none) (hit : s.heap.IsListIter it D 0) (hne : (@LT.lt Nat _ D it) ∧ (@LT.lt Nat _ it e) ∧ (@LT.lt Nat _ T it)) (he0 : h₀.get? e = none) (hi0 : h₀.get? it = none) (heL : e ≠ L) (hiL : it ≠ L)
    (turn : ∀ (i : Nat) v h tk K t eo ito a b c d ta tb tc td nT, ns[i]? = some v → InB (257 + i * 1000000) a b c d → Fr h₀ L h (mKx m₀ (some (.int (i : Int) K)) (some (.int v t))) → News h₀ L h [(T, four a b c d ta tb tc td nT), (e, eo), (it, ito), (D, PySem.W.listOf vs.toArray nD)] →
      wpAny (model prog w) A (execs body env) (fun fl s₃ => match fl with
        | .ret _ => False
        | .brk => False
        | _ => Halt (∃ K' X' h'' tk'' a b c d ta tb tc td nT, s₃ = { s with heap := h'', toks := tk'' } ∧ InB (257 + ((i + 1 : Nat) : Int) * 1000000) a b c d ∧ Fr h₀ L h'' (mKx m₀ K' X') ∧ News h₀ L h'' [(T, four a b c d ta tb tc td nT), (e, eo), (it, ito), (D, PySem.W.listOf vs.toArray nD)])) (fun _ _ => False) { s with heap := h, toks := tk })
    (done : ∀ h' tk' K X a b c d ta tb tc td nT, InB (257 + ns.length * 1000000) a b c d → Fr h₀ L h' (mKx m₀ K X) → News h₀ L h' [(T, four a b c d ta tb tc td nT)] → R (.ok .next) { s with heap := h', toks := tk' }) :
    codeAny (model prog w) A (.forLoop (.Tuple [.Name "k" pk, .Name "x" px] x1 pt) (.ref e) body [] env) R s := by
  subst hL
  have hlen := hI.length
  refine codeAny_forLoop_any
    (fun k s' => ∃ h' tk K X i old a b c d ta tb tc td nT eo ito, s' = { s with heap := h', toks := tk } ∧ IsEnum h' e it ((i : Nat) : Int) old ∧ h'.IsListIter it D i ∧ Fr h₀ env.locals h' (mKx m₀ K X) ∧ News h₀ env.locals h' [(T, four a b c d ta tb tc td nT), (e, eo), (it, ito), (D, PySem.W.listOf vs.toArray nD)] ∧ InB (257 + i * 1000000) a b c d ∧ i ≤ ns.length ∧ k = ns.length + 1 - i) ?_ (ns.length + 1) ?_
  · intro k s' hInv
    refine wrapG ?_
    intro Pw hPw
    refine wrapG ?_
    intro Pw9 hPw9
    obtain ⟨H, tk, K, X, i, old, a, b, c, d, ta, tb, tc, td, nT, eo, ito, rfl, he', hit', F, N, hB, hi, rfl⟩ := hInv
    refine hPw9 ?_
    refine hPw ?_
    refine hideQ ?_
    intro Qn kQn
    have hND := N (D, PySem.W.listOf vs.toArray nD) (by k_mem)
    have hNT := N (T, four a b c d ta tb tc td nT) (by k_mem)
    have hl' : H.IsList D vs.toArray := ⟨_, hND.1, rfl, _, rfl⟩
    cases hv : ns[i]? with
    | none =>
      have hsz : i = ns.length := Nat.le_antisymm hi (by simpa using hv)
      have hv' : vs.toArray[i]? = none := by simp; omega
      refine wpAny_pyNext_enum_end (s := { s with heap := H, toks := tk }) hh he' hit' hl' hv' fun h₁ he₁ => kQn.out _ _ (wpAny_execs_nil ?_)
      refine done h₁ tk K X a b c d ta tb tc td nT (hsz ▸ hB) ⟨F.ns.extBut he₁ (Ne.symm hiL), fun b o q => he₁ b o (fun z => by rw [z, hi0] at q; cases q) (F.keep b o q), F.above⟩ (fun p hp => ?_)
      rw [List.mem_singleton.mp hp]
      exact ⟨he₁ _ _ (fun z => absurd z (Nat.ne_of_lt hne.2.2)) hNT.1, hNT.2⟩
    | some v =>
      obtain ⟨t, hx⟩ := hI.get i v hv
      have hlt : i < ns.length := (List.getElem?_eq_some_iff.mp hv).1
      have hv' : vs.toArray[i]? = some (.int v t) := by simpa using hx
      have heH : e < H.objs.size := Heap.lt_size he'
      have hLH : env.locals < H.objs.size := F.ns.lt
      obtain ⟨oi, hoi, _⟩ := id hit'
      have hiH : it < H.objs.size := Heap.lt_size hoi
      have hei : e ≠ it := Ne.symm (Nat.ne_of_lt hne.2.1)
      refine wpAny_pyNext_enum_item (s := { s with heap := H, toks := tk }) he' hit' hl' hv' hei fun h₁ heo hit₁ ht₁ hz₁ hk₁ => ?_
      refine kQn.out _ _ ?_
      refine hideQ ?_
      intro Q2 kQ2
      refine wpAny_letOwnedTupleGo_enum heo fun h₂ he₂ hs₂ => ?_
      refine kQ2.out _ _ ?_
      refine hideQ ?_
      intro Q3 kQ3
      replace hs₂ : Heap.SameBut e h₁ h₂ := hs₂
      have ht₂ : h₂.IsTuple H.objs.size #[.int i tk, .int v t] := ⟨_, (hs₂.2 _ (Nat.ne_of_gt heH)).trans ht₁, rfl, _, rfl⟩
      have hz₂ : h₂.objs.size = H.objs.size + 1 := hs₂.1.trans hz₁
      refine wpAny_assign_Tuple hh ht₂ rfl rfl fun h₃ hx₃ => ?_
      replace hx₃ : Heap.ExtBut h₂.objs.size h₂ h₃ := hx₃
      have old₃ : ∀ b o, b < H.objs.size → h₂.get? b = some o → h₃.get? b = some o := fun b o hb x => hx₃ b o (by rw [hz₂]; exact Nat.ne_of_lt (Nat.lt_succ_of_lt hb)) x
      have hn₃ : h₃.Ns env.locals (mKx m₀ K X) := (F.ns.at fun o x => hk₁ _ o (Ne.symm heL) (Ne.symm hiL) x).sameBut hs₂ (Ne.symm heL) |>.at fun o x => old₃ _ o hLH x
      show wpAny _ A (do holding [.int v t] (assign (.Name "k" pk) env (.int i tk)); do holding [] (assign (.Name "x" px) env (.int v t)); pure ()) _ _ _
      refine wpAny_bind (wpAny_holding (wpAny_assign_Name (wpAny_storeName_local hxi hn₃ (fun h₄ hn₄ hs₄ => ?_) hp)))
      replace hs₄ : Heap.SameBut env.locals h₃ h₄ := hs₄
      refine wpAny_bind (wpAny_holding (wpAny_assign_Name (wpAny_storeName_local hxv hn₄ (fun h₅ hn₅ hs₅ => wpAny_pure ?_) hp)))
      replace hs₅ : Heap.SameBut env.locals h₄ h₅ := hs₅
      rw [show (fun (x : Str) => if x = PySem.Str.ofString "x" then some (Value.int v t) else if x = PySem.Str.ofString "k" then some (Value.int (i : Int) tk) else mKx m₀ K X x) = mKx m₀ (some (.int (i : Int) tk)) (some (.int v t)) from mKx_set] at hn₅
      have up : ∀ b o, b ≠ env.locals → b < H.objs.size → h₂.get? b = some o → h₅.get? b = some o := fun b o hbL hb x =>
        hs₅.extBut b o hbL (hs₄.extBut b o hbL (old₃ b o hb x))
      have keep5 : ∀ b o, b ≠ env.locals → b ≠ e → b ≠ it → H.get? b = some o → h₅.get? b = some o := fun b o hbL hbe hbi x => up b o hbL (Heap.lt_size x) (hs₂.extBut b o hbe (hk₁ b o hbe hbi x))
      have he₅ : IsEnum h₅ e it ((i : Int) + 1) (.int v t) := up e _ heL heH he₂
      have hit₅ : h₅.IsListIter it D (i + 1) := (hit₁.extBut hs₂.extBut (Ne.symm hei)).at fun o x => up it o hiL hiH x
      obtain ⟨oi₅, hoi₅, hoi6⟩ := id hit₅
      have F₅ : Fr h₀ env.locals h₅ (mKx m₀ (some (.int (i : Int) tk)) (some (.int v t))) := ⟨hn₅, fun b o q => keep5 b o (Nat.ne_of_lt (Nat.lt_of_lt_of_le (Heap.lt_size q) F.above)) (fun z => by rw [z, he0] at q; cases q) (fun z => by rw [z, hi0] at q; cases q) (F.keep b o q), F.above⟩
      have N₅ : News h₀ env.locals h₅ [(T, four a b c d ta tb tc td nT), (e, { cls := .type "enumerate", dict := none, data := .fields #[.none, .bool false, .ref it, rawInt ((i : Int) + 1), .none, .int v t], slots := #[] }), (it, oi₅), (D, PySem.W.listOf vs.toArray nD)] := fun p hp => by
        simp only [List.mem_cons, List.not_mem_nil, or_false] at hp
        rcases hp with rfl | rfl | rfl | rfl
        · exact ⟨keep5 _ _ hNT.2.1 (fun z => absurd z (Nat.ne_of_lt (Nat.lt_trans hne.2.2 hne.2.1))) (fun z => absurd z (Nat.ne_of_lt hne.2.2)) hNT.1, hNT.2⟩
        · exact ⟨he₅, heL, he0⟩
        · exact ⟨hoi₅, hiL, hi0⟩
        · exact ⟨keep5 _ _ hND.2.1 (fun z => absurd z (Nat.ne_of_lt (Nat.lt_trans hne.1 hne.2.1))) (fun z => absurd z (Nat.ne_of_lt hne.1)) hND.1, hND.2⟩
      refine kQ3.out _ _ ?_
      refine wpAny_mono (turn i v h₅ _ tk t _ oi₅ a b c d ta tb tc td nT hv hB F₅ N₅) (fun f s₃ h₆ => ?_) fun _ _ x => x.elim
      have fin : (∃ K' X' h'' tk'' a b c d ta tb tc td nT, s₃ = { s with heap := h'', toks := tk'' } ∧ InB (257 + ((i + 1 : Nat) : Int) * 1000000) a b c d ∧ Fr h₀ env.locals h'' (mKx m₀ K' X') ∧ News h₀ env.locals h'' [(T, four a b c d ta tb tc td nT), (e, { cls := .type "enumerate", dict := none, data := .fields #[.none, .bool false, .ref it, rawInt ((i : Int) + 1), .none, .int v t], slots := #[] }), (it, oi₅), (D, PySem.W.listOf vs.toArray nD)]) →
          ∃ m, m < ns.length + 1 - i ∧ ∃ h' tk K X i old a b c d ta tb tc td nT eo ito, s₃ = { s with heap := h', toks := tk } ∧ IsEnum h' e it ((i : Nat) : Int) old ∧ h'.IsListIter it D i ∧ Fr h₀ env.locals h' (mKx m₀ K X) ∧ News h₀ env.locals h' [(T, four a b c d ta tb tc td nT), (e, eo), (it, ito), (D, PySem.W.listOf vs.toArray nD)] ∧ InB (257 + i * 1000000) a b c d ∧ i ≤ ns.length ∧ m = ns.length + 1 - i := by
        intro hInv
        refine wrapG ?_
        intro Pw hPw
        refine wrapG ?_
        intro Pw9 hPw9
        obtain ⟨K', X', hp6, tk₆, a', b', c', d', ta', tb', tc', td', nT', rfl, hB', F₆, N₆⟩ := hInv
        refine hPw9 ?_
        refine hPw ?_
        refine ⟨ns.length + 1 - (i + 1), by omega, hp6, tk₆, K', X', i + 1, .int v t, a', b', c', d', ta', tb', tc', td', nT', _, oi₅, rfl, ?_, ⟨oi₅, (N₆ (it, oi₅) (by k_mem)).1, hoi6⟩, F₆, N₆, hB', hlt, rfl⟩
        have : ((i + 1 : Nat) : Int) = (i : Int) + 1 := by push_cast; rfl
        rw [this]
        exact (N₆ (e, _) (by k_mem)).1
      cases f with
      | ret v => exact h₆.elim
      | brk => exact h₆.elim
      | next => exact fin h₆
      | cont => exact fin h₆
  · obtain ⟨oi, hoi, hoi2⟩ := id hit
    refine ⟨s.heap, s.toks, _, _, 0, .none, a₀, b₀, c₀, d₀, ta, tb, tc, td, nT, { cls := .type "enumerate", dict := none, data := .fields #[.none, .bool false, .ref it, rawInt 0, .none, .none], slots := #[] }, oi, rfl, he, hit, (by rw [← mKx_start]; exact F), fun p hp => ?_, by simpa using hB, Nat.zero_le _, rfl⟩
    simp only [List.mem_cons, List.not_mem_nil, or_false] at hp
    rcases hp with rfl | rfl | rfl | rfl
    · exact N _ (by simp)
    · exact ⟨he, heL, he0⟩
    · exact ⟨hoi, hiL, hi0⟩
    · exact N _ (by simp)
end
end Mine
end
theorem Mine.fresh_P_tot : True := by
  w_top off
  trivial
section
open PySem PySem.W PyProof.Rows PySem.Calls
set_option maxRecDepth 100000
set_option maxHeartbeats 4000000
local macro_rules | `(tactic| walk_at "none such") => `(tactic| skip)
namespace Mine
section
variable {w : World} {A₀ : Around} {E : Value → Shared → Prop} {s : Shared} {base h₀ : Heap} {outer : List Env} {L : Addr} {m : Str → Option Value} {news : List (Addr × Obj)} {mg mb : Str → Option Value} {p : Program} {loose : List Str} {mean : ExcName → Option Value} {Q : Value → Shared → Prop} {d u : Nat} {gs : Option (List Code)}
  {nm : List (Str × NameKind)} {gen co : Bool} {more : List (Str × Const)} {loc gl : Addr} {cl : List (Str × Addr)} {qual : Str} {fn : Option Addr} {code : Value} {blt : Addr}
theorem tot_keep {a i : Int} (h : 0 ≤ a ∧ a ≤ 257 + i * 1000000) : 0 ≤ a ∧ a ≤ 257 + (i + 1) * 1000000 := by lia
theorem tot_up {a i x : Int} (h : 0 ≤ a ∧ a ≤ 257 + i * 1000000) (hx : 0 ≤ x ∧ x < 1000000) : 0 ≤ a + x ∧ a + x ≤ 257 + (i + 1) * 1000000 := by lia
theorem tot_end {a : Int} {k : Nat} (hk : k ≤ 63) (h : 0 ≤ a ∧ a ≤ 257 + (k : Int) * 1000000) : 0 ≤ a ∧ a ≤ 70000000 := by lia
theorem Halt.of {P : Prop} (h : P) : Halt P := h
local macro_rules | `(tactic| walk_at "setItem ref int") => `(tactic| (k_here; refine halt ?_))
local macro_rules | `(tactic| walk_at "exec For Tuple Call") => `(tactic| (k_here; refine halt ?_))
theorem mod4 (z : Int) : z % 4 = 0 ∨ z % 4 = 1 ∨ z % 4 = 2 ∨ z % 4 = 3 := by lia
theorem mod4_lt (z : Int) : 0 ≤ z.fmod 4 ∧ z.fmod 4 < ((1 + 1 + 1 + 1 : Nat) : Int) ∧ z.fmod 4 < 2 ^ 63 := by
  rw [Int.fmod_eq_emod_of_nonneg _ (by decide)]
  exact ⟨Int.emod_nonneg _ (by decide), Int.emod_lt_of_pos _ (by decide), Int.lt_trans (Int.emod_lt_of_pos _ (show (0 : Int) < 4 by decide)) (by decide)⟩
theorem ct_totals {l : Addr} {vs : List Value} {ns : List Int} (B : Below A₀ base outer h₀) (F : Fr h₀ L s.heap m) (X₀ : (hd.heap_39 w.params).In h₀) (N : News h₀ L s.heap []) (T : Top p loose mean mg mb h₀) (hd' : d < 800) (hu : u < 8000) (hl : base.IsList l vs.toArray) (hI : IntsAre vs ns) (hn : ns.length ≤ 63)
    (h : ∀ h' tk' T a b c d ta tb tc td nT, Fr h₀ L h' m → News h₀ L h' [(T, four a b c d ta tb tc td nT)] → InB 70000000 a b c d → KeepBut s.heap h' [] → (∀ q ob, s.heap.get? q = some ob → q ≠ T) → Q (.ref T) { s with heap := h', toks := tk' }) :
    wpAny (model prog w) (arnd d u (envL nm gen co more loc gl cl qual fn code L blt :: outer) gs) (call (.ref 154) [.ref l] []) Q E s := by
  have hkk0 : (fun (_ : Params → Frag) (_ : OpenLaw) => True) hd.heap_39 PySem.Challenge.rw_sc0065_01 := by k_fill; trivial
  clear hkk0
  refine wpAny_call ?_
  (first
    | (refine' code_defG (by k_asm) (by k_asm) (by k_asm) (by k_asm) (by k_asm) ?kA ?kF ?kK ?k6 ?k7 ?k8 ?k9 ?kB ?_ ?c2 ?c3 ?c4 ?c5; (case kA => exact rfl); (case kF => exact rfl); (case kK => exact rfl); (case k6 => k_is); (case k7 => k_is); (case k8 => k_room); (case k9 => first | exact BindsTo.of_eq rfl | exact binds_K (by k_in) rfl (by k_is) rfl rfl rfl | (refine' kp_binds ?kx ?ke; (case kx => k_in); (case ke => exact fun _ => rfl)) | fail "k_enter: no rule for these arguments"); (case c5 => decide); (case kB => exact locs rfl); (case c2 => exact rfl); (case c3 => exact rfl); (case c4 => exact rfl); k_whole; intro g' L' h' FG' F' N' B' X' T' kG'; (try dsimp only); (try k_lift B'); (try k_fold))
    | (refine' Mine.code_defCG (by k_asm) (by k_asm) (by k_asm) (by k_asm) (by k_asm) ?kA ?kF ?kK ?k6 ?k7 ?k8 ?k9 ?kB ?kD ?_ ?c2 ?c3 ?c4; (case kA => exact rfl); (case kF => exact rfl); (case kK => exact rfl); (case k6 => k_is); (case k7 => k_is); (case k8 => k_room); (case k9 => first | exact BindsTo.of_eq rfl | exact binds_K (by k_in) rfl (by k_is) rfl rfl rfl | (refine' kp_binds ?kx ?ke; (case kx => k_in); (case ke => exact fun _ => rfl)) | fail "k_enter: no rule for these arguments"); (case kB => exact rfl); (case kD => decide +kernel); (case c2 => exact rfl); (case c3 => exact rfl); (case c4 => exact rfl); k_whole; intro g' L' h' tk' cells' FG' F' N' Y' B' X' T' l1 kG'; (try k_lt l1); k_cells Y'; (try simp only [List.cons_append, List.nil_append] at N'); (try dsimp only); (try k_lift B'); (try k_fold)))
  (with_reducible rename GSub _ _ _ => kG0)
  k_steps
  unfold Halt
  refine wpAny_For ?_
  k_steps
  rename News _ _ _ _ => N1
  rename Fr _ _ _ _ => F1
  rename IntsAre _ (List.take 63 ns) => hI1
  rename (List.take 63 ns).length = min 63 ns.length => hc1
  have hD := (N1 _ (List.mem_cons_self ..))
  have hT := (N1 _ (List.mem_cons_of_mem _ (List.mem_cons_self ..)))
  dsimp only at hD hT
  have sz : ∀ (h : Heap) b o, h.get? b = some o → @LT.lt Nat _ b h.objs.size := fun h b o e => Heap.lt_size e
  have q1 := sz _ _ _ hD.1
  have q2 := sz _ _ _ hT.1
  refine call_enumerate_list ⟨_, hD.1, rfl, _, rfl⟩ fun h₂ he hit hz hk => ?_
  refine wpAny_pyIter_enum he ?_
  refine enum_tot rfl rfl rfl rfl rfl (F1.keeps hk) (fun p hp => ⟨hk _ _ (N1 p (by simp only [List.mem_cons, List.not_mem_nil, or_false] at hp ⊢; exact hp.symm)).1, (N1 p (by simp only [List.mem_cons, List.not_mem_nil, or_false] at hp ⊢; exact hp.symm)).2⟩) hI1 (by unfold InB; omega) he hit ⟨q1, Nat.lt_succ_self _, q2⟩ ?_ ?_ ?_ ?_ ?_ ?_
  · exact ktu_new F1 (Nat.le_add_right _ _)
  · exact ktu_new F1 (Nat.le_refl _)
  · exact Nat.ne_of_gt (Nat.lt_succ_of_lt F1.ns.lt)
  · exact Nat.ne_of_gt F1.ns.lt
  · intro i v h₃ tk K t eo ito a b c d ta tb tc td nT hv hB F2 N2
    dsimp only at N2 F2
    clear N1 F1
    have hi4 : ((i : Int)).fmod 4 = 0 ∨ ((i : Int)).fmod 4 = 1 ∨ ((i : Int)).fmod 4 = 2 ∨ ((i : Int)).fmod 4 = 3 := by
      rw [Int.fmod_eq_emod_of_nonneg _ (by decide)]; exact mod4 _
    obtain ⟨hm1, hm2, hm3⟩ := mod4_lt (i : Int)
    have hv6 : 0 ≤ v.fmod 1000000 ∧ v.fmod 1000000 < 1000000 := by
      rw [Int.fmod_eq_emod_of_nonneg _ (by decide)]
      exact ⟨Int.emod_nonneg _ (by decide), Int.emod_lt_of_pos _ (by decide)⟩
    k_steps
    unfold InB at hB
    push_cast at hB
    refine Halt.of ?_
    rcases hi4 with e | e | e | e <;> (
      rw [e]
      (refine' ki_set F2 N2 ?a ?b ?e ?U ?_; (case U => k_upd); (case a => decide); (case b => decide); (case e => rfl))
      intro h₄ F3 N3
      (try dsimp only [List.nil_append, List.cons_append] at N3)
      clear F2 N2
      k_steps
      refine Halt.of ?_
      refine ⟨_, _, _, _, _, _, _, _, _, _, _, _, _, rfl, ?_, F3, N3⟩
      unfold InB
      push_cast
      simp only [Int.reduceToNat, List.getD_cons_zero, List.getD_cons_succ, Int.toNat_zero, Int.toNat_one]
      first
      | exact ⟨tot_up hB.1 hv6, tot_keep hB.2.1, tot_keep hB.2.2.1, tot_keep hB.2.2.2⟩
      | exact ⟨tot_keep hB.1, tot_up hB.2.1 hv6, tot_keep hB.2.2.1, tot_keep hB.2.2.2⟩
      | exact ⟨tot_keep hB.1, tot_keep hB.2.1, tot_up hB.2.2.1 hv6, tot_keep hB.2.2.2⟩
      | exact ⟨tot_keep hB.1, tot_keep hB.2.1, tot_keep hB.2.2.1, tot_up hB.2.2.2 hv6⟩)
  · intro h₃ tk K X a b c d ta tb tc td nT hB F2 N2
    dsimp only at N2 F2
    have hl2 := hI1.length
    have hfr := fresh0 kG0 N2 (List.mem_cons_self ..)
    clear N1 F1
    show wpAny _ _ _ _ _ _
    k_steps
    (with_reducible rename News _ _ _ _ => kN)
    (with_reducible rename Fr h₀ _ _ _ => kF)
    refine h _ _ _ a b c d ta tb tc td nT kF kN ?_ (keepBut_of kG0 (by assumption)) hfr
    rw [hc1] at hB
    unfold InB at hB ⊢
    have hm : min 63 ns.length ≤ 63 := Nat.min_le_left ..
    exact ⟨tot_end hm hB.1, tot_end hm hB.2.1, tot_end hm hB.2.2.1, tot_end hm hB.2.2.2⟩
end
end Mine
end
theorem Mine.fresh_P_dot : True := by
  w_top off
  trivial
section
open PySem PySem.W PyProof.Rows PySem.Calls
set_option maxRecDepth 100000
set_option maxHeartbeats 4000000
namespace Mine
section
variable {w : World} {A₀ : Around} {E : Value → Shared → Prop} {s : Shared} {base h₀ : Heap} {outer : List Env} {L : Addr} {m : Str → Option Value} {news : List (Addr × Obj)} {mg mb : Str → Option Value} {p : Program} {loose : List Str} {mean : ExcName → Option Value} {Q : Value → Shared → Prop} {d u : Nat} {gs : Option (List Code)}
  {nm : List (Str × NameKind)} {gen co : Bool} {more : List (Str × Const)} {loc gl : Addr} {cl : List (Str × Addr)} {qual : Str} {fn : Option Addr} {code : Value} {blt : Addr}
/-- the figures of a total's rows -/
noncomputable def dotsL (r : Nat) : List Int := (List.range (rowsN r)).map fun k => (dotN r k : Int)
theorem low_bit (n c : Nat) (h : c * 2 ∣ 192) : n / c % 2 = n % 192 / c % 2 := by
  rw [← Nat.mod_mul_right_div_self, ← Nat.mod_mul_right_div_self, Nat.mod_mod_of_dvd _ h]
theorem pow_dvd : ∀ k < 4, 4 * 2 ^ k * 2 ∣ 192 := by decide
theorem dot_one (n k : Nat) (hk : k < 4) : ((((n : Nat) : Int).fdiv 4).fdiv (2 ^ k)).fmod 2 = (dotN (n % 192) k : Int) := by
  have e : dotN (n % 192) k = n / 4 / 2 ^ k % 2 := by
    unfold dotN
    rw [Nat.div_div_eq_div_mul, Nat.div_div_eq_div_mul, low_bit n _ (pow_dvd k hk)]
  rw [e, Int.fdiv_eq_ediv_of_nonneg _ (show (0 : Int) ≤ 2 ^ k from Int.pow_nonneg (by decide)), Int.fdiv_eq_ediv_of_nonneg _ (by decide), Int.fmod_eq_emod_of_nonneg _ (by decide)]
  push_cast
  rfl
theorem rows_eq (n : Nat) : (1 + ((n : Nat) : Int).fmod 4 - 0).toNat = rowsN (n % 192) := by
  rw [Int.fmod_eq_emod_of_nonneg _ (by decide), Int.sub_zero]
  unfold rowsN
  rw [Nat.mod_mod_of_dvd _ (by decide)]
  rfl
theorem dots_eq (n : Nat) : List.map (fun k' => ((((n : Nat) : Int).fdiv 4).fdiv (2 ^ k'.toNat)).fmod 2) (rangeKs 0 (1 + ((n : Nat) : Int).fmod 4 - 0).toNat) = dotsL (n % 192) := by
  unfold rangeKs dotsL
  rw [rows_eq, List.map_map]
  refine List.map_congr_left fun k hk => ?_
  have hk : k < 1 + n % 192 % 4 := List.mem_range.mp hk
  simp only [Function.comp, Int.zero_add, Int.toNat_natCast]
  exact dot_one n k (Nat.lt_of_lt_of_le hk (Nat.add_comm 1 _ ▸ Nat.mod_lt _ (by decide)))
theorem dots_01 {r : Nat} {x : Int} (h : x ∈ dotsL r) : x = 0 ∨ x = 1 := by
  obtain ⟨k, _, rfl⟩ := List.mem_map.mp h
  unfold dotN
  lia
theorem dotsL_len {r : Nat} : (dotsL r).length = rowsN r := by simp [dotsL]
theorem dot_lt {z k b : Int} (h : z.fmod 4 < 4) (h2 : k < 0 + ((1 + z.fmod 4 - 0).toNat : Int)) (hb : 9 ≤ b) : k < b := by lia
theorem dot_le {z k b : Int} (h : z.fmod 4 < 4) (h2 : k < 0 + ((1 + z.fmod 4 - 0).toNat : Int)) (hb : 9 ≤ b) : k ≤ b := Int.le_of_lt (dot_lt h h2 hb)
local macro_rules | `(tactic| omega) => `(tactic| first
  | exact dot_le (by with_reducible assumption) (by with_reducible assumption) (by decide)
  | exact dot_lt (by with_reducible assumption) (by with_reducible assumption) (by decide))
theorem ct_dotted {n : Nat} {tt : Tok} (B : Below A₀ base outer h₀) (F : Fr h₀ L s.heap m) (X₀ : (hd.heap_39 w.params).In h₀) (N : News h₀ L s.heap []) (T : Top p loose mean mg mb h₀) (hd' : d < 800) (hu : u < 8000) 
    (h : ∀ h' tk' D vs nD, Fr h₀ L h' m → News h₀ L h' [(D, W.listOf vs.toArray nD)] → IntsAre vs (dotsL (n % 192)) → KeepBut s.heap h' [] → (∀ q ob, s.heap.get? q = some ob → q ≠ D) → Q (.ref D) { s with heap := h', toks := tk' }) :
    wpAny (model prog w) (arnd d u (envL nm gen co more loc gl cl qual fn code L blt :: outer) gs) (call (.ref 159) [.int n tt] []) Q E s := by
  have hkk0 : (fun (_ : Params → Frag) (_ : OpenLaw) => True) hd.heap_39 PySem.Challenge.rw_sc0065_01 := by k_fill; trivial
  clear hkk0
  refine wpAny_call ?_
  have hn0 : 0 ≤ (n : Int) := Int.natCast_nonneg n
  generalize hz : (n : Int) = z at hn0 ⊢
  (first
    | (refine' code_defG (by k_asm) (by k_asm) (by k_asm) (by k_asm) (by k_asm) ?kA ?kF ?kK ?k6 ?k7 ?k8 ?k9 ?kB ?_ ?c2 ?c3 ?c4 ?c5; (case kA => exact rfl); (case kF => exact rfl); (case kK => exact rfl); (case k6 => k_is); (case k7 => k_is); (case k8 => k_room); (case k9 => first | exact BindsTo.of_eq rfl | exact binds_K (by k_in) rfl (by k_is) rfl rfl rfl | (refine' kp_binds ?kx ?ke; (case kx => k_in); (case ke => exact fun _ => rfl)) | fail "k_enter: no rule for these arguments"); (case c5 => decide); (case kB => exact locs rfl); (case c2 => exact rfl); (case c3 => exact rfl); (case c4 => exact rfl); k_whole; intro g' L' h' FG' F' N' B' X' T' kG'; (try dsimp only); (try k_lift B'); (try k_fold))
    | (refine' Mine.code_defCG (by k_asm) (by k_asm) (by k_asm) (by k_asm) (by k_asm) ?kA ?kF ?kK ?k6 ?k7 ?k8 ?k9 ?kB ?kD ?_ ?c2 ?c3 ?c4; (case kA => exact rfl); (case kF => exact rfl); (case kK => exact rfl); (case k6 => k_is); (case k7 => k_is); (case k8 => k_room); (case k9 => first | exact BindsTo.of_eq rfl | exact binds_K (by k_in) rfl (by k_is) rfl rfl rfl | (refine' kp_binds ?kx ?ke; (case kx => k_in); (case ke => exact fun _ => rfl)) | fail "k_enter: no rule for these arguments"); (case kB => exact rfl); (case kD => decide +kernel); (case c2 => exact rfl); (case c3 => exact rfl); (case c4 => exact rfl); k_whole; intro g' L' h' tk' cells' FG' F' N' Y' B' X' T' l1 kG'; (try k_lt l1); k_cells Y'; (try simp only [List.cons_append, List.nil_append] at N'); (try dsimp only); (try k_lift B'); (try k_fold)))
  (with_reducible rename GSub _ _ _ => kG0)
  k_steps
  (with_reducible rename News _ _ _ _ => kN)
  (with_reducible rename Fr h₀ _ _ _ => kF)
  (with_reducible rename IntsAre _ _ => kI)
  rw [← hz, dots_eq] at kI
  exact h _ _ _ _ _ kF (newsSub kN (subCons (List.mem_cons_self ..) subNil)) kI (keepBut_of kG0 (by assumption)) (fresh0 kG0 (by assumption) (List.mem_cons_self ..))
end
end Mine
end
theorem Mine.fresh_P_mail : True := by
  w_top off
  trivial
section
open PySem PySem.W PyProof.Rows PySem.Calls
set_option maxRecDepth 100000
set_option maxHeartbeats 4000000
namespace Mine
section
variable {w : World} {A₀ : Around} {E : Value → Shared → Prop} {s : Shared} {base h₀ : Heap} {outer : List Env} {L : Addr} {m : Str → Option Value} {news : List (Addr × Obj)} {mg mb : Str → Option Value} {p : Program} {loose : List Str} {mean : ExcName → Option Value} {Q : Value → Shared → Prop} {d u : Nat} {gs : Option (List Code)}
  {nm : List (Str × NameKind)} {gen co : Bool} {more : List (Str × Const)} {loc gl : Addr} {cl : List (Str × Addr)} {qual : Str} {fn : Option Addr} {code : Value} {blt : Addr}

theorem join_flat {α : Type} (f : α → List Nat) : ∀ (l : List α), Str.join (Str.ofString "") (l.map fun a => (⟨(f a).toArray⟩ : Str)) = ⟨(l.flatMap f).toArray⟩
  | [] => rfl
  | [a] => by simp [Str.join]
  | a :: b :: r => by
    have ih := join_flat f (b :: r)
    show (⟨(f a).toArray⟩ : Str) ++ Str.ofString "" ++ Str.join (Str.ofString "") ((b :: r).map fun a => (⟨(f a).toArray⟩ : Str)) = _
    rw [ih]
    apply Str.ext'
    simp [Str.cps_append, show (Str.ofString "").cps = #[] from rfl]
theorem mail_join {r : Nat} {e : List Nat} (h : endN r = e) : Txt.join (Str.ofString "") (List.map (fun a => (⟨((if a = 1 then 46 else 111) :: e).toArray⟩ : Str)) (dotsL r)) = ⟨(mailL r).toArray⟩ := by
  show Builtin.Str.glued _ _ = _
  rw [StrLaws.glued_eq_join, join_flat]
  unfold dotsL mailL
  rw [List.flatMap_map, h]
  refine congrArg (fun g => (⟨(List.flatMap g (List.range (rowsN r))).toArray⟩ : Str)) (funext fun k => ?_)
  have : dotN r k = 0 ∨ dotN r k = 1 := Nat.mod_two_eq_zero_or_one _
  rcases this with e | e <;> simp [e]
theorem mail_end (n : Nat) : n % 192 / 64 % 3 = n / 64 % 3 := by
  rw [show 192 = 64 * 3 from rfl, Nat.mod_mul_right_div_self, Nat.mod_mod]
theorem row_four (r : Nat) : (dotsL r).length ≤ 4 := by
  rw [dotsL_len]
  show 1 + r % 4 ≤ 4
  rw [Nat.add_comm]
  exact Nat.mod_lt _ (by decide)
theorem use_dotted {n : Nat} {z : Int} {tt : Tok} (B : Below A₀ base outer h₀) (F : Fr h₀ L s.heap m) (X₀ : (hd.heap_39 w.params).In h₀) (N : News h₀ L s.heap news) (T : Top p loose mean mg mb h₀) (hz : z = ((n : Nat) : Int)) (hd' : d < 800) (hu : u < 8000)
    (h : ∀ h' tk' D vs nD, Fr h₀ L h' m → News h₀ L h' ((D, W.listOf vs.toArray nD) :: news) → IntsAre vs (dotsL (n % 192)) → LCg.Off1 D news → Q (.ref D) { s with heap := h', toks := tk' }) :
    wpAny (model prog w) (arnd d u (envL nm gen co more loc gl cl qual fn code L blt :: outer) gs) (call (.ref 159) [.int z tt] []) Q E s := by
  subst hz
  exact ct_dotted B F X₀ (fun _ q => nomatch q) T hd' hu fun h' tk' D vs nD F' N' hI hk hnew => h h' tk' D vs nD F' (news0 N hk N') hI (freshOff N hnew)
local macro_rules | `(tactic| walk_at "call ref") => `(tactic| (k_here; (with_reducible show wpAny _ _ (call (Value.ref 159) _ _) _ _ _); k_dflt (refine' use_dotted (by k_asm) (by k_asm) (by k_asm) (by k_asm) (by k_asm) ?e1 ?d1 ?u1 ?_; (case e1 => assumption); (case d1 => ((try dsimp only); omega)); (case u1 => ((try dsimp only); omega)); intro h' tk' D' vs' nD' F' N' hI' o1'; (try simp only [LCg.Off1, and_true] at o1'))))
local macro_rules | `(tactic| walk_at "CompSrc") => `(tactic| (k_here; refine Stop.out (P := _) ?_))
local macro_rules | `(tactic| walk_at "CompEnd") => `(tactic| refine Stop.out (P := _) ?_)
local macro_rules | `(tactic| walk_at "subscriptTail") => `(tactic| (k_here; (with_reducible show wpAny _ _ (subscriptTail _ _ (Value.ref _) (Value.int _ _)) _ _ _); ktb_letter; refine Stop.out (P := _) ?_))
theorem mod3 (z : Int) : z % 3 = 0 ∨ z % 3 = 1 ∨ z % 3 = 2 := by lia
theorem ct_mail {n : Nat} {tt : Tok} (B : Below A₀ base outer h₀) (F : Fr h₀ L s.heap m) (X₀ : (hd.heap_39 w.params).In h₀) (N : News h₀ L s.heap []) (T : Top p loose mean mg mb h₀) (hd' : d < 790) (hu : u < 7900) 
    (h : ∀ h' tk' t', Fr h₀ L h' m → KeepBut s.heap h' [] → Q (.str ⟨(mailL (n % 192)).toArray⟩ t') { s with heap := h', toks := tk' }) :
    wpAny (model prog w) (arnd d u (envL nm gen co more loc gl cl qual fn code L blt :: outer) gs) (call (.ref 164) [.int n tt] []) Q E s := by
  have hkk0 : (fun (_ : Params → Frag) (_ : OpenLaw) => True) hd.heap_39 PySem.Challenge.rw_sc0065_01 := by k_fill; trivial
  clear hkk0
  refine wpAny_call ?_
  have hn0 : 0 ≤ (n : Int) := Int.natCast_nonneg n
  obtain ⟨z, hz⟩ : ∃ z : Int, z = ((n : Nat) : Int) := ⟨_, rfl⟩
  rw [← hz] at hn0 ⊢
  (first
    | (refine' code_defG (by k_asm) (by k_asm) (by k_asm) (by k_asm) (by k_asm) ?kA ?kF ?kK ?k6 ?k7 ?k8 ?k9 ?kB ?_ ?c2 ?c3 ?c4 ?c5; (case kA => exact rfl); (case kF => exact rfl); (case kK => exact rfl); (case k6 => k_is); (case k7 => k_is); (case k8 => k_room); (case k9 => first | exact BindsTo.of_eq rfl | exact binds_K (by k_in) rfl (by k_is) rfl rfl rfl | (refine' kp_binds ?kx ?ke; (case kx => k_in); (case ke => exact fun _ => rfl)) | fail "k_enter: no rule for these arguments"); (case c5 => decide); (case kB => exact locs rfl); (case c2 => exact rfl); (case c3 => exact rfl); (case c4 => exact rfl); k_whole; intro g' L' h' FG' F' N' B' X' T' kG'; (try dsimp only); (try k_lift B'); (try k_fold))
    | (refine' Mine.code_defCG (by k_asm) (by k_asm) (by k_asm) (by k_asm) (by k_asm) ?kA ?kF ?kK ?k6 ?k7 ?k8 ?k9 ?kB ?kD ?_ ?c2 ?c3 ?c4; (case kA => exact rfl); (case kF => exact rfl); (case kK => exact rfl); (case k6 => k_is); (case k7 => k_is); (case k8 => k_room); (case k9 => first | exact BindsTo.of_eq rfl | exact binds_K (by k_in) rfl (by k_is) rfl rfl rfl | (refine' kp_binds ?kx ?ke; (case kx => k_in); (case ke => exact fun _ => rfl)) | fail "k_enter: no rule for these arguments"); (case kB => exact rfl); (case kD => decide +kernel); (case c2 => exact rfl); (case c3 => exact rfl); (case c4 => exact rfl); k_whole; intro g' L' h' tk' cells' FG' F' N' Y' B' X' T' l1 kG'; (try k_lt l1); k_cells Y'; (try simp only [List.cons_append, List.nil_append] at N'); (try dsimp only); (try k_lift B'); (try k_fold)))
  (with_reducible rename GSub _ _ _ => kG0)
  have h3 : (z.fdiv 64).fmod 3 = 0 ∨ (z.fdiv 64).fmod 3 = 1 ∨ (z.fdiv 64).fmod 3 = 2 := by
    rw [Int.fmod_eq_emod_of_nonneg _ (by decide)]; exact mod3 _
  k_steps
  refine Stop.mk ?_
  rcases h3 with e | e | e
  · rw [e]
    have he : endN (n % 192) = [10] := by
      have e9 : n % 192 / 64 % 3 = 0 := by
        rw [hz, Int.fdiv_eq_ediv_of_nonneg _ (by decide), Int.fmod_eq_emod_of_nonneg _ (by decide)] at e
        rw [mail_end]
        exact Int.ofNat_inj.mp e
      unfold endN
      rw [e9]
      rfl
    k_steps
    refine Stop.mk ?_
    (with_reducible rename IntsAre _ _ => kI)
    have hl9 := kI.length
    have hr9 := row_four (n % 192)
    refine LCg.CompSrc.ledger (by rfl) (by k_asm) (by k_asm) (by k_mem) (by rw [List.size_toArray, PySem.sizeLine_eq]; omega) ?_
    intro g9
    refine kct_list (fun k => ⟨((if k = 1 then 46 else 111) :: [10]).toArray⟩) kI ?_ ?_
    · intro k' t' I' oI' C' oC' D' m' ys' h' tk' E' hk' hC' hx' F' N' off' ne' mk'
      k_steps
      refine Stop.mk ?_
      rcases dots_01 hk' with e1 | e1 <;> (subst e1; k_steps; refine Stop.mk ?_; (refine' LCg.CompEnd.intro ?cF ?cN _ ?csub ?coff ?csrc (kct_el (t := _) ?ce rfl rfl); (case cF => k_asm); (case cN => k_asm); (case csub => lcg_sub); (case coff => exact off'); (case csrc => lcg_src); (case ce => with_unfolding_all rfl)))
    · show ∀ ys, _
      intro ys9 hC9 hl9
      k_steps
      (with_reducible rename Fr h₀ _ _ _ => kF)
      have hj := mail_join he
      refine' (show Q (Value.str _ _) _ from ?_)
      rw [hj]
      exact h _ _ _ kF (keepBut_of kG0 (by assumption))
  · rw [e]
    have he : endN (n % 192) = [13] := by
      have e9 : n % 192 / 64 % 3 = 1 := by
        rw [hz, Int.fdiv_eq_ediv_of_nonneg _ (by decide), Int.fmod_eq_emod_of_nonneg _ (by decide)] at e
        rw [mail_end]
        exact Int.ofNat_inj.mp e
      unfold endN
      rw [e9]
      rfl
    k_steps
    refine Stop.mk ?_
    (with_reducible rename IntsAre _ _ => kI)
    have hl9 := kI.length
    have hr9 := row_four (n % 192)
    refine LCg.CompSrc.ledger (by rfl) (by k_asm) (by k_asm) (by k_mem) (by rw [List.size_toArray, PySem.sizeLine_eq]; omega) ?_
    intro g9
    refine kct_list (fun k => ⟨((if k = 1 then 46 else 111) :: [13]).toArray⟩) kI ?_ ?_
    · intro k' t' I' oI' C' oC' D' m' ys' h' tk' E' hk' hC' hx' F' N' off' ne' mk'
      k_steps
      refine Stop.mk ?_
      rcases dots_01 hk' with e1 | e1 <;> (subst e1; k_steps; refine Stop.mk ?_; (refine' LCg.CompEnd.intro ?cF ?cN _ ?csub ?coff ?csrc (kct_el (t := _) ?ce rfl rfl); (case cF => k_asm); (case cN => k_asm); (case csub => lcg_sub); (case coff => exact off'); (case csrc => lcg_src); (case ce => with_unfolding_all rfl)))
    · show ∀ ys, _
      intro ys9 hC9 hl9
      k_steps
      (with_reducible rename Fr h₀ _ _ _ => kF)
      have hj := mail_join he
      refine' (show Q (Value.str _ _) _ from ?_)
      rw [hj]
      exact h _ _ _ kF (keepBut_of kG0 (by assumption))
  · rw [e]
    have he : endN (n % 192) = [13, 10] := by
      have e9 : n % 192 / 64 % 3 = 2 := by
        rw [hz, Int.fdiv_eq_ediv_of_nonneg _ (by decide), Int.fmod_eq_emod_of_nonneg _ (by decide)] at e
        rw [mail_end]
        exact Int.ofNat_inj.mp e
      unfold endN
      rw [e9]
      rfl
    k_steps
    refine Stop.mk ?_
    (with_reducible rename IntsAre _ _ => kI)
    have hl9 := kI.length
    have hr9 := row_four (n % 192)
    refine LCg.CompSrc.ledger (by rfl) (by k_asm) (by k_asm) (by k_mem) (by rw [List.size_toArray, PySem.sizeLine_eq]; omega) ?_
    intro g9
    refine kct_list (fun k => ⟨((if k = 1 then 46 else 111) :: [13, 10]).toArray⟩) kI ?_ ?_
    · intro k' t' I' oI' C' oC' D' m' ys' h' tk' E' hk' hC' hx' F' N' off' ne' mk'
      k_steps
      refine Stop.mk ?_
      rcases dots_01 hk' with e1 | e1 <;> (subst e1; k_steps; refine Stop.mk ?_; (refine' LCg.CompEnd.intro ?cF ?cN _ ?csub ?coff ?csrc (kct_el (t := _) ?ce rfl rfl); (case cF => k_asm); (case cN => k_asm); (case csub => lcg_sub); (case coff => exact off'); (case csrc => lcg_src); (case ce => with_unfolding_all rfl)))
    · show ∀ ys, _
      intro ys9 hC9 hl9
      k_steps
      (with_reducible rename Fr h₀ _ _ _ => kF)
      have hj := mail_join he
      refine' (show Q (Value.str _ _) _ from ?_)
      rw [hj]
      exact h _ _ _ kF (keepBut_of kG0 (by assumption))

end
end Mine
end
section
open PySem PySem.W PyProof.Rows PySem.Calls
set_option maxRecDepth 100000
set_option maxHeartbeats 4000000
namespace Mine
section
variable {w : World} {A₀ : Around} {E : Value → Shared → Prop} {s : Shared} {base h₀ : Heap} {outer : List Env} {L : Addr} {m : Str → Option Value} {news : List (Addr × Obj)} {mg mb : Str → Option Value} {p : Program} {loose : List Str} {mean : ExcName → Option Value} {Q : Value → Shared → Prop} {d u : Nat} {gs : Option (List Code)}
  {nm : List (Str × NameKind)} {gen co : Bool} {more : List (Str × Const)} {loc gl : Addr} {cl : List (Str × Addr)} {qual : Str} {fn : Option Addr} {code : Value} {blt : Addr}

section
variable {prog : Program} {A : Around} {env : Env}
/-- a list comprehension over a text's signs -/
theorem lc_str {elt iter : Expr} {x : Str} {px : Pos} {scope : Scope} {cl : List (Str × Addr)} {pos : Pos} (F₀ : Fr h₀ L s.heap m)
    (hclos : closureFor scope env = pure cl) (hcell : ∀ y ∈ scope.names, y.2 ≠ .cell) (hkind : scope.kind = .function)
    (hnames : ∀ y ∈ scope.names, y.2 = .local → scope.names.lookup y.1 = some .local) (hx : scope.names.lookup x = some .local)
    (h : wpAny (model prog w) A (eval iter env) (fun xv s₁ => Stop (∃ tx t news, xv = .str tx t ∧ A.handled = none ∧ Fr h₀ L s₁.heap m ∧ News h₀ L s₁.heap news ∧ tx.cps.size ≤ sizeLine ∧
      ∀ g, LCg.CompRest prog w A h₀ L m env elt x scope cl { s₁ with heap := g } (fun _ => True) (SignAt tx) (LCg.FinE h₀ L m { s₁ with heap := g } Q) tx.cps.size 0 [] news)) E s)
    (hs : ∀ x, foldedSetIterable iter env x = pure x := by intro _; rfl) :
    wpAny (model prog w) A (eval (.ListComp elt [⟨.Name x px, iter, [], 0⟩] scope pos) env) Q E s := by
  rw [eval_ListComp]
  refine wpAny_comprehension_free (use := none) rfl hs hclos hkind hnames (wpAny_mono h (fun xv s₁ h₁ => ?_) fun _ _ e => e)
  obtain ⟨tx, t, news, rfl, hh, F, N, hsz, R⟩ := h₁.out
  cases ha : tx.cps.all (· < 128)
  · refine wpAny_pyIter_wide ha ?_
    refine LCg.block_U (Walks.strWide hh s₁.heap.objs.size tx t) hsz (fun i h st => by obtain ⟨o, e, _⟩ := st; exact ⟨o, e⟩) (S := fun _ => True) (fun i h h' o nw st e e' _ _ _ => ?_) hcell hkind hx ⟨_, Heap.get?_push_size _ rfl, rfl, rfl⟩ (fun b hb => ?_)
      (F.keeps fun _ _ e => Heap.get?_push_of_some _ e) (N.grown fun _ _ e => Heap.get?_push_of_some _ e) (Nat.ne_of_lt F.ns.lt) (next_is_new F) (fun p hp => Nat.ne_of_lt (Heap.lt_size (N p hp).1)) trivial (R _) ?_
    · obtain ⟨o', q, r⟩ := st
      rw [e] at q; cases q
      exact ⟨o, e', r⟩
    · rw [List.mem_singleton.mp hb]
      show s₁.heap.objs.size < (s₁.heap.push _).objs.size
      rw [Heap.size_push]; exact Nat.lt_succ_self _
    · intro D C h tk m' ys news' F' N' o1 hn hC₀ hD₀ hCL hDL hCD offC fin
      refine ⟨m', hn, fun h'' hs'' => fin D h'' tk (F'.change hs'' hCL hC₀) (fun p hp => ?_) o1⟩
      refine ⟨hs''.extBut _ _ ?_ (N' p hp).1, (N' p hp).2⟩
      rcases List.mem_cons.mp hp with rfl | hp
      · exact Ne.symm hCD
      · exact offC p hp
  · refine wpAny_pyIter_ascii ha ?_
    refine LCg.block_U (Walks.strAscii hh s₁.heap.objs.size tx t) hsz (fun i h st => by obtain ⟨o, e, _⟩ := st; exact ⟨o, e⟩) (S := fun _ => True) (fun i h h' o nw st e e' _ _ _ => ?_) hcell hkind hx ⟨_, Heap.get?_push_size _ rfl, rfl, rfl⟩ (fun b hb => ?_)
      (F.keeps fun _ _ e => Heap.get?_push_of_some _ e) (N.grown fun _ _ e => Heap.get?_push_of_some _ e) (Nat.ne_of_lt F.ns.lt) (next_is_new F) (fun p hp => Nat.ne_of_lt (Heap.lt_size (N p hp).1)) trivial (R _) ?_
    · obtain ⟨o', q, r⟩ := st
      rw [e] at q; cases q
      exact ⟨o, e', r⟩
    · rw [List.mem_singleton.mp hb]
      show s₁.heap.objs.size < (s₁.heap.push _).objs.size
      rw [Heap.size_push]; exact Nat.lt_succ_self _
    · intro D C h tk m' ys news' F' N' o1 hn hC₀ hD₀ hCL hDL hCD offC fin
      refine ⟨m', hn, fun h'' hs'' => fin D h'' tk (F'.change hs'' hCL hC₀) (fun p hp => ?_) o1⟩
      refine ⟨hs''.extBut _ _ ?_ (N' p hp).1, (N' p hp).2⟩
      rcases List.mem_cons.mp hp with rfl | hp
      · exact Ne.symm hCD
      · exact offC p hp
theorem strs_snoc {y : PySem.Str} {t : Tok} : ∀ {vs : List Value} {ys : List PySem.Str}, StrsAre vs ys → StrsAre (vs ++ [.str y t]) (ys ++ [y])
  | _, _, .nil => .cons y t .nil
  | _, _, .cons z u r => .cons z u (strs_snoc r)
/-- the turns of a comprehension whose items are texts -/
theorem rest_gen {elt : Expr} {x : Str} {scope : Scope} {cl : List (Str × Addr)} {S : List (Addr × Obj) → Prop} {P : Nat → Value → Prop} {Fin : List Value → List (Addr × Obj) → Prop} {α : Type} {n : Nat} {ks : List α} (g : α → Str) (Rl : α → Value → Prop) (hks : ks.length = n) (hP : ∀ i v, i < n → P i v → ∃ k, ks[i]? = some k ∧ Rl k v)
    (turn : ∀ k v I oI C oC D m₂ ys h tk (E' : Value → Shared → Prop), k ∈ ks → Rl k v → LCg.NsObj oC m₂ → m₂ x = some v → Fr h₀ L h m → News h₀ L h ((I, oI) :: (C, oC) :: (D, LCg.lst ys) :: news) → LCg.Off3 I C D news → ((@Ne Nat I C) ∧ (@Ne Nat I D) ∧ (@Ne Nat C D)) →
      wpAny (model prog w) A (eval elt (compEnvC scope cl C env)) (LCg.CompEnd h₀ L m { s with heap := h, toks := tk } I oI C oC D (LCg.lst ys) S (fun y news' => KCtEl news (g k) y news')) E' { s with heap := h, toks := tk })
    (fin : ∀ ys, StrsAre ys (ks.map g) → Fin ys news) : LCg.CompRest prog w A h₀ L m env elt x scope cl s S P Fin n 0 [] news := by
  have key : ∀ (j i : Nat) (ys : List Value), i + j = n → StrsAre ys ((ks.take i).map g) → LCg.CompRest prog w A h₀ L m env elt x scope cl s S P Fin j i ys news := by
    intro j
    induction j with
    | zero =>
      intro i ys hi hy
      obtain rfl : i = ks.length := by lia
      rw [List.take_length] at hy
      exact LCg.CompRest.zero (fin ys hy)
    | succ j ih =>
      intro i ys hi hy
      refine LCg.CompRest.succ fun v I oI C oC D m₂ h tk E' hv hC hx F N off ne => ?_
      obtain ⟨k, hk, hv'⟩ := hP i v (by lia) hv
      refine wpAny_mono (turn k v I oI C oC D m₂ ys h tk E' (List.mem_of_getElem? hk) hv' hC hx F N off ne) (fun y s₂ hq => ?_) fun _ _ e => e
      obtain ⟨h', tk', nw, e, F', N', off', hS, hn, t', hy'⟩ := hq
      subst hn
      refine ⟨h', tk', _, e, F', N', off', hS, ?_⟩
      rw [hy']
      refine ih (i + 1) _ (by lia) ?_
      rw [List.take_add_one, hk]
      simpa using strs_snoc hy
  exact key n 0 [] (by lia) (by simp only [List.take_zero, List.map_nil]; exact .nil)
end
end
end Mine
end
theorem Mine.fresh_P_word : True := by
  w_top off
  trivial
section
open PySem PySem.W PyProof.Rows PySem.Calls
set_option maxRecDepth 100000
set_option maxHeartbeats 4000000
namespace Mine
section
variable {w : World} {A₀ : Around} {E : Value → Shared → Prop} {s : Shared} {base h₀ : Heap} {outer : List Env} {L : Addr} {m : Str → Option Value} {news : List (Addr × Obj)} {mg mb : Str → Option Value} {p : Program} {loose : List Str} {mean : ExcName → Option Value} {Q : Value → Shared → Prop} {d u : Nat} {gs : Option (List Code)}
  {nm : List (Str × NameKind)} {gen co : Bool} {more : List (Str × Const)} {loc gl : Addr} {cl : List (Str × Addr)} {qual : Str} {fn : Option Addr} {code : Value} {blt : Addr}

noncomputable def wordL (n : Nat) : List Nat := if n / 192 % 2 = 0 then 34 :: mailL (n % 192) ++ [34, 10] else (mailL (n % 192)).flatMap (fun c => [92, c]) ++ [10]
theorem use_mail {n : Nat} {z : Int} {tt : Tok} (B : Below A₀ base outer h₀) (F : Fr h₀ L s.heap m) (X₀ : (hd.heap_39 w.params).In h₀) (N : News h₀ L s.heap news) (T : Top p loose mean mg mb h₀) (hz : z = ((n : Nat) : Int)) (hd' : d < 790) (hu : u < 7900)
    (h : ∀ h' tk' t', Fr h₀ L h' m → News h₀ L h' news → Q (.str ⟨(mailL (n % 192)).toArray⟩ t') { s with heap := h', toks := tk' }) :
    wpAny (model prog w) (arnd d u (envL nm gen co more loc gl cl qual fn code L blt :: outer) gs) (call (.ref 164) [.int z tt] []) Q E s := by
  subst hz
  exact ct_mail B F X₀ (fun _ q => nomatch q) T hd' hu fun h' tk' t' F' hk => h h' tk' t' F' (news0 (small := []) N hk fun _ q => nomatch q)
theorem mail_len {n : Nat} : (mailL (n % 192)).length ≤ 12 := (can_of (Nat.mod_lt _ (by decide))).2.2.2.2.2.2.2.2.1
theorem strLen (l : List Nat) : (⟨l.toArray⟩ : Str).length = l.length := by simp [Str.length]
local macro_rules | `(tactic| walk_at "call ref") => `(tactic| (k_here; (with_reducible show wpAny _ _ (call (Value.ref _) _ _) _ _ _); refine Stop.out (P := _) ?_))
local macro_rules | `(tactic| walk_at "eval ListComp") => `(tactic| (k_here; k_dflt (refine lc_str (F₀ := by k_asm) (by rfl) (by decide) (by rfl) (by decide) (by rfl) ?_)))
local macro_rules | `(tactic| walk_at "binaryOp Add str str") => `(tactic| (k_here; refine Stop.out (P := _) ?_))
local macro_rules | `(tactic| walk_at "CompEnd") => `(tactic| refine Stop.out (P := _) ?_)
local macro_rules | `(tactic| walk_at "call builtin:str.join") => `(tactic| refine Stop.out (P := _) ?_)
theorem ct_word {n : Nat} {tt : Tok} (B : Below A₀ base outer h₀) (F : Fr h₀ L s.heap m) (X₀ : (hd.heap_39 w.params).In h₀) (N : News h₀ L s.heap []) (T : Top p loose mean mg mb h₀) (hd' : d < 780) (hu : u < 7800) 
    (h : ∀ h' tk' t', Fr h₀ L h' m → KeepBut s.heap h' [] → Q (.str ⟨(wordL n).toArray⟩ t') { s with heap := h', toks := tk' }) :
    wpAny (model prog w) (arnd d u (envL nm gen co more loc gl cl qual fn code L blt :: outer) gs) (call (.ref 169) [.int n tt] []) Q E s := by
  have hkk0 : (fun (_ : Params → Frag) (_ : OpenLaw) => True) hd.heap_39 PySem.Challenge.rw_sc0065_01 := by k_fill; trivial
  clear hkk0
  refine wpAny_call ?_
  have hn0 : 0 ≤ (n : Int) := Int.natCast_nonneg n
  obtain ⟨z, hz⟩ : ∃ z : Int, z = ((n : Nat) : Int) := ⟨_, rfl⟩
  rw [← hz] at hn0 ⊢
  (first
    | (refine' code_defG (by k_asm) (by k_asm) (by k_asm) (by k_asm) (by k_asm) ?kA ?kF ?kK ?k6 ?k7 ?k8 ?k9 ?kB ?_ ?c2 ?c3 ?c4 ?c5; (case kA => exact rfl); (case kF => exact rfl); (case kK => exact rfl); (case k6 => k_is); (case k7 => k_is); (case k8 => k_room); (case k9 => first | exact BindsTo.of_eq rfl | exact binds_K (by k_in) rfl (by k_is) rfl rfl rfl | (refine' kp_binds ?kx ?ke; (case kx => k_in); (case ke => exact fun _ => rfl)) | fail "k_enter: no rule for these arguments"); (case c5 => decide); (case kB => exact locs rfl); (case c2 => exact rfl); (case c3 => exact rfl); (case c4 => exact rfl); k_whole; intro g' L' h' FG' F' N' B' X' T' kG'; (try dsimp only); (try k_lift B'); (try k_fold))
    | (refine' Mine.code_defCG (by k_asm) (by k_asm) (by k_asm) (by k_asm) (by k_asm) ?kA ?kF ?kK ?k6 ?k7 ?k8 ?k9 ?kB ?kD ?_ ?c2 ?c3 ?c4; (case kA => exact rfl); (case kF => exact rfl); (case kK => exact rfl); (case k6 => k_is); (case k7 => k_is); (case k8 => k_room); (case k9 => first | exact BindsTo.of_eq rfl | exact binds_K (by k_in) rfl (by k_is) rfl rfl rfl | (refine' kp_binds ?kx ?ke; (case kx => k_in); (case ke => exact fun _ => rfl)) | fail "k_enter: no rule for these arguments"); (case kB => exact rfl); (case kD => decide +kernel); (case c2 => exact rfl); (case c3 => exact rfl); (case c4 => exact rfl); k_whole; intro g' L' h' tk' cells' FG' F' N' Y' B' X' T' l1 kG'; (try k_lt l1); k_cells Y'; (try simp only [List.cons_append, List.nil_append] at N'); (try dsimp only); (try k_lift B'); (try k_fold)))
  (with_reducible rename GSub _ _ _ => kG0)
  have hml := mail_len (n := n)
  have hl9 := strLen (mailL (n % 192))
  have hq1 : (Str.ofString "\"").length = 1 := by decide
  have hq2 : (Str.ofString "\"\n").length = 2 := by decide
  have hq3 : (Str.ofString "\\").length = 1 := by decide
  have hq4 : (Str.ofString "\n").length = 1 := by decide
  k_steps
  refine Stop.mk ?_
  refine' use_mail ?mk1 ?mk2 ?mk3 ?mk4 ?mk5 ?me1 ?md1 ?mu1 ?_
  case mk1 => k_asm
  case mk2 => k_asm
  case mk3 => k_asm
  case mk4 => k_asm
  case mk5 => k_asm
  case me1 => assumption
  case md1 => ((try dsimp only); omega)
  case mu1 => ((try dsimp only); omega)
  intro h' tk' t' F' N'
  k_steps
  · (with_reducible rename _ = (0 : Int) => e0)
    have hw : wordL n = 34 :: mailL (n % 192) ++ [34, 10] := by
      unfold wordL
      rw [if_pos]
      rw [hz, Int.fdiv_eq_ediv_of_nonneg _ (by decide), Int.fmod_eq_emod_of_nonneg _ (by decide)] at e0
      exact Int.ofNat_inj.mp e0
    refine Stop.mk (SBL.add (fun t' k => ?_) (by rw [PySem.sizeLine_eq]; omega))
    k_steps
    refine Stop.mk (SBL.add (fun t' k => ?_) (by rw [PySem.sizeLine_eq, Str.length_append]; omega))
    k_steps
    (with_reducible rename Fr h₀ _ _ _ => kF)
    have hj : (Str.ofString "\"" ++ (⟨(mailL (n % 192)).toArray⟩ : Str)) ++ Str.ofString "\"\n" = ⟨(wordL n).toArray⟩ := by
      rw [hw]
      apply Str.ext'
      simp [Str.cps_append, show (Str.ofString "\"").cps = #[34] from rfl, show (Str.ofString "\"\n").cps = #[34, 10] from rfl]
    refine' (show Q (Value.str _ _) _ from ?_)
    rw [hj]
    exact h _ _ _ kF (keepBut_of kG0 (by assumption))
  · (with_reducible rename _ ≠ (0 : Int) => e0)
    have hw : wordL n = (mailL (n % 192)).flatMap (fun c => [92, c]) ++ [10] := by
      unfold wordL
      rw [if_neg]
      intro e1
      apply e0
      rw [hz, Int.fdiv_eq_ediv_of_nonneg _ (by decide), Int.fmod_eq_emod_of_nonneg _ (by decide)]
      exact Int.ofNat_inj.mpr e1
    refine Stop.mk ⟨_, _, _, rfl, rfl, by k_asm, by k_asm, (by rw [PySem.sizeLine_eq]; simp; omega), fun g9 => ?_⟩
    refine rest_gen (ks := mailL (n % 192)) (fun c => (⟨[92, c].toArray⟩ : Str)) (fun c v => ∃ u, v = .str ⟨#[c]⟩ u) (by simp) (fun i v hi hv => ?_) ?_ ?_
    · obtain ⟨c, u, e1, e2⟩ := hv
      exact ⟨c, by simpa using e1, u, e2⟩
    · intro k' v' I' oI' C' oC' D' m' ys' h' tk' E' hk' hv' hC' hx' F' N' off' ne'
      obtain ⟨t', rfl⟩ := hv'
      have hq5 : (⟨#[k']⟩ : Str).length = 1 := rfl
      k_steps
      refine Stop.mk (SBL.add (fun t' k => ?_) (by rw [PySem.sizeLine_eq]; omega))
      k_steps
      refine Stop.mk ?_
      refine' LCg.CompEnd.intro ?cF ?cN _ ?csub ?coff ?csrc (kct_el (t := _) ?ce rfl rfl)
      (case cF => k_asm)
      (case cN => k_asm)
      (case csub => lcg_sub)
      (case coff => exact off')
      (case csrc => exact trivial)
      (case ce => with_unfolding_all rfl)
    · intro ys9 hS9
      k_steps
      refine Stop.mk ?_
      have hc9 := hS9.carried
      rw [List.map_map] at hc9
      refine KT.join_B 2 (by exact News.isList (by k_asm) (by k_mem)) hc9 (fun a _ => by simp [Str.length]) (by omega) (by decide) fun t' k => ?_
      have hj : Txt.join (Str.ofString "") (List.map (fun c => (⟨[92, c].toArray⟩ : Str)) (mailL (n % 192))) = ⟨((mailL (n % 192)).flatMap (fun c => [92, c])).toArray⟩ := by
        show Builtin.Str.glued _ _ = _
        rw [StrLaws.glued_eq_join, join_flat]
      rw [hj]
      have hl8 := strLen ((mailL (n % 192)).flatMap (fun c => [92, c]))
      have hl7 : ((mailL (n % 192)).flatMap (fun c => [92, c])).length = 2 * (mailL (n % 192)).length := by
        rw [List.length_flatMap]; simp [List.map_const']; omega
      k_steps
      refine Stop.mk (SBL.add (fun t' k => ?_) (by rw [PySem.sizeLine_eq]; omega))
      k_steps
      (with_reducible rename Fr h₀ _ _ _ => kF)
      have hj2 : (⟨((mailL (n % 192)).flatMap (fun c => [92, c])).toArray⟩ : Str) ++ Str.ofString "
" = ⟨(wordL n).toArray⟩ := by
        rw [hw]
        apply Str.ext'
        simp [Str.cps_append, show (Str.ofString "
").cps = #[10] from rfl]
      refine' (show Q (Value.str _ _) _ from ?_)
      rw [hj2]
      exact h _ _ _ kF (keepBut_of kG0 (by assumption))
end
end Mine
end
section
open PySem PySem.W PyProof.Rows PySem.Calls
set_option maxRecDepth 100000
set_option maxHeartbeats 4000000
namespace Mine
local macro_rules | `(tactic| walk_at "exec For Name Name cons nil") => `(tactic| (k_here; refine Stop.out (P := _) ?_))
local macro_rules | `(tactic| walk_at "pyIter ref") => `(tactic| ((with_reducible show wpAny _ _ (pyIter (Value.ref _)) (fun _ _ => codeAny _ _ _ _ _) _ _); refine Stop.out (P := _) ?_))
local macro_rules | `(tactic| k_all) => `(tactic| first | exact OffT.out (by with_reducible assumption) | exact List.forall_mem_nil _ | (refine' List.forall_mem_cons.mpr ⟨?a, ?b⟩; (case a => k_ne); (case b => k_all)))
local macro_rules | `(tactic| walk_at "call ref") => `(tactic| (k_here; (with_reducible show wpAny _ _ (call (Value.ref _) _ _) _ _ _); refine Stop.out (P := _) ?_))
theorem fresh_P_pul : True := by
  w_top off
  trivial
section
section
variable {w : World} {A₀ : Around} {E : Value → Shared → Prop} {s : Shared} {base h₀ : Heap} {outer : List Env} {L : Addr} {m : Str → Option Value} {news : List (Addr × Obj)} {mg mb : Str → Option Value} {p : Program} {loose : List Str} {mean : ExcName → Option Value} {Q : Value → Shared → Prop} {d u : Nat} {gs : Option (List Code)}
  {nm : List (Str × NameKind)} {gen co : Bool} {more : List (Str × Const)} {loc gl : Addr} {cl : List (Str × Addr)} {qual : Str} {fn : Option Addr} {code : Value} {blt : Addr}

theorem strLen' (l : List Nat) : (⟨l.toArray⟩ : Str).length = l.length := by simp [Str.length]
theorem use_quo {r : Nat} {tt : Tok} (B : Below A₀ base outer h₀) (F : Fr h₀ L s.heap m) (X₀ : (hd.heap_39 w.params).In h₀) (N : News h₀ L s.heap news) (T : Top p loose mean mg mb h₀) (hr : r < 192) (hd' : d < 800) (hu : u < 8000)
    (h : ∀ h' tk' t', Fr h₀ L h' m → News h₀ L h' news → Q (.str ⟨(quotL r).toArray⟩ t') { s with heap := h', toks := tk' }) :
    wpAny (model prog w) (arnd d u (envL nm gen co more loc gl cl qual fn code L blt :: outer) gs) (call (.ref 140) [.str ⟨(mailL r).toArray⟩ tt] []) Q E s :=
  ct_quo B F X₀ (fun _ q => nomatch q) T hd' hu hr fun h' tk' t' F' hk => h h' tk' t' F' (news0 (small := []) N hk fun _ q => nomatch q)
theorem use_fix {r : Nat} {tt : Tok} (B : Below A₀ base outer h₀) (F : Fr h₀ L s.heap m) (X₀ : (hd.heap_39 w.params).In h₀) (N : News h₀ L s.heap news) (T : Top p loose mean mg mb h₀) (hr : r < 192) (hd' : d < 800) (hu : u < 8000)
    (h : ∀ h' tk' t', Fr h₀ L h' m → News h₀ L h' news → Q (.str ⟨(crlfL r).toArray⟩ t') { s with heap := h', toks := tk' }) :
    wpAny (model prog w) (arnd d u (envL nm gen co more loc gl cl qual fn code L blt :: outer) gs) (call (.ref 147) [.str ⟨(mailL r).toArray⟩ tt] []) Q E s :=
  ct_fix B F X₀ (fun _ q => nomatch q) T hd' hu hr fun h' tk' t' F' hk => h h' tk' t' F' (news0 (small := []) N hk fun _ q => nomatch q)
theorem count_all : ((List.range 192).all fun r => Txt.count ⟨(quotL r).toArray⟩ (Str.ofString "\r\n") == rowsN r && decide ((quotL r).length ≤ 16)) = true := by decide +kernel
theorem count_of {r : Nat} (h : r < 192) : Txt.count ⟨(quotL r).toArray⟩ (Str.ofString "\r\n") = rowsN r ∧ (quotL r).length ≤ 16 := by
  have := List.all_eq_true.mp count_all r (List.mem_range.mpr h)
  simp only [Bool.and_eq_true, decide_eq_true_eq, beq_iff_eq] at this
  exact this
/-- a mail's pull, off its signs -/
noncomputable def PV (x : Str) : Int := (x.cps.toList.count 46 : Int) - (x.cps.toList.count 111 : Int)
theorem pv_all : ((List.range 192).all fun r => decide (2 * (((quotL r).length : Int) - ((crlfL r).length : Int)) - Txt.count ⟨(quotL r).toArray⟩ (Str.ofString "\r\n") = PV ⟨(mailL r).toArray⟩)) = true := by decide +kernel
theorem pv_of {r : Nat} (h : r < 192) : 2 * (((quotL r).length : Int) - ((crlfL r).length : Int)) - Txt.count ⟨(quotL r).toArray⟩ (Str.ofString "\r\n") = PV ⟨(mailL r).toArray⟩ := of_decide_eq_true (List.all_eq_true.mp pv_all r (List.mem_range.mpr h))
theorem valueAt_cons {x : Str × Value} {r : List (Str × Value)} {k : Str} : valueAt (x :: r) k = if x.1 = k then some x.2 else valueAt r k := by
  unfold valueAt
  by_cases e : x.1 = k
  · rw [if_pos e, List.find?_cons_of_pos (by simpa using e)]; rfl
  · rw [if_neg e, List.find?_cons_of_neg (by simpa using e)]
theorem valueAt_map {k k' : Str} {v : Value} : ∀ {kvs : List (Str × Value)}, valueAt (kvs.map fun kv => if kv.1 = k then (kv.1, v) else kv) k' = if k = k' then (if kvs.any (fun kv => kv.1 = k) = true then some v else none) else valueAt kvs k'
  | [] => by simp [valueAt]
  | x :: r => by
    have ih := valueAt_map (k := k) (k' := k') (v := v) (kvs := r)
    rw [List.map_cons, valueAt_cons, valueAt_cons, ih, List.any_cons]
    by_cases e1 : x.1 = k
    · by_cases e2 : k = k'
      · simp [e1, e2]
      · simp [e1, e2]
    · by_cases e2 : k = k'
      · have e3 : ¬ x.1 = k' := by rw [← e2]; exact e1
        simp only [if_neg e1, if_pos e2, if_neg e3, decide_eq_false e1, Bool.false_or]
      · simp only [if_neg e1, if_neg e2]
theorem valueAt_stored {kvs : List (Str × Value)} {k k' : Str} {v : Value} : valueAt (stored kvs k v) k' = if k = k' then some v else valueAt kvs k' := by
  unfold stored
  by_cases h : kvs.any (fun kv => kv.1 = k) = true
  · rw [if_pos h, valueAt_map]
    by_cases e : k = k'
    · rw [if_pos e, if_pos h, if_pos e]
    · rw [if_neg e, if_neg e]
  · rw [if_neg h]
    unfold valueAt
    rw [List.find?_append]
    by_cases e : k = k'
    · subst e
      have : kvs.find? (fun kv => decide (kv.1 = k)) = none := by
        rw [List.find?_eq_none]
        intro x hx hx2
        exact h (List.any_eq_true.mpr ⟨x, hx, hx2⟩)
      simp [this]
    · simp [e]
noncomputable def PullTab (kvs : List (Str × Value)) (ks : List Str) : Prop := ∀ k ∈ ks, ∃ t, valueAt kvs k = some (.int (PV k) t)
theorem PullTab.put {kvs : List (Str × Value)} {ks : List Str} {r : Nat} {v : Int} {t : Tok} (hr : r < 192) (hv : v = 2 * (((quotL r).length : Int) - ((crlfL r).length : Int)) - Txt.count ⟨(quotL r).toArray⟩ (Str.ofString "\r\n")) (P : PullTab kvs ks) : PullTab (stored kvs ⟨(mailL r).toArray⟩ (.int v t)) (⟨(mailL r).toArray⟩ :: ks) := fun k hk => by
  rw [valueAt_stored]
  by_cases e : k = ⟨(mailL r).toArray⟩
  · rw [if_pos e.symm, hv, pv_of hr, e]; exact ⟨t, rfl⟩
  · rw [if_neg (Ne.symm e)]
    rcases List.mem_cons.mp hk with e1 | hk
    · exact absurd e1 e
    · exact P k hk
theorem len_quot {prog : Program} {A : Around} {r : Nat} {t : Tok} (hr : r < 192) (h : ∀ k t', Q (.int (((quotL r).length : Nat) : Int) t') { s with toks := k }) : wpAny (model prog w) A (call (.builtin "len") [.str ⟨(quotL r).toArray⟩ t]) Q E s :=
  len_writK _ (strLen' _) (by have := (count_of hr).2; omega) (h _ _)
theorem len_crlf {prog : Program} {A : Around} {r : Nat} {t : Tok} (hr : r < 192) (h : ∀ k t', Q (.int (((crlfL r).length : Nat) : Int) t') { s with toks := k }) : wpAny (model prog w) A (call (.builtin "len") [.str ⟨(crlfL r).toArray⟩ t]) Q E s :=
  len_writK _ (strLen' _) (by have := (can_of hr).2.2.2.2.2.2.2.2.2; omega) (h _ _)
theorem count_quot {prog : Program} {A : Around} {r : Nat} {t u : Tok} (hr : r < 192) (h : ∀ k t', Q (.int ((rowsN r : Nat) : Int) t') { s with toks := k }) : wpAny (model prog w) A (call (.builtin "str.count") [.str ⟨(quotL r).toArray⟩ t, .str (Str.ofString "\r\n") u]) Q E s :=
  KXw.count (by rw [(count_of hr).1]) fun t' k => h k t'
local macro_rules | `(tactic| walk_at "call builtin:len") => `(tactic| (k_here; k_dflt (first | (refine' len_quot ?hr ?_; (case hr => assumption); intro _ _) | (refine' len_crlf ?hr ?_; (case hr => assumption); intro _ _))))
local macro_rules | `(tactic| walk_at "call builtin:str.count") => `(tactic| (k_here; k_dflt (refine' count_quot ?hr ?_; (case hr => assumption); intro _ _)))
/-- what the loop over the mails leaves: its two names, the dict -/
theorem pul_start {m₀ : Str → Option Value} : m₀ = fun z => if z = PySem.Str.ofString "mail" then m₀ (PySem.Str.ofString "mail") else if z = PySem.Str.ofString "sent" then m₀ (PySem.Str.ofString "sent") else m₀ z := funext fun z => by
  by_cases e : z = PySem.Str.ofString "mail"
  · rw [if_pos e, e]
  · by_cases e2 : z = PySem.Str.ofString "sent"
    · rw [if_neg e, if_pos e2, e2]
    · rw [if_neg e, if_neg e2]
theorem ne_sent_mail : ¬ PySem.Str.ofString "sent" = PySem.Str.ofString "mail" := by decide +kernel
theorem pul_map {m₀ : Str → Option Value} {S' V X S : Option Value} : (fun z => if z = PySem.Str.ofString "sent" then S' else if z = PySem.Str.ofString "mail" then V else if z = PySem.Str.ofString "mail" then X else if z = PySem.Str.ofString "sent" then S else m₀ z) = fun z => if z = PySem.Str.ofString "mail" then V else if z = PySem.Str.ofString "sent" then S' else m₀ z := funext fun z => by
  by_cases e : z = PySem.Str.ofString "sent"
  · rw [if_pos e, e, if_neg ne_sent_mail, if_pos rfl]
  · rw [if_neg e]
    by_cases e2 : z = PySem.Str.ofString "mail"
    · rw [if_pos e2, if_pos e2]
    · rw [if_neg e2, if_neg e2, if_neg e2, if_neg e, if_neg e]
noncomputable def pulP (prog : Program) (w : World) (D : Addr) (m₀ : Str → Option Value) (ms : List Str) (i : Nat) (m' : Str → Option Value) (v : List (Addr × Obj)) : Prop :=
  ∃ X S o kvs, m' = (fun z => if z = PySem.Str.ofString "mail" then X else if z = PySem.Str.ofString "sent" then S else m₀ z) ∧ v = [(D, o)] ∧ o.IsDictOf (PySem.strKind prog w) kvs ∧ PullTab kvs (ms.take i).reverse ∧ kvs.length ≤ i
theorem stored_len {kvs : List (Str × Value)} {k : Str} {v : Value} : (stored kvs k v).length ≤ kvs.length + 1 := by
  unfold stored
  split
  · rw [List.length_map]; exact Nat.le_succ _
  · rw [List.length_append]; exact Nat.le_refl _
theorem pul_size {n : Nat} (h : n ≤ 3) : n ≤ sizeLine := Nat.le_trans h (by rw [sizeLine_eq]; decide)
theorem mail_at {r0 r1 r2 r3 i : Nat} {t0 t1 t2 t3 : Tok} {v : Value} (h0 : r0 < 192) (h1 : r1 < 192) (h2 : r2 < 192) (h3 : r3 < 192) (h : ([.str ⟨(mailL r0).toArray⟩ t0, .str ⟨(mailL r1).toArray⟩ t1, .str ⟨(mailL r2).toArray⟩ t2, .str ⟨(mailL r3).toArray⟩ t3] : List Value)[i]? = some v) :
    ∃ r t, r < 192 ∧ v = .str ⟨(mailL r).toArray⟩ t ∧ (([⟨(mailL r0).toArray⟩, ⟨(mailL r1).toArray⟩, ⟨(mailL r2).toArray⟩, ⟨(mailL r3).toArray⟩] : List Str).take (i + 1)).reverse = ⟨(mailL r).toArray⟩ :: (([⟨(mailL r0).toArray⟩, ⟨(mailL r1).toArray⟩, ⟨(mailL r2).toArray⟩, ⟨(mailL r3).toArray⟩] : List Str).take i).reverse ∧ i ≤ 3 := by
  match i, h with
  | 0, h => exact ⟨r0, _, h0, (Option.some.inj h).symm, rfl, by decide⟩
  | 1, h => exact ⟨r1, _, h1, (Option.some.inj h).symm, rfl, by decide⟩
  | 2, h => exact ⟨r2, _, h2, (Option.some.inj h).symm, rfl, by decide⟩
  | 3, h => exact ⟨r3, _, h3, (Option.some.inj h).symm, rfl, by decide⟩
  | n + 4, h => simp at h
local macro_rules | `(tactic| walk_at "setItem ref str") => `(tactic| (k_here; k_dflt (refine' kda_set (knd := PySem.strKind _ _) (by k_asm) (by k_asm) ?U (by k_asm) (strKind_is _ _ _ _) ?z ?_; (case U => k_updF); (case z => exact pul_size (by assumption))); intro h' o' F' N' hd9'; (try dsimp only at N')))
theorem ct_pulls {a : Addr} {na : Nat} {r0 r1 r2 r3 : Nat} {t0 t1 t2 t3 : Tok} (B : Below A₀ base outer h₀) (F : Fr h₀ L s.heap m) (X₀ : (hd.heap_39 w.params).In h₀) (N : News h₀ L s.heap [(a, W.listOf #[.str ⟨(mailL r0).toArray⟩ t0, .str ⟨(mailL r1).toArray⟩ t1, .str ⟨(mailL r2).toArray⟩ t2, .str ⟨(mailL r3).toArray⟩ t3] na)]) (T : Top p loose mean mg mb h₀) (hd' : d < 790) (hu : u < 7900) (h0 : r0 < 192) (h1 : r1 < 192) (h2 : r2 < 192) (h3 : r3 < 192)
    (h : ∀ h' tk' D o (kvs : List (Str × Value)), Fr h₀ L h' m → News h₀ L h' [(D, o), (a, W.listOf #[.str ⟨(mailL r0).toArray⟩ t0, .str ⟨(mailL r1).toArray⟩ t1, .str ⟨(mailL r2).toArray⟩ t2, .str ⟨(mailL r3).toArray⟩ t3] na)] → o.IsDictOf (PySem.strKind prog w) kvs → PullTab kvs [⟨(mailL r3).toArray⟩, ⟨(mailL r2).toArray⟩, ⟨(mailL r1).toArray⟩, ⟨(mailL r0).toArray⟩] → KeepBut s.heap h' [a] → (∀ q ob, s.heap.get? q = some ob → q ∉ [a] → q ≠ D) → @Ne Nat a D → Q (.ref D) { s with heap := h', toks := tk' }) :
    wpAny (model prog w) (arnd d u (envL nm gen co more loc gl cl qual fn code L blt :: outer) gs) (call (.ref 183) [.ref a] []) Q E s := by
  have hkk0 : (fun (_ : Params → Frag) (_ : OpenLaw) => True) hd.heap_39 PySem.Challenge.rw_sc0065_01 := by k_fill; trivial
  clear hkk0
  refine wpAny_call ?_
  (first
    | (refine' code_defG (by k_asm) (by k_asm) (by k_asm) (by k_asm) (by k_asm) ?kA ?kF ?kK ?k6 ?k7 ?k8 ?k9 ?kB ?_ ?c2 ?c3 ?c4 ?c5; (case kA => exact rfl); (case kF => exact rfl); (case kK => exact rfl); (case k6 => k_is); (case k7 => k_is); (case k8 => k_room); (case k9 => first | exact BindsTo.of_eq rfl | exact binds_K (by k_in) rfl (by k_is) rfl rfl rfl | (refine' kp_binds ?kx ?ke; (case kx => k_in); (case ke => exact fun _ => rfl)) | fail "k_enter: no rule for these arguments"); (case c5 => decide); (case kB => exact locs rfl); (case c2 => exact rfl); (case c3 => exact rfl); (case c4 => exact rfl); k_whole; intro g' L' h' FG' F' N' B' X' T' kG'; (try dsimp only); (try k_lift B'); (try k_fold))
    | (refine' Mine.code_defCG (by k_asm) (by k_asm) (by k_asm) (by k_asm) (by k_asm) ?kA ?kF ?kK ?k6 ?k7 ?k8 ?k9 ?kB ?kD ?_ ?c2 ?c3 ?c4; (case kA => exact rfl); (case kF => exact rfl); (case kK => exact rfl); (case k6 => k_is); (case k7 => k_is); (case k8 => k_room); (case k9 => first | exact BindsTo.of_eq rfl | exact binds_K (by k_in) rfl (by k_is) rfl rfl rfl | (refine' kp_binds ?kx ?ke; (case kx => k_in); (case ke => exact fun _ => rfl)) | fail "k_enter: no rule for these arguments"); (case kB => exact rfl); (case kD => decide +kernel); (case c2 => exact rfl); (case c3 => exact rfl); (case c4 => exact rfl); k_whole; intro g' L' h' tk' cells' FG' F' N' Y' B' X' T' l1 kG'; (try k_lt l1); k_cells Y'; (try simp only [List.cons_append, List.nil_append] at N'); (try dsimp only); (try k_lift B'); (try k_fold)))
  (with_reducible rename GSub _ _ _ => kG0)
  k_steps
  refine Stop.mk ?_
  refine for_any ?_
  k_steps
  refine Stop.mk ?_
  (with_reducible rename News _ _ _ _ => kN)
  (with_reducible rename Fr _ _ _ _ => kF)
  (with_reducible rename Obj.IsDictOf (PySem.strKind _ _) _ _ => kD)
  refine' for_list_M (its := [.str ⟨(mailL r0).toArray⟩ t0, .str ⟨(mailL r1).toArray⟩ t1, .str ⟨(mailL r2).toArray⟩ t2, .str ⟨(mailL r3).toArray⟩ t3]) (pulP prog w _ _ [⟨(mailL r0).toArray⟩, ⟨(mailL r1).toArray⟩, ⟨(mailL r2).toArray⟩, ⟨(mailL r3).toArray⟩]) [_] ?hh ?hx ?hp kF (news_one kN) ⟨_, _, _, _, pul_start, rfl, kD, (fun k hk => nomatch hk), Nat.le_refl 0⟩ (List.mem_cons_self ..) ?hadr ?step ?hQ
  case hh => exact rfl
  case hx => exact rfl
  case hp => exact rfl
  case hadr =>
    rintro i m' v ⟨X, S, o, kvs, rfl, rfl, _, _, _⟩
    rfl
  case step =>
    intro i v I m' var' own s₁ Q' hv hInv9 F1 N1 hI hown hq9
    obtain ⟨X, S, o9, kvs9, rfl, rfl, kD9, kP9, kL9⟩ := hInv9
    obtain ⟨r, t, hr, rfl, hms, hi3⟩ := mail_at h0 h1 h2 h3 hv
    have hk3 := Nat.le_trans kL9 hi3
    dsimp only [List.cons_append, List.nil_append] at N1 hI
    have oO := own_off hown (hI _ (List.mem_cons_self ..)) (by k_ne)
    clear kN
    k_steps
    refine Stop.mk ?_
    refine' use_quo ?qk1 ?qk2 ?qk3 ?qk4 ?qk5 ?qe1 ?qd1 ?qu1 ?_
    case qk1 => k_asm
    case qk2 => k_asm
    case qk3 => k_asm
    case qk4 => k_asm
    case qk5 => k_asm
    case qe1 => assumption
    case qd1 => ((try dsimp only); omega)
    case qu1 => ((try dsimp only); omega)
    intro h' tk' t' F' N'
    k_steps
    refine Stop.mk ?_
    refine' use_fix ?xk1 ?xk2 ?xk3 ?xk4 ?xk5 ?xe1 ?xd1 ?xu1 ?_
    case xk1 => k_asm
    case xk2 => k_asm
    case xk3 => k_asm
    case xk4 => k_asm
    case xk5 => k_asm
    case xe1 => assumption
    case xd1 => ((try dsimp only); omega)
    case xu1 => ((try dsimp only); omega)
    intro h' tk' t' F' N'
    k_steps
    (with_reducible rename News _ _ _ _ => kN2)
    (with_reducible rename Fr _ _ _ _ => kF2)
    refine hq9 _ _ _ [(_, _)] kF2 kN2 ⟨_, _, _, _, pul_map, rfl, (by assumption), ?_, Nat.le_trans stored_len (Nat.succ_le_succ kL9)⟩
    rw [hms]
    exact .put hr (by rw [(count_of hr).1]) kP9
  case hQ =>
    intro h' tk m' var' F2 N2 hInv9
    obtain ⟨X, S, o9, kvs9, rfl, rfl, kD9, kP9, kL9⟩ := hInv9
    dsimp only [List.cons_append, List.nil_append] at N2
    clear kN
    k_steps
    (with_reducible rename News _ _ _ _ => kN2)
    (with_reducible rename Fr h₀ _ _ _ => kF2)
    exact h _ _ _ _ _ kF2 kN2 kD9 kP9 (keepBut_of kG0 (by assumption)) (fresh_of kG0 (by assumption) (List.mem_cons_self ..)) (by omega)
end
end
section
section
variable {w : World} {A₀ : Around} {E : Value → Shared → Prop} {s : Shared} {base h₀ : Heap} {outer : List Env} {L : Addr} {m : Str → Option Value} {news : List (Addr × Obj)} {mg mb : Str → Option Value} {p : Program} {loose : List Str} {mean : ExcName → Option Value} {Q : Value → Shared → Prop} {d u : Nat} {gs : Option (List Code)}
  {nm : List (Str × NameKind)} {gen co : Bool} {more : List (Str × Const)} {loc gl : Addr} {cl : List (Str × Addr)} {qual : Str} {fn : Option Addr} {code : Value} {blt : Addr}
theorem fl_fin : ((List.range 33).all fun k => Float64.isInf (fl k) == false) = true := by decide +kernel
theorem div32 {prog : Program} {A : Around} {z : Int} {k : Nat} {t u' : Tok} (hA : A.handled = none) (hz : z = (k : Int)) (hk : k ≤ 32) (h : ∀ tk t', Q (.float (fl k) t') { s with toks := tk }) : wpAny (model prog w) A (binaryOp .Div (.int z t) (.int 32 u')) Q E s := by
  have e : Float64.ofFrac (decide (z < 0) != decide ((32 : Int) < 0)) z.natAbs (Int.natAbs 32) = fl k := by
    have h0 : ¬ z < 0 := by omega
    rw [decide_eq_false h0, hz, Int.natAbs_natCast]
    rfl
  have hf := List.all_eq_true.mp fl_fin k (List.mem_range.mpr (by omega))
  refine PySem.Flt.div_ii hA (fun h0 => absurd h0 (by decide)) (fun _ hi => ?_) fun _ _ => ?_
  · rw [e] at hi
    rw [hi] at hf
    cases hf
  · rw [e]
    exact h _ _
theorem half_fl : (4602678819172646912 : UInt64) = fl 16 := by decide +kernel
theorem int_all : ((List.range 33).all fun k => Float64.isNaN (Float64.ofInt (k : Int)) == false && Float64.isInf (Float64.ofInt (k : Int)) == false && decide (PySem.Flt.toInt Float64.truncOf (Float64.ofInt (k : Int)) = (k : Int))) = true := by decide +kernel
theorem int_fl {prog : Program} {A : Around} {k : Nat} {t : Tok} (hA : A.handled = none) (hk : k ≤ 32) (h : ∀ tk t', Q (.int (k : Int) t') { s with toks := tk }) : wpAny (model prog w) A (call (.type "int") [.float (Float64.ofInt (k : Int)) t]) Q E s := by
  have hf := List.all_eq_true.mp int_all k (List.mem_range.mpr (by omega))
  simp only [Bool.and_eq_true, beq_iff_eq, decide_eq_true_eq] at hf
  refine PySem.Flt.call_int_float3 hA (fun e => ?_) (fun e => ?_) fun _ => ?_
  · rw [hf.1.1] at e; cases e
  · rw [hf.1.2] at e; cases e
  · rw [hf.2]; exact h _ _
theorem mul32 {prog : Program} {A : Around} {k : Nat} {t u' : Tok} (hA : A.handled = none) (hk : k ≤ 32) (h : ∀ tk t', Q (.float (Float64.ofInt (k : Int)) t') { s with toks := tk }) : wpAny (model prog w) A (binaryOp .Mult (.float (fl k) t) (.int 32 u')) Q E s := by
  have hf := List.all_eq_true.mp fl_all5 k (List.mem_range.mpr (by omega))
  simp only [beq_iff_eq] at hf
  refine mul_fi_sharp hA (fun ho => absurd ho (by decide +kernel)) fun _ => ?_
  rw [hf]; exact h _ _
theorem dbl_fl {prog : Program} {A : Around} {M n : Nat} {t u' : Tok} (hA : A.handled = none) (hM : M ≤ 32) (hn : n ≤ M) (h : ∀ tk t', Q (.float (fl (M + n)) t') { s with toks := tk }) : wpAny (model prog w) A (binaryOp .Mult (.int 2 t) (.float (Float64.div (Float64.add (fl M) (fl n)) 4611686018427387904) u')) Q E s := by
  have hf := List.all_eq_true.mp fl_all3 (M + n) (List.mem_range.mpr (by omega))
  simp only [Bool.and_eq_true, beq_iff_eq] at hf
  refine mul_if_sharp hA (fun ho => absurd ho (by decide +kernel)) fun _ => ?_
  rw [add_fl hn hM, show (4611686018427387904 : UInt64) = Float64.ofFrac false 2 1 by decide +kernel, hf.2]; exact h _ _
theorem sub_fl {prog : Program} {A : Around} {M n : Nat} {t u' : Tok} (hM : M ≤ 32) (hn : n ≤ M) (h : ∀ tk t', Q (.float (fl n) t') { s with toks := tk }) : wpAny (model prog w) A (binaryOp .Sub (.float (fl (M + n)) t) (.float (fl M) u')) Q E s := by
  have hf := List.all_eq_true.mp (List.all_eq_true.mp fl_all4 M (List.mem_range.mpr (by omega))) n (List.mem_range.mpr (by omega))
  simp only [beq_iff_eq] at hf
  refine sub_float ?_
  rw [hf]; exact h _ _
theorem maxH {prog : Program} {A : Around} {a b : Nat} {t u' x : Tok} (F : Fr h₀ L s.heap m) (N : News h₀ L s.heap news) (hh : A.handled = none) (ha : a ≤ 32) (hb : b ≤ 32)
    (h : ∀ h' tk t', Fr h₀ L h' m → News h₀ L h' news → Q (.float (fl (max (max a b) 16)) t') { s with heap := h', toks := tk }) :
    wpAny (model prog w) A (call (.builtin "max") [.float (fl a) t, .float (fl b) u', .float 4602678819172646912 x]) Q E s := by
  rw [half_fl]
  exact max3_K F N hh ha hb (by decide) h
theorem minH {prog : Program} {A : Around} {a b : Nat} {t u' x : Tok} (F : Fr h₀ L s.heap m) (N : News h₀ L s.heap news) (hh : A.handled = none) (ha : a ≤ 32) (hb : b ≤ 32)
    (h : ∀ h' tk t', Fr h₀ L h' m → News h₀ L h' news → Q (.float (fl (min (min a b) 16)) t') { s with heap := h', toks := tk }) :
    wpAny (model prog w) A (call (.builtin "min") [.float (fl a) t, .float (fl b) u', .float 4602678819172646912 x]) Q E s := by
  rw [half_fl]
  exact min3_K F N hh ha hb (by decide) h
end
end
theorem fresh_P_ring : True := by
  w_top off
  trivial
section
local macro_rules | `(tactic| walk_at "call builtin:list.append") => `(tactic| (k_here; (try dsimp only [List.cons_append, List.nil_append]); (with_reducible show wpAny _ _ (call (Value.builtin _) [Value.ref _, _]) _ _ _); k_dflt (refine' append_K (by k_asm) (by k_asm) ?k3 ?_ ?z; (case k3 => k_upd); (case z => first | exact Nat.le_of_ble_eq_true rfl | (simp only [List.size_toArray, PySem.sizeLine_eq]; omega) | size_fits); k_whole); intro h' F' N'; (try k_sweep)))
section
variable {w : World} {A₀ : Around} {E : Value → Shared → Prop} {s : Shared} {base h₀ : Heap} {outer : List Env} {L : Addr} {m : Str → Option Value} {news : List (Addr × Obj)} {mg mb : Str → Option Value} {p : Program} {loose : List Str} {mean : ExcName → Option Value} {Q : Value → Shared → Prop} {d u : Nat} {gs : Option (List Code)}
  {nm : List (Str × NameKind)} {gen co : Bool} {more : List (Str × Const)} {loc gl : Addr} {cl : List (Str × Addr)} {qual : Str} {fn : Option Addr} {code : Value} {blt : Addr}

noncomputable def topZ (a b c d : Int) : Int := max (max (max (max a (a + b)) (a + b + c)) (a + b + c + d)) 0
noncomputable def lowZ (a b c d : Int) : Int := min (min (min (min a (a + b)) (a + b + c)) (a + b + c + d)) 0
/-- two neighbours change places -/
noncomputable def swp {α : Type} (c : Int) : List α → List α
  | [a, b, x, y] => if c = 1 then [b, a, x, y] else if c = 2 then [a, x, b, y] else [a, b, y, x]
  | l => l
noncomputable def Apart : List Nat → Prop
  | [] => True
  | a :: r => Off a r ∧ Apart r
theorem use_gt1 {x dx pb : Addr} {t0 t1 t2 t3 t4 tl : Tok} {ln : Int} {st v : Value} {vs : List Value} {nw : Nat} {g : Obj → List (Addr × Obj)} (B : Below A₀ base outer h₀) (F : Fr h₀ L s.heap m) (X₀ : (hd.heap_39 w.params).In h₀) (N : News h₀ L s.heap news) (T : Top p loose mean mg mb h₀)
    (m1 : (x, instObj 119 dx) ∈ news) (m2 : (dx, lexD w t0 t1 t2 t3 t4 ln tl st pb) ∈ news) (U : UpdF pb (W.listOf (v :: vs).toArray nw) news g) (hd' : d < 800) (hu : u < 8000) (hA : Asc [dx, x, pb]) (hn : vs.length ≤ 100)
    (h : ∀ h' tk' nw', Fr h₀ L h' m → News h₀ L h' (g (W.listOf vs.toArray nw')) → Q v { s with heap := h', toks := tk' }) :
    wpAny (model prog w) (arnd d u (envL nm gen co more loc gl cl qual fn code L blt :: outer) gs) (call (.ref 109) [.ref x] []) Q E s := by
  have hm : (pb, W.listOf (v :: vs).toArray nw) ∈ news := by obtain ⟨own, rest, e, _⟩ := U.split; rw [e]; simp
  refine wpAny_call (ct_gt1 B F X₀ (newsSub N (subCons hm (subCons m1 (subCons m2 subNil)))) T hd' hu hA hn fun h' tk' nw' F' N' hk' => h h' tk' nw' F' ?_)
  refine newsAfter1 N U hk' N' (fun b hb => ?_) (by simp)
  simp only [List.mem_cons, List.not_mem_nil, or_false] at hb
  rcases hb with rfl | rfl | rfl
  · exact .inl rfl
  · exact .inr ⟨_, m1, by simp⟩
  · exact .inr ⟨_, m2, by simp⟩
theorem use_push {x dx pb : Addr} {t0 t1 t2 t3 t4 tl : Tok} {ln : Int} {st v : Value} {vs : List Value} {nw : Nat} {g : Obj → List (Addr × Obj)} (B : Below A₀ base outer h₀) (F : Fr h₀ L s.heap m) (X₀ : (hd.heap_39 w.params).In h₀) (N : News h₀ L s.heap news) (T : Top p loose mean mg mb h₀)
    (m1 : (x, instObj 119 dx) ∈ news) (m2 : (dx, lexD w t0 t1 t2 t3 t4 ln tl st pb) ∈ news) (U : UpdF pb (W.listOf vs.toArray nw) news g) (hd' : d < 800) (hu : u < 8000) (hA : Asc [dx, x, pb]) (hn : vs.length ≤ 100)
    (h : ∀ h' tk' nw', Fr h₀ L h' m → News h₀ L h' (g (W.listOf (vs ++ [v]).toArray nw')) → Q .none { s with heap := h', toks := tk' }) :
    wpAny (model prog w) (arnd d u (envL nm gen co more loc gl cl qual fn code L blt :: outer) gs) (call (.ref 116) [.ref x, v] []) Q E s := by
  have hm : (pb, W.listOf vs.toArray nw) ∈ news := by obtain ⟨own, rest, e, _⟩ := U.split; rw [e]; simp
  refine wpAny_call (ct_push B F X₀ (newsSub N (subCons hm (subCons m1 (subCons m2 subNil)))) T hd' hu hA hn fun h' tk' nw' F' N' hk' => h h' tk' nw' F' ?_)
  refine newsAfter1 N U hk' N' (fun b hb => ?_) (by simp)
  simp only [List.mem_cons, List.not_mem_nil, or_false] at hb
  rcases hb with rfl | rfl | rfl
  · exact .inl rfl
  · exact .inr ⟨_, m1, by simp⟩
  · exact .inr ⟨_, m2, by simp⟩
theorem use_insl {a : Addr} {x : Int} {xt : Tok} {vs : List Value} {ns : List Int} {n : Nat} {g : Obj → List (Addr × Obj)} (B : Below A₀ base outer h₀) (F : Fr h₀ L s.heap m) (X₀ : (hd.heap_39 w.params).In h₀) (N : News h₀ L s.heap news) (T : Top p loose mean mg mb h₀) (U : UpdF a (W.listOf vs.toArray n) news g) (hI : IntsAre vs ns) (hs : ns.Pairwise (· ≤ ·)) (hn : ns.length ≤ 1000) (hd' : d < 790) (hu : u < 7900)
    (h : ∀ h' tk' vs' n', Fr h₀ L h' m → News h₀ L h' (g (W.listOf vs'.toArray n')) → IntsAre vs' (insL ns x) → Q .none { s with heap := h', toks := tk' }) :
    wpAny (model prog w) (arnd d u (envL nm gen co more loc gl cl qual fn code L blt :: outer) gs) (call (.ref 72) [.ref a, .int x xt] []) Q E s := by
  have hm : (a, W.listOf vs.toArray n) ∈ news := by obtain ⟨own, rest, e, _⟩ := U.split; rw [e]; simp
  refine ct_insl B F X₀ (newsSub N (subCons hm subNil)) T hd' hu hI hs hn fun h' tk' vs' n' F' N' hI' hk' => h h' tk' vs' n' F' ?_ hI'
  exact newsAfter1 N U hk' N' (fun b hb => .inl (by simpa using hb)) (by simp)
theorem use_insr {a : Addr} {x : Int} {xt : Tok} {vs : List Value} {ns : List Int} {n : Nat} {g : Obj → List (Addr × Obj)} (B : Below A₀ base outer h₀) (F : Fr h₀ L s.heap m) (X₀ : (hd.heap_39 w.params).In h₀) (N : News h₀ L s.heap news) (T : Top p loose mean mg mb h₀) (U : UpdF a (W.listOf vs.toArray n) news g) (hI : IntsAre vs ns) (hs : ns.Pairwise (· ≤ ·)) (hn : ns.length ≤ 1000) (hd' : d < 790) (hu : u < 7900)
    (h : ∀ h' tk' vs' n', Fr h₀ L h' m → News h₀ L h' (g (W.listOf vs'.toArray n')) → IntsAre vs' (insR ns x) → Q .none { s with heap := h', toks := tk' }) :
    wpAny (model prog w) (arnd d u (envL nm gen co more loc gl cl qual fn code L blt :: outer) gs) (call (.ref 54) [.ref a, .int x xt] []) Q E s := by
  have hm : (a, W.listOf vs.toArray n) ∈ news := by obtain ⟨own, rest, e, _⟩ := U.split; rw [e]; simp
  refine ct_insr B F X₀ (newsSub N (subCons hm subNil)) T hd' hu hI hs hn fun h' tk' vs' n' F' N' hI' hk' => h h' tk' vs' n' F' ?_ hI'
  exact newsAfter1 N U hk' N' (fun b hb => .inl (by simpa using hb)) (by simp)
theorem use_hsv {a b c : Nat} {t1 t2 t3 : Tok} (B : Below A₀ base outer h₀) (F : Fr h₀ L s.heap m) (X₀ : (hd.heap_39 w.params).In h₀) (N : News h₀ L s.heap news) (T : Top p loose mean mg mb h₀) (hd' : d < 800) (hu : u < 8000) (ha : a ≤ 32) (hb : b ≤ 32) (hc : c ≤ 32)
    (h : ∀ h' tk' D v1 v2 t, Fr h₀ L h' m → News h₀ L h' ((D, tup3 v1 v2 (.float (fl (max (max a b) c)) t)) :: news) → LCg.Off1 D news → Q (.ref D) { s with heap := h', toks := tk' }) :
    wpAny (model prog w) (arnd d u (envL nm gen co more loc gl cl qual fn code L blt :: outer) gs) (call (.ref 45) [.float (fl a) t1, .float (fl b) t2, .float (fl c) t3] []) Q E s :=
  ct_hsv B F X₀ (fun _ q => nomatch q) T hd' hu ha hb hc fun h' tk' D v1 v2 t F' N' hk hnew => h h' tk' D v1 v2 t F' (news0 N hk N') (freshOff N hnew)
theorem use_hls {a b c : Nat} {t1 t2 t3 : Tok} (B : Below A₀ base outer h₀) (F : Fr h₀ L s.heap m) (X₀ : (hd.heap_39 w.params).In h₀) (N : News h₀ L s.heap news) (T : Top p loose mean mg mb h₀) (hd' : d < 800) (hu : u < 8000) (ha : a ≤ 32) (hb : b ≤ 32) (hc : c ≤ 32)
    (h : ∀ h' tk' D v1 v2 t, Fr h₀ L h' m → News h₀ L h' ((D, tup3 v1 (.float (Float64.div (Float64.add (fl (max (max a b) c)) (fl (min (min a b) c))) 4611686018427387904) t) v2) :: news) → LCg.Off1 D news → Q (.ref D) { s with heap := h', toks := tk' }) :
    wpAny (model prog w) (arnd d u (envL nm gen co more loc gl cl qual fn code L blt :: outer) gs) (call (.ref 38) [.float (fl a) t1, .float (fl b) t2, .float (fl c) t3] []) Q E s :=
  ct_hls B F X₀ (fun _ q => nomatch q) T hd' hu ha hb hc fun h' tk' D v1 v2 t F' N' hk hnew => h h' tk' D v1 v2 t F' (news0 N hk N') (freshOff N hnew)
local macro_rules | `(tactic| walk_at "subscriptTail") => `(tactic| (k_here; k_dflt (refine' kda_item (knd := PySem.strKind _ _) (by k_asm) ?m ?D ?k ?v ?_; (case m => k_mem); (case D => assumption); (case k => exact strKind_is _ _ _ _); (case v => assumption))))
/-- two places apart, told so that omega does not split on it -/
structure NeW (a b : Nat) : Prop where
  out : @Ne Nat a b
structure Ne3 (I C D : Nat) : Prop where
  ic : @Ne Nat I C
  id : @Ne Nat I D
  cd : @Ne Nat C D
theorem off1_mem {D : Addr} : ∀ {l : List (Addr × Obj)}, LCg.Off1 D l → ∀ p ∈ l, @Ne Nat p.1 D
  | [], _ => fun _ hp => nomatch hp
  | q :: r, h => fun p hp => by
    rcases List.mem_cons.mp hp with rfl | hp
    · exact h.1
    · exact off1_mem h.2 p hp
theorem off3_mem {I C D : Addr} : ∀ {l : List (Addr × Obj)}, LCg.Off3 I C D l → ∀ p ∈ l, @Ne Nat p.1 I ∧ @Ne Nat p.1 C ∧ @Ne Nat p.1 D
  | [], _ => fun _ hp => nomatch hp
  | q :: r, h => fun p hp => by
    rcases List.mem_cons.mp hp with rfl | hp
    · exact h.1
    · exact off3_mem h.2 p hp
local macro_rules | `(tactic| k_ne) => `(tactic| (refine neN ?_; (try dsimp only); first
  | exact NeW.out (by with_reducible assumption)
  | exact Ne.symm (NeW.out (by with_reducible assumption))
  | exact Ne3.ic (by with_reducible assumption)
  | exact Ne3.id (by with_reducible assumption)
  | exact Ne3.cd (by with_reducible assumption)
  | exact Ne.symm (Ne3.ic (by with_reducible assumption))
  | exact Ne.symm (Ne3.id (by with_reducible assumption))
  | exact Ne.symm (Ne3.cd (by with_reducible assumption))
  | omega
  | exact (off3_mem (show LCg.Off3 _ _ _ _ by with_reducible assumption) (_, _) (by k_mem)).1
  | exact (off3_mem (show LCg.Off3 _ _ _ _ by with_reducible assumption) (_, _) (by k_mem)).2.1
  | exact (off3_mem (show LCg.Off3 _ _ _ _ by with_reducible assumption) (_, _) (by k_mem)).2.2
  | exact Ne.symm (off3_mem (show LCg.Off3 _ _ _ _ by with_reducible assumption) (_, _) (by k_mem)).1
  | exact Ne.symm (off3_mem (show LCg.Off3 _ _ _ _ by with_reducible assumption) (_, _) (by k_mem)).2.1
  | exact Ne.symm (off3_mem (show LCg.Off3 _ _ _ _ by with_reducible assumption) (_, _) (by k_mem)).2.2
  | exact off1_mem (show LCg.Off1 _ _ by with_reducible assumption) (_, _) (by k_mem)
  | exact Ne.symm (off1_mem (show LCg.Off1 _ _ by with_reducible assumption) (_, _) (by k_mem))))
local macro_rules | `(tactic| lcg_off) => `(tactic| ((with_reducible rename LCg.Off3 _ _ _ _ => oo); exact oo))
local macro_rules | `(tactic| walk_at "exec Assign cons ListComp") => `(tactic| (k_here; k_dflt (refine LCg.Assign_ListComp_U (F₀ := by k_asm) (by rfl) (by with_unfolding_all rfl) (by rfl) (by decide) (by rfl) (by decide) (by rfl) (by rfl) (by rfl) ?_)))
local macro_rules | `(tactic| walk_at "CompSrc") => `(tactic| (k_here; k_dflt (refine LCg.CompSrc.range (by rfl) (by k_asm) (by k_asm) (by assumption) (by first | decide | rfl) (by first | rfl | decide) (by first | size_fits | exact Nat.le_of_ble_eq_true rfl) ?_; intro g'; lcg_lit)))
local macro_rules | `(tactic| walk_at "CompRest") => `(tactic| (with_unfolding_all first
  | (refine LCg.CompRest.succ ?_; (try (with_reducible rename Ne3 _ _ _ => neOld; clear neOld)); intro v' I' oI' C' oC' D' m' h' tk' E' hv' hC' hx' F' N' off' ne'; obtain ⟨t9', hv9'⟩ := hv'; subst hv9'; replace ne' := Ne3.mk ne'.1 ne'.2.1 ne'.2.2; (try k_sweep))
  | refine LCg.CompRest.zero ?_))
local macro_rules | `(tactic| walk_at "CompRest") => `(tactic| (k_dflt (show LCg.CompRest _ _ _ _ _ _ _ _ _ _ _ _ _ _ _ 4 0 _ _); refine Stop.out (P := _) ?_))
local macro_rules | `(tactic| walk_at "FinA") => `(tactic| ((unfold LCg.FinA); (try (with_reducible rename Ne3 _ _ _ => neOld; clear neOld)); intro D' h' tk' F' N' o1'; (try simp only [List.nil_append, List.cons_append] at N'); (try dsimp only)))
local macro_rules | `(tactic| walk_at "exec Assign cons Tuple") => `(tactic| (k_here; (with_reducible rename _ ∨ _ ∨ _ => hc9); refine Stop.out (P := _) ?_))
local macro_rules | `(tactic| walk_at "call builtin:max") => `(tactic| (k_here; k_dflt (refine' maxH (by k_asm) (by k_asm) ?hh ?a ?b ?_; (case hh => exact rfl); (case a => first | assumption | omega); (case b => first | assumption | omega); k_whole; intro h' tk' t' F' N')))
local macro_rules | `(tactic| walk_at "call builtin:min") => `(tactic| (k_here; k_dflt (refine' minH (by k_asm) (by k_asm) ?hh ?a ?b ?_; (case hh => exact rfl); (case a => first | assumption | omega); (case b => first | assumption | omega); k_whole; intro h' tk' t' F' N')))
local macro_rules | `(tactic| walk_at "binaryOp Mult float int") => `(tactic| (k_here; k_dflt (refine' mul32 ?hh ?a ?_; (case hh => exact rfl); (case a => first | assumption | omega); intro _ _)))
local macro_rules | `(tactic| walk_at "binaryOp Mult int float") => `(tactic| (k_here; k_dflt (refine' dbl_fl ?hh ?a ?b ?_; (case hh => exact rfl); (case a => first | assumption | omega); (case b => first | assumption | omega); intro _ _)))
local macro_rules | `(tactic| walk_at "binaryOp Sub float float") => `(tactic| (k_here; k_dflt (refine' sub_fl ?a ?b ?_; (case a => first | assumption | omega); (case b => first | assumption | omega); intro _ _)))
local macro_rules | `(tactic| walk_at "call type:int") => `(tactic| (k_here; k_dflt (refine' int_fl ?hh ?a ?_; (case hh => exact rfl); (case a => first | assumption | omega); intro _ _)))
local macro_rules | `(tactic| walk_at "binaryOp Div int int") => `(tactic| (k_here; k_dflt (refine' div32 ?hA ?hz ?hk ?_; (case hA => exact rfl); (case hz => with_reducible assumption); (case hk => first | assumption | omega); intro _ _)))
theorem updF_self {a : Addr} {o : Obj} {news : List (Addr × Obj)} {g : Obj → List (Addr × Obj)} (U : UpdF a o news g) : g o = news := by
  obtain ⟨own, rest, e, hg, _⟩ := U.split
  rw [hg, e]
section
variable {prog : Program} {w : World} {A : Around} {s : Shared} {h₀ : Heap} {L : Addr} {m : Str → Option Value} {env : Env}
/-- four words waiting, told by one turn -/
theorem comp_wait {elt : Expr} {x : Str} {scope : Scope} {cl : List (Str × Addr)} {S : List (Addr × Obj) → Prop} {P : Nat → Value → Prop} {Fin : List Value → List (Addr × Obj) → Prop} {pb : Addr} {v0 v1 v2 v3 : Value} {nw n : Nat} {news : List (Addr × Obj)} {g : Obj → List (Addr × Obj)}
    (U : UpdF pb (W.listOf #[v0, v1, v2, v3] nw) news g) (hS : ∀ o, S (g o))
    (turn : ∀ (y : Value) (vs : List Value) nw v I oI C oC D oD m₂ h tk (E' : Value → Shared → Prop) (Q' : Value → Shared → Prop), vs.length ≤ 100 → LCg.NsObj oC m₂ → m₂ x = some v → Fr h₀ L h m → News h₀ L h ((I, oI) :: (C, oC) :: (D, oD) :: g (W.listOf (y :: vs).toArray nw)) → LCg.Off3 I C D (g (W.listOf (y :: vs).toArray nw)) → Ne3 I C D →
      (∀ h' tk' nw', Fr h₀ L h' m → News h₀ L h' ((I, oI) :: (C, oC) :: (D, oD) :: g (W.listOf vs.toArray nw')) → Q' y { s with heap := h', toks := tk' }) →
      wpAny (model prog w) A (eval elt (compEnvC scope cl C env)) Q' E' { s with heap := h, toks := tk })
    (off : ∀ I C D o o', LCg.Off3 I C D (g o) → LCg.Off3 I C D (g o'))
    (fin : ∀ nw', LCg.CompRest prog w A h₀ L m env elt x scope cl s S P Fin n 4 [v0, v1, v2, v3] (g (W.listOf #[] nw'))) : LCg.CompRest prog w A h₀ L m env elt x scope cl s S P Fin (n + 4) 0 [] news := by
  have one : ∀ (y : Value) (vs : List Value) (nw : Nat) (n i : Nat) (ys : List Value), vs.length ≤ 100 → (∀ nw', LCg.CompRest prog w A h₀ L m env elt x scope cl s S P Fin n (i + 1) (ys ++ [y]) (g (W.listOf vs.toArray nw'))) → LCg.CompRest prog w A h₀ L m env elt x scope cl s S P Fin (n + 1) i ys (g (W.listOf (y :: vs).toArray nw)) :=
    fun y vs nw n i ys hl r => LCg.CompRest.succ fun v I oI C oC D m₂ h' tk E' hv hC hx F N of ne =>
      turn y vs nw v I oI C oC D _ m₂ h' tk E' _ hl hC hx F N of ⟨ne.1, ne.2.1, ne.2.2⟩ fun h'' tk'' nw' F' N' =>
        LCg.CompEnd.intro F' N' _ (fun _ hp => hp) (off _ _ _ _ _ of) (hS _) (r nw')
  rw [← updF_self U]
  exact one v0 [v1, v2, v3] nw _ 0 [] (Nat.le_of_ble_eq_true rfl) fun nw1 => one v1 [v2, v3] nw1 _ 1 _ (Nat.le_of_ble_eq_true rfl) fun nw2 => one v2 [v3] nw2 _ 2 _ (Nat.le_of_ble_eq_true rfl) fun nw3 => one v3 [] nw3 _ 3 _ (Nat.le_of_ble_eq_true rfl) fun nw4 => fin nw4
end
theorem swp_four {α : Type} (c : Int) (a b x y : α) : ∃ p q r t, swp c [a, b, x, y] = [p, q, r, t] := by
  exact if h : c = 1 then ⟨_, _, _, _, if_pos h⟩ else if h2 : c = 2 then ⟨_, _, _, _, (if_neg h).trans (if_pos h2)⟩ else ⟨_, _, _, _, (if_neg h).trans (if_neg h2)⟩
theorem swap_join {M : Model} {A : Around} {t : Sem Flow} {Q : Flow → Shared → Prop} {E : Value → Shared → Prop} {h : Heap} {g1 g2 g3 : _} {tk : Tok} {h₀ : Heap} {L : Addr} {m : Str → Option Value} {l : Addr} {v : List Value} {rest : List (Addr × Obj)}
    (c : Int) (_F : Fr h₀ L h m) (_N : News h₀ L h ((l, LCg.lst v) :: rest))
    (h1 : ∀ Q' : Flow → Shared → Prop, (∀ h' tk', Fr h₀ L h' m → News h₀ L h' ((l, LCg.lst (swp c v)) :: rest) → Q' .next ⟨h', g1, g2, tk', g3⟩) → wpAny M A t Q' E ⟨h, g1, g2, tk, g3⟩)
    (h2 : ∀ h' tk', Fr h₀ L h' m → News h₀ L h' ((l, LCg.lst (swp c v)) :: rest) → Q .next ⟨h', g1, g2, tk', g3⟩) : wpAny M A t Q E ⟨h, g1, g2, tk, g3⟩ := h1 Q h2
theorem max16 (k j : Nat) : max ((k : Int) - 16) ((j : Int) - 16) = ((max k j : Nat) : Int) - 16 := by lia
theorem min16 (k j : Nat) : min ((k : Int) - 16) ((j : Int) - 16) = ((min k j : Nat) : Int) - 16 := by lia
theorem top16 {p0 p1 p2 p3 : Int} {k0 k1 k2 k3 : Nat} (e0 : p0 = (k0 : Int) - 16) (e1 : p0 + p1 = (k1 : Int) - 16) (e2 : p0 + p1 + p2 = (k2 : Int) - 16) (e3 : p0 + p1 + p2 + p3 = (k3 : Int) - 16) : topZ p0 p1 p2 p3 = ((max (max (max (max k0 k1) k2) k3) 16 : Nat) : Int) - 16 := by
  unfold topZ
  rw [e3, e2, e1, e0, max16, max16, max16]
  exact max16 _ 16
theorem low16 {p0 p1 p2 p3 : Int} {k0 k1 k2 k3 : Nat} (e0 : p0 = (k0 : Int) - 16) (e1 : p0 + p1 = (k1 : Int) - 16) (e2 : p0 + p1 + p2 = (k2 : Int) - 16) (e3 : p0 + p1 + p2 + p3 = (k3 : Int) - 16) : lowZ p0 p1 p2 p3 = ((min (min (min (min k0 k1) k2) k3) 16 : Nat) : Int) - 16 := by
  unfold lowZ
  rw [e3, e2, e1, e0, min16, min16, min16]
  exact min16 _ 16
theorem off16 {p0 p1 p2 p3 : Int} {k0 k1 k2 k3 : Nat} (e0 : 16 + p0 = (k0 : Int)) (e1 : 16 + p0 + p1 = (k1 : Int)) (e2 : 16 + p0 + p1 + p2 = (k2 : Int)) (e3 : 16 + p0 + p1 + p2 + p3 = (k3 : Int)) :
    p0 = (k0 : Int) - 16 ∧ p0 + p1 = (k1 : Int) - 16 ∧ p0 + p1 + p2 = (k2 : Int) - 16 ∧ p0 + p1 + p2 + p3 = (k3 : Int) - 16 :=
  have h {x : Int} {k : Nat} (h : 16 + x = (k : Int)) : x = (k : Int) - 16 := by lia
  ⟨h e0, h (by rw [← Int.add_assoc]; exact e1), h (by rw [← Int.add_assoc, ← Int.add_assoc]; exact e2), h (by rw [← Int.add_assoc, ← Int.add_assoc, ← Int.add_assoc]; exact e3)⟩
theorem sum16 {x p : Int} {n : Nat} (h : 16 - 4 * (n : Int) ≤ x ∧ x ≤ 16 + 4 * (n : Int)) (hp : -4 ≤ p ∧ p ≤ 4) : 16 - 4 * ((n + 1 : Nat) : Int) ≤ x + p ∧ x + p ≤ 16 + 4 * ((n + 1 : Nat) : Int) := by lia
theorem nat16 {x : Int} {n : Nat} (h : 16 - 4 * (n : Int) ≤ x ∧ x ≤ 16 + 4 * (n : Int)) (hn : n ≤ 4) : ∃ k : Nat, x = (k : Int) ∧ k ≤ 32 := by
  obtain ⟨k, hk⟩ := Int.eq_ofNat_of_zero_le (show 0 ≤ x by lia)
  exact ⟨k, hk, by lia⟩
theorem sums16 {p0 p1 p2 p3 : Int} (hb0 : -4 ≤ p0 ∧ p0 ≤ 4) (hb1 : -4 ≤ p1 ∧ p1 ≤ 4) (hb2 : -4 ≤ p2 ∧ p2 ≤ 4) (hb3 : -4 ≤ p3 ∧ p3 ≤ 4) :
    ∃ k0 k1 k2 k3 : Nat, (16 + p0 = (k0 : Int) ∧ k0 ≤ 32) ∧ (16 + p0 + p1 = (k1 : Int) ∧ k1 ≤ 32) ∧ (16 + p0 + p1 + p2 = (k2 : Int) ∧ k2 ≤ 32) ∧ (16 + p0 + p1 + p2 + p3 = (k3 : Int) ∧ k3 ≤ 32) := by
  have s0 := sum16 (x := 16) (n := 0) ⟨by decide, by decide⟩ hb0
  have s1 := sum16 s0 hb1
  have s2 := sum16 s1 hb2
  have s3 := sum16 s2 hb3
  obtain ⟨k0, q0⟩ := nat16 s0 (by decide)
  obtain ⟨k1, q1⟩ := nat16 s1 (by decide)
  obtain ⟨k2, q2⟩ := nat16 s2 (by decide)
  obtain ⟨k3, q3⟩ := nat16 s3 (by decide)
  exact ⟨k0, k1, k2, k3, q0, q1, q2, q3⟩
theorem max_le3 {a b c : Nat} (ha : a ≤ 32) (hb : b ≤ 32) (hc : c ≤ 32) : max (max a b) c ≤ 32 := Nat.max_le.mpr ⟨Nat.max_le.mpr ⟨ha, hb⟩, hc⟩
theorem min_le3 {a b c : Nat} (hc : c ≤ 32) : min (min a b) c ≤ 32 := Nat.le_trans (Nat.min_le_right ..) hc
theorem min_max3 (a b c : Nat) : min (min a b) c ≤ max (max a b) c := Nat.le_trans (Nat.min_le_right ..) (Nat.le_max_right ..)
theorem max_le5 {a b c d : Nat} (h : max (max a b) c ≤ 32) (hd : d ≤ 32) : max (max (max (max a b) c) d) 16 ≤ 32 := Nat.max_le.mpr ⟨Nat.max_le.mpr ⟨h, hd⟩, by decide⟩
theorem min_le5 (a b c d : Nat) : min (min (min (min a b) c) d) 16 ≤ 32 := Nat.le_trans (Nat.min_le_right ..) (by decide)
theorem ring_start {m₀ : Str → Option Value} {z : Int} {H : Tok} (h : m₀ (PySem.Str.ofString "held") = some (.int z H)) : m₀ = fun y => if y = PySem.Str.ofString "bell" then m₀ (PySem.Str.ofString "bell") else if y = PySem.Str.ofString "held" then some (.int z H) else m₀ y := funext fun y => by
  by_cases e : y = PySem.Str.ofString "bell"
  · rw [if_pos e, e]
  · by_cases e2 : y = PySem.Str.ofString "held"
    · rw [if_neg e, if_pos e2, e2, h]
    · rw [if_neg e, if_neg e2]
theorem ne_held_bell : ¬ PySem.Str.ofString "held" = PySem.Str.ofString "bell" := by decide +kernel
theorem ring_map {m₀ : Str → Option Value} {S' V X S : Option Value} : (fun z => if z = PySem.Str.ofString "held" then S' else if z = PySem.Str.ofString "bell" then V else if z = PySem.Str.ofString "bell" then X else if z = PySem.Str.ofString "held" then S else m₀ z) = fun z => if z = PySem.Str.ofString "bell" then V else if z = PySem.Str.ofString "held" then S' else m₀ z := funext fun z => by
  by_cases e : z = PySem.Str.ofString "held"
  · rw [if_pos e, e, if_neg ne_held_bell, if_pos rfl]
  · rw [if_neg e]
    by_cases e2 : z = PySem.Str.ofString "bell"
    · rw [if_pos e2, if_pos e2]
    · rw [if_neg e2, if_neg e2, if_neg e2, if_neg e, if_neg e]
/-- what is held after some bells, and the marks made -/
noncomputable def heldP (M : Addr) (ks : List Nat) (m₀ : Str → Option Value) (i : Nat) (m' : Str → Option Value) (v : List (Addr × Obj)) : Prop :=
  ∃ X z H n ts, m' = (fun y => if y = PySem.Str.ofString "bell" then X else if y = PySem.Str.ofString "held" then some (.int z H) else m₀ y) ∧ z = (((16 :: ks).getD i 0 : Nat) : Int) ∧ v = [(M, W.listOf (vals (fun j t => .float (fl (ks.getD j 0)) t) 0 ts).toArray n)] ∧ ts.length = i
theorem ring_at {kvs : List (Str × Value)} {b0 b1 b2 b3 : Str} {t0 t1 t2 t3 s0 s1 s2 s3 : Tok} {p0 p1 p2 p3 : Int} {k0 k1 k2 k3 i : Nat} {v : Value} (h0 : valueAt kvs b0 = some (.int p0 s0)) (h1 : valueAt kvs b1 = some (.int p1 s1)) (h2 : valueAt kvs b2 = some (.int p2 s2)) (h3 : valueAt kvs b3 = some (.int p3 s3))
    (e0 : 16 + p0 = (k0 : Int)) (e1 : 16 + p0 + p1 = (k1 : Int)) (e2 : 16 + p0 + p1 + p2 = (k2 : Int)) (e3 : 16 + p0 + p1 + p2 + p3 = (k3 : Int)) (f0 : k0 ≤ 32) (f1 : k1 ≤ 32) (f2 : k2 ≤ 32) (f3 : k3 ≤ 32)
    (h : ([.str b0 t0, .str b1 t1, .str b2 t2, .str b3 t3] : List Value)[i]? = some v) :
    ∃ b t p s, v = .str b t ∧ valueAt kvs b = some (.int p s) ∧ ((([16, k0, k1, k2, k3] : List Nat).getD i 0 : Nat) : Int) + p = (([k0, k1, k2, k3] : List Nat).getD i 0 : Nat) ∧ ([k0, k1, k2, k3] : List Nat).getD i 0 ≤ 32 ∧ i ≤ 3 := by
  match i, h with
  | 0, h => exact ⟨b0, _, p0, s0, (Option.some.inj h).symm, h0, e0, f0, by decide⟩
  | 1, h => exact ⟨b1, _, p1, s1, (Option.some.inj h).symm, h1, e0 ▸ e1, f1, by decide⟩
  | 2, h => exact ⟨b2, _, p2, s2, (Option.some.inj h).symm, h2, e1 ▸ e2, f2, by decide⟩
  | 3, h => exact ⟨b3, _, p3, s3, (Option.some.inj h).symm, h3, e2 ▸ e3, f3, by decide⟩
  | n + 4, h => simp at h
theorem ct_ring {D : Addr} {o : Obj} {kvs : List (Str × Value)} {ta la : Addr} {vt vl : List Value} {it il : List Int} {nt nl nw : Nat} {pb x dx : Addr} {u0 u1 u2 u3 u4 tl : Tok} {ln : Int} {st : Value} {b0 b1 b2 b3 : Str} {t0 t1 t2 t3 : Tok} {p0 p1 p2 p3 : Int} {c : Int} {tc : Tok} (B : Below A₀ base outer h₀) (F : Fr h₀ L s.heap m) (X₀ : (hd.heap_39 w.params).In h₀) (N : News h₀ L s.heap [(D, o), (ta, W.listOf vt.toArray nt), (la, W.listOf vl.toArray nl), (pb, W.listOf ([.str b0 t0, .str b1 t1, .str b2 t2, .str b3 t3] : List Value).toArray nw), (x, instObj 119 dx), (dx, lexD w u0 u1 u2 u3 u4 ln tl st pb)]) (T : Top p loose mean mg mb h₀) (hd' : d < 780) (hu : u < 7800) (hD : o.IsDictOf (PySem.strKind prog w) kvs) (hp0 : ∃ t, valueAt kvs b0 = some (.int p0 t)) (hp1 : ∃ t, valueAt kvs b1 = some (.int p1 t)) (hp2 : ∃ t, valueAt kvs b2 = some (.int p2 t)) (hp3 : ∃ t, valueAt kvs b3 = some (.int p3 t))
    (hb0 : -4 ≤ p0 ∧ p0 ≤ 4) (hb1 : -4 ≤ p1 ∧ p1 ≤ 4) (hb2 : -4 ≤ p2 ∧ p2 ≤ 4) (hb3 : -4 ≤ p3 ∧ p3 ≤ 4) (hT : IntsAre vt it) (hL : IntsAre vl il) (hTs : it.Pairwise (· ≤ ·)) (hLs : il.Pairwise (· ≤ ·)) (hTn : it.length ≤ 900) (hLn : il.length ≤ 900)
    (hA : Asc [dx, x, pb]) (hP : Apart [D, ta, la, pb, x, dx]) (hc : c = 1 ∨ c = 2 ∨ c = 3)
    (h : ∀ h' tk' vt' vl' nt' nl' nw', Fr h₀ L h' m → News h₀ L h' [(D, o), (ta, W.listOf vt'.toArray nt'), (la, W.listOf vl'.toArray nl'), (pb, W.listOf ((swp c [.str b0 t0, .str b1 t1, .str b2 t2, .str b3 t3]) : List Value).toArray nw'), (x, instObj 119 dx), (dx, lexD w u0 u1 u2 u3 u4 ln tl st pb)] → IntsAre vt' (insL it (topZ p0 p1 p2 p3)) → IntsAre vl' (insR il (lowZ p0 p1 p2 p3)) → KeepBut s.heap h' [D, ta, la, pb, x, dx] → Q .none { s with heap := h', toks := tk' }) :
    wpAny (model prog w) (arnd d u (envL nm gen co more loc gl cl qual fn code L blt :: outer) gs) (call (.ref 188) [.ref x, .ref D, .ref ta, .ref la, .int c tc] []) Q E s := by
  have hkk0 : (fun (_ : Params → Frag) (_ : OpenLaw) => True) hd.heap_39 PySem.Challenge.rw_sc0065_01 := by k_fill; trivial
  clear hkk0
  refine wpAny_call ?_
  obtain ⟨s0, hp0⟩ := hp0
  obtain ⟨s1, hp1⟩ := hp1
  obtain ⟨s2, hp2⟩ := hp2
  obtain ⟨s3, hp3⟩ := hp3
  have hA2 := hA
  have hP2 := hP
  simp only [Asc, and_true] at hA2
  simp only [Apart, Off, and_true] at hP2
  obtain ⟨⟨n1, n2, n3, n4, n5⟩, ⟨n6, n7, n8, n9⟩, ⟨n10, n11, n12⟩, _, _⟩ := hP2
  replace n1 := NeW.mk n1
  replace n2 := NeW.mk n2
  replace n3 := NeW.mk n3
  replace n4 := NeW.mk n4
  replace n5 := NeW.mk n5
  replace n6 := NeW.mk n6
  replace n7 := NeW.mk n7
  replace n8 := NeW.mk n8
  replace n9 := NeW.mk n9
  replace n10 := NeW.mk n10
  replace n11 := NeW.mk n11
  replace n12 := NeW.mk n12
  obtain ⟨k0, k1, k2, k3, ⟨e0, f0⟩, ⟨e1, f1⟩, ⟨e2, f2⟩, ⟨e3, f3⟩⟩ := sums16 hb0 hb1 hb2 hb3
  have f4 := max_le3 f0 f1 f2
  have f5 := min_le3 (a := k0) (b := k1) f2
  have f6 := min_max3 k0 k1 k2
  have f7 := max_le5 f4 f3
  have f8 := min_le5 k0 k1 k2 k3
  clear hb0 hb1 hb2 hb3
  (first
    | (refine' code_defG (by k_asm) (by k_asm) (by k_asm) (by k_asm) (by k_asm) ?kA ?kF ?kK ?k6 ?k7 ?k8 ?k9 ?kB ?_ ?c2 ?c3 ?c4 ?c5; (case kA => exact rfl); (case kF => exact rfl); (case kK => exact rfl); (case k6 => k_is); (case k7 => k_is); (case k8 => k_room); (case k9 => first | exact BindsTo.of_eq rfl | exact binds_K (by k_in) rfl (by k_is) rfl rfl rfl | (refine' kp_binds ?kx ?ke; (case kx => k_in); (case ke => exact fun _ => rfl)) | fail "k_enter: no rule for these arguments"); (case c5 => decide); (case kB => exact locs rfl); (case c2 => exact rfl); (case c3 => exact rfl); (case c4 => exact rfl); k_whole; intro g' L' h' FG' F' N' B' X' T' kG'; (try dsimp only); (try k_lift B'); (try k_fold))
    | (refine' Mine.code_defCG (by k_asm) (by k_asm) (by k_asm) (by k_asm) (by k_asm) ?kA ?kF ?kK ?k6 ?k7 ?k8 ?k9 ?kB ?kD ?_ ?c2 ?c3 ?c4; (case kA => exact rfl); (case kF => exact rfl); (case kK => exact rfl); (case k6 => k_is); (case k7 => k_is); (case k8 => k_room); (case k9 => first | exact BindsTo.of_eq rfl | exact binds_K (by k_in) rfl (by k_is) rfl rfl rfl | (refine' kp_binds ?kx ?ke; (case kx => k_in); (case ke => exact fun _ => rfl)) | fail "k_enter: no rule for these arguments"); (case kB => exact rfl); (case kD => decide +kernel); (case c2 => exact rfl); (case c3 => exact rfl); (case c4 => exact rfl); k_whole; intro g' L' h' tk' cells' FG' F' N' Y' B' X' T' l1 kG'; (try k_lt l1); k_cells Y'; (try simp only [List.cons_append, List.nil_append] at N'); (try dsimp only); (try k_lift B'); (try k_fold)))
  (with_reducible rename GSub _ _ _ => kG0)
  k_steps
  refine Stop.mk ?_
  refine' comp_wait (pb := pb) (n := 0) ?eU ?eS ?eturn ?eoff ?efin
  case eU => k_updF
  case eS => exact fun _ => trivial
  case eoff => exact fun _ _ _ _ _ h => h
  case eturn =>
    intro y9 vs9 nw9 v9 I9 oI9 C9 oC9 D9 oD9 m9 h9 tk9 E9 Q9 hl9 hC9 hx9 F9 N9 off9 ne9 hq9
    (try dsimp only at N9 off9 hq9)
    k_steps
    refine Stop.mk ?_
    refine' use_gt1 ?ek1 ?ek2 ?ek3 ?ek4 ?ek5 ?em1 ?em2 ?eU ?ed1 ?eu1 ?eha ?ehn ?_
    case ek1 => k_asm
    case ek2 => k_asm
    case ek3 => k_asm
    case ek4 => k_asm
    case ek5 => k_asm
    case em1 => k_mem
    case em2 => k_mem
    case eU => k_updF
    case ed1 => ((try dsimp only); omega)
    case eu1 => ((try dsimp only); omega)
    case eha => assumption
    case ehn => ((try simp only [List.length_cons, List.length_nil, List.length_append]); omega)
    intro h' tk' nw' F' N'
    (try dsimp only at N')
    k_steps
    (with_reducible rename News _ _ _ _ => kN9)
    (with_reducible rename Fr _ _ _ _ => kF9)
    exact hq9 _ _ _ kF9 kN9
  case efin =>
    intro nw9
    (try dsimp only)
    k_steps
    refine Stop.mk ?_
    refine for_any ?_
    k_steps
    refine Stop.mk ?_
    (with_reducible rename News _ _ _ _ => kN)
    (with_reducible rename Fr _ _ _ _ => kF)
    refine' for_list_M (its := [.str b0 t0, .str b1 t1, .str b2 t2, .str b3 t3]) (heldP _ [k0, k1, k2, k3] _) [_] ?lh ?lx ?lp kF (news_one kN) ⟨_, _, _, _, [], ring_start rfl, rfl, rfl, rfl⟩ (by k_mem) ?ladr ?lstep ?lQ
    case lh => exact rfl
    case lx => exact rfl
    case lp => exact rfl
    case ladr =>
      rintro i m' v ⟨X, z, H, n, ts, rfl, _, rfl, _⟩
      rfl
    case lstep =>
      intro i v I m' var' own s₁ Q' hv hInv9 F1 N1 hI hown hq9
      obtain ⟨X, z, H, n, ts, rfl, hz, rfl, hts⟩ := hInv9
      obtain ⟨b9, t9, p9, s9, rfl, hp9, hs9, hk9, hi9⟩ := ring_at hp0 hp1 hp2 hp3 e0 e1 e2 e3 f0 f1 f2 f3 hv
      have hs8 : z + p9 = ((([k0, k1, k2, k3] : List Nat).getD i 0 : Nat) : Int) := by rw [hz]; exact hs9
      have hvl := vals_len (mk := fun j t => Value.float (fl (([k0, k1, k2, k3] : List Nat).getD j 0)) t) (i := 0) (ts := ts)
      dsimp only [List.cons_append, List.nil_append] at N1 hI
      have oO := own_off hown (hI _ (List.mem_cons_self ..)) (by k_ne)
      clear kN
      k_steps
      (with_reducible rename News _ _ _ _ => kN2)
      (with_reducible rename Fr _ _ _ _ => kF2)
      refine' hq9 _ _ _ [(_, _)] kF2 kN2 ⟨_, _, _, _, ts ++ [?ltok], ring_map, hs8, ?lveq, ?lvlen⟩
      case lveq =>
        rw [vals_snoc, ← List.push_toArray, Nat.zero_add, hts]
      case lvlen =>
        rw [List.length_append, hts]
        rfl
    case lQ =>
      intro hL tkL mL varL FL NL hInv9
      obtain ⟨X, z, H, n, ts, rfl, hz, rfl, hts⟩ := hInv9
      match ts, hts with
      | [y0, y1, y2, y3], _ =>
        simp only [vals, List.getD_cons_zero, List.getD_cons_succ, List.cons_append, List.nil_append] at NL
        clear kN
        k_steps
        refine Stop.mk ?_
        refine' use_hsv ?hvk1 ?hvk2 ?hvk3 ?hvk4 ?hvk5 ?hvd1 ?hvu1 ?hva1 ?hva2 ?hva3 ?_
        case hvk1 => k_asm
        case hvk2 => k_asm
        case hvk3 => k_asm
        case hvk4 => k_asm
        case hvk5 => k_asm
        case hvd1 => ((try dsimp only); omega)
        case hvu1 => ((try dsimp only); omega)
        case hva1 => first | assumption | omega
        case hva2 => first | assumption | omega
        case hva3 => first | assumption | omega
        intro h' tk' D' v1' v2' t' F' N' o1'
        k_steps
        refine Stop.mk ?_
        refine' use_hls ?hlk1 ?hlk2 ?hlk3 ?hlk4 ?hlk5 ?hld1 ?hlu1 ?hla1 ?hla2 ?hla3 ?_
        case hlk1 => k_asm
        case hlk2 => k_asm
        case hlk3 => k_asm
        case hlk4 => k_asm
        case hlk5 => k_asm
        case hld1 => ((try dsimp only); omega)
        case hlu1 => ((try dsimp only); omega)
        case hla1 => first | assumption | omega
        case hla2 => first | assumption | omega
        case hla3 => first | assumption | omega
        intro h' tk' D' v1' v2' t' F' N' o1'
        k_steps
        refine Stop.mk ?_
        refine' use_insl ?ilk1 ?ilk2 ?ilk3 ?ilk4 ?ilk5 ?ilU ?ilhI ?ilhs ?ilhn ?ild1 ?ilu1 ?_
        case ilk1 => k_asm
        case ilk2 => k_asm
        case ilk3 => k_asm
        case ilk4 => k_asm
        case ilk5 => k_asm
        case ilU => k_updF
        case ilhI => exact (by with_reducible assumption)
        case ilhs => with_reducible assumption
        case ilhn => omega
        case ild1 => ((try dsimp only); omega)
        case ilu1 => ((try dsimp only); omega)
        intro h' tk' vs' n' F' N' hI'
        (try dsimp only at N')
        k_steps
        refine Stop.mk ?_
        refine' use_insr ?irk1 ?irk2 ?irk3 ?irk4 ?irk5 ?irU ?irhI ?irhs ?irhn ?ird1 ?iru1 ?_
        case irk1 => k_asm
        case irk2 => k_asm
        case irk3 => k_asm
        case irk4 => k_asm
        case irk5 => k_asm
        case irU => k_updF
        case irhI => exact (by with_reducible assumption)
        case irhs => with_reducible assumption
        case irhn => omega
        case ird1 => ((try dsimp only); omega)
        case iru1 => ((try dsimp only); omega)
        intro h' tk' vs' n' F' N' hI'
        (try dsimp only at N')
        k_steps
        refine Stop.mk ?_
        obtain ⟨o0, o1, o2, o3⟩ := off16 e0 e1 e2 e3
        rw [top16 o0 o1 o2 o3, low16 o0 o1 o2 o3] at h
        (with_reducible rename News _ _ _ _ => kN)
        (with_reducible rename Fr _ _ _ _ => kF)
        refine swap_join c kF (newsSub kN (fun p hp => List.mem_cons_of_mem _ (List.mem_cons_of_mem _ (List.mem_cons_of_mem _ hp)))) ?sw ?go
        case sw =>
          intro Qs hQs
          (with_reducible rename _ ∨ _ ∨ _ => hc)
          rcases hc with rfl | rfl | rfl
          all_goals
            k_steps
            (with_reducible rename News _ _ _ _ => kN2)
            (with_reducible rename Fr _ _ _ _ => kF2)
            exact hQs _ _ kF2 (newsSub kN2 (subCons (by k_mem) (subCons (by k_mem) (subCons (by k_mem) (subCons (by k_mem) (subCons (by k_mem) (subCons (by k_mem) (subCons (by k_mem) (subCons (by k_mem) subNil)))))))))
        case go =>
          intro h2 tk2 F2 N2
          obtain ⟨q0, q1, q2, q3, hq⟩ := swp_four c (Value.str b0 t0) (Value.str b1 t1) (Value.str b2 t2) (Value.str b3 t3)
          rw [hq] at h N2
          clear hq
          clear kN
          k_steps
          refine Stop.mk ?_
          refine for_any ?_
          k_steps
          refine Stop.mk ?_
          (with_reducible rename News _ _ _ _ => kN)
          (with_reducible rename Fr _ _ _ _ => kF)
          refine' for_list_M (its := [q0, q1, q2, q3]) (fun i _ v => pushP pb [q0, q1, q2, q3] i v) [pb] ?ph ?px ?pp kF (news_one (newsSub kN (subCons (List.mem_cons_of_mem _ (List.mem_cons_of_mem _ (List.mem_cons_of_mem _ (List.mem_cons_of_mem _ (List.mem_cons_of_mem _ (List.mem_cons_self ..)))))) (subCons (List.mem_cons_self ..) (subCons (List.mem_cons_of_mem _ (List.mem_cons_self ..)) (subCons (List.mem_cons_of_mem _ (List.mem_cons_of_mem _ (List.mem_cons_self ..))) (subCons (List.mem_cons_of_mem _ (List.mem_cons_of_mem _ (List.mem_cons_of_mem _ (List.mem_cons_self ..)))) (subCons (List.mem_cons_of_mem _ (List.mem_cons_of_mem _ (List.mem_cons_of_mem _ (List.mem_cons_of_mem _ (List.mem_cons_self ..))))) (subCons (List.mem_cons_of_mem _ (List.mem_cons_of_mem _ (List.mem_cons_of_mem _ (List.mem_cons_of_mem _ (List.mem_cons_of_mem _ (List.mem_cons_of_mem _ (List.mem_cons_self ..))))))) (subCons (List.mem_cons_of_mem _ (List.mem_cons_of_mem _ (List.mem_cons_of_mem _ (List.mem_cons_of_mem _ (List.mem_cons_of_mem _ (List.mem_cons_of_mem _ (List.mem_cons_of_mem _ (List.mem_cons_self ..)))))))) subNil)))))))))) ⟨_, rfl⟩ (List.mem_cons_self ..) ?padr ?pstep ?pQ
          case ph => exact rfl
          case px => exact rfl
          case pp => exact rfl
          case padr =>
            rintro i m' v ⟨nw, rfl⟩
            rfl
          case pstep =>
            intro i v I m' var' own s₁ Q' hv hP F1 N1 hI hown hq9
            obtain ⟨nw, rfl⟩ := hP
            dsimp only [List.cons_append, List.nil_append] at N1 hI
            have oO := own_off hown (hI _ (List.mem_cons_self ..)) (by k_ne)
            have hlen : (List.take i [q0, q1, q2, q3]).length ≤ 4 := List.length_take_le' ..
            clear kN
            k_steps
            refine Stop.mk ?_
            refine' use_push ?puk1 ?puk2 ?puk3 ?puk4 ?puk5 ?pum1 ?pum2 ?puU ?pud1 ?puu1 ?puha ?puhn ?_
            case puk1 => k_asm
            case puk2 => k_asm
            case puk3 => k_asm
            case puk4 => k_asm
            case puk5 => k_asm
            case pum1 => k_mem
            case pum2 => k_mem
            case puU => k_updF
            case pud1 => ((try dsimp only); omega)
            case puu1 => ((try dsimp only); omega)
            case puha => assumption
            case puhn => ((try simp only [List.length_cons, List.length_nil, List.length_append]); omega)
            intro h' tk' nw' F' N'
            (try dsimp only at N')
            (try simp only [List.cons_append, List.nil_append] at N')
            k_steps
            (with_reducible rename News _ _ _ _ => kN2)
            (with_reducible rename Fr _ _ _ _ => kF2)
            exact hq9 _ _ _ [(_, _)] kF2 kN2 (pushP.next hv)
          case pQ =>
           intro h4 tk4 X4 var4 F4 N4 hP4
           obtain ⟨nw4, rfl⟩ := hP4.all
           dsimp only [List.cons_append, List.nil_append] at N4
           clear kN
           k_steps
           (with_reducible rename News _ _ _ _ => kN)
           (with_reducible rename Fr h₀ _ _ _ => kF)
           exact h _ _ _ _ _ _ _ kF (newsSub kN (subCons (by k_mem) (subCons (by k_mem) (subCons (by k_mem) (subCons (by k_mem) (subCons (by k_mem) (subCons (by k_mem) subNil))))))) (by assumption) (by assumption) (keepBut_of kG0 (by assumption))
end
end
end Mine
end
section
open PySem PySem.W PyProof.Rows PySem.Calls PySem.Spec
set_option maxRecDepth 100000
set_option maxHeartbeats 4000000
namespace Mine
theorem ne_cell {h : Heap} {a c : Addr} {vs : Array Value} {n : Nat} {o : Obj} {v : Option Value} (e : h.get? a = some (W.listOf vs n)) (e' : h.get? c = some o) (hd : o.data = .cell v) : @Ne Nat a c := fun z => by
  have z' : a = c := z
  subst z'; rw [e] at e'; cases e'; cases hd
theorem allLt_mem {d : Nat} : ∀ {l : List (Addr × Obj)}, AllLt d l → ∀ p ∈ l, @LT.lt Nat _ p.1 d
  | [], _ => fun _ hp => nomatch hp
  | q :: r, h => fun p hp => by
    rcases List.mem_cons.mp hp with rfl | hp
    · exact h.1
    · exact allLt_mem h.2 p hp
theorem lts_back {d : Addr} : ∀ {l : List (Addr × Obj)}, Lts d (l.map (·.1)) → AllLt d l
  | [], _ => trivial
  | _ :: _, h => ⟨h.1, lts_back h.2⟩
theorem off_tab {ta : Addr} {pD p1 p2 p3 : Addr × Obj} {mk : List (Addr × Obj)} (h2 : @LT.lt Nat _ pD.1 ta) (h3 : AllLt ta (mk ++ [p1, p2, p3])) : ∀ p ∈ [p2, p3] ++ (pD :: mk), @Ne Nat p.1 ta := fun p hp => by
  have hT := allLt_mem h3
  simp only [List.cons_append, List.nil_append, List.mem_cons] at hp
  rcases hp with rfl | rfl | rfl | hp
  · exact Nat.ne_of_lt (hT _ (by simp))
  · exact Nat.ne_of_lt (hT _ (by simp))
  · exact Nat.ne_of_lt h2
  · exact Nat.ne_of_lt (hT _ (by simp [hp]))
theorem crowd_news {h₀ h : Heap} {L : Addr} {pl pt pg pD p1 p2 p3 : Addr × Obj} {mk : List (Addr × Obj)} (N : News h₀ L h (pl :: pt :: pg :: pD :: (mk ++ [p1, p2, p3]))) : News h₀ L h (p1 :: pt :: pl :: ([p2, p3] ++ (pD :: mk))) := fun p hp => by
  simp only [List.cons_append, List.nil_append, List.mem_cons] at hp
  refine N p ?_
  simp only [List.mem_cons, List.mem_append, List.not_mem_nil, or_false]
  rcases hp with rfl | rfl | rfl | rfl | rfl | rfl | hp <;> simp [*]
theorem off_cell {h₀ h : Heap} {L : Addr} {pl pt pg : Addr × Obj} {c c2 a D : Addr} {o o2 : Obj} {vd va : Array Value} {nd na : Nat} {v : Option Value} {mk : List (Addr × Obj)} (N : News h₀ L h (pl :: pt :: pg :: (D, W.listOf vd nd) :: (mk ++ [(c, o), (c2, o2), (a, W.listOf va na)]))) (hd : o.data = .cell v) (hmk : MkL mk) (h2 : @Ne Nat c2 c) :
    ∀ p ∈ [(c2, o2), (a, W.listOf va na)] ++ ((D, W.listOf vd nd) :: mk), @Ne Nat p.1 c := fun p hp => by
  have hc := (N (c, o) (by simp)).1
  simp only [List.cons_append, List.nil_append, List.mem_cons] at hp
  rcases hp with rfl | rfl | rfl | hp
  · exact h2
  · exact ne_cell (N (a, W.listOf va na) (by simp)).1 hc hd
  · exact ne_cell (N (D, W.listOf vd nd) (by simp)).1 hc hd
  · obtain ⟨vs, n, e⟩ := hmk p hp
    have := (N p (by simp [hp])).1
    rw [e] at this
    exact ne_cell this hc hd
noncomputable def wgt (ps c : List Int) (z : Int) : Int := ((List.range 4).map fun k => if c.getD k 0 = z then ps.getD k 0 else 0).sum
noncomputable def topC (ps c : List Int) : Int := ((List.range 4).map fun (z : Nat) => max 0 (wgt ps c (z : Int))).sum
noncomputable def lowC (ps c : List Int) : Int := ((List.range 4).map fun (z : Nat) => min 0 (wgt ps c (z : Int))).sum
theorem crw4_len : ∀ c ∈ crwN 4, ∃ c0 c1 c2 c3, c = [c0, c1, c2, c3] := by
  have : ∀ c ∈ crwN 4, c.length = 4 := by decide
  intro c hc
  have h := this c hc
  match c, h with
  | [c0, c1, c2, c3], _ => exact ⟨c0, c1, c2, c3, rfl⟩
theorem ints4 {vs : List Value} {c0 c1 c2 c3 : Int} (h : IntsAre vs [c0, c1, c2, c3]) : ∃ u0 u1 u2 u3, vs = [.int c0 u0, .int c1 u1, .int c2 u2, .int c3 u3] := by
  cases h with
  | cons _ u0 h => cases h with
    | cons _ u1 h => cases h with
      | cons _ u2 h => cases h with
        | cons _ u3 h => cases h; exact ⟨u0, u1, u2, u3, rfl⟩
section
variable {prog : Program} {w : World} {A : Around} {E : Value → Shared → Prop} {s : Shared} {h₀ : Heap} {env : Env}
theorem app_K {A : Around} {E : Value → Shared → Prop} {L D : Addr} {m : Str → Option Value} {news : List (Addr × Obj)} {g : Obj → List (Addr × Obj)} {its : Array Value} {n : Nat} {x : Value} {Q : Value → Shared → Prop} (F : Fr h₀ L s.heap m) (N : News h₀ L s.heap news)
    (U : UpdF D (W.listOf its n) news g) (hz : its.size ≤ 1000) (h : ∀ h', Fr h₀ L h' m → News h₀ L h' (g (W.listOf (its.push x) (n + 1))) → Q .none { s with heap := h' }) :
    wpAny (model prog w) A (call (.builtin "list.append") [.ref D, x]) Q E s := by
  refine wrapG ?_
  intro Pw9 hPw9
  obtain ⟨own, rest, rfl, hg, h1, h2⟩ := U.split
  refine hPw9 ?_
  have hmem := N (D, W.listOf its n) (List.mem_append_right _ (.head _))
  refine append_at hmem.1 (fun h' hs hD => ?_) (by rw [PySem.sizeLine_eq]; lia)
  exact h h' (F.change hs hmem.2.1 hmem.2.2) (hg _ ▸ N.setAt h1 h2 hs hD)
theorem crowd_loop {Q : Flow → Shared → Prop} {x y : Str} {px : Pos} {body : List Stmt} {D c ta la : Addr} {oc : Obj} {its : List Value} {nax : Nat} {css : List (List Int)} {m₀ : Str → Option Value} {vis rest : List (Addr × Obj)} {v₀ : Option Value} {ft fl : List Int → Int} {nt nl : Nat}
    (hh : A.handled = none) (hk : env.scope.kind = .function) (hx : env.kindOf x = some .cell) (hc : env.cells.lookup x = some c)
    (F : Fr h₀ env.locals s.heap m₀) (N : News h₀ env.locals s.heap ((c, oc) :: (ta, W.listOf #[] nt) :: (la, W.listOf #[] nl) :: (vis ++ rest)))
    (hD : (D, W.listOf its.toArray nax) ∈ rest) (hcs : Crowds rest its css) (hsz : css.length ≤ 100) (hoc : oc.data = .cell v₀)
    (hct : @Ne Nat ta c) (hcl : @Ne Nat la c) (hcn : ∀ p ∈ vis ++ rest, @Ne Nat p.1 c) (htl : @Ne Nat la ta) (htn : ∀ p ∈ vis ++ rest, @Ne Nat p.1 ta) (hln : ∀ p ∈ vis ++ rest, @Ne Nat p.1 la)
    (step : ∀ cr ∈ css, ∀ a vs n X tv lv nt nl h tk oc' tail, IntsAre vs cr → oc'.data = .cell (some (.ref a)) → Fr h₀ env.locals h (fun z => if z = y then X else m₀ z) →
      News h₀ env.locals h ((ta, W.listOf tv.toArray nt) :: (la, W.listOf lv.toArray nl) :: (c, oc') :: (a, W.listOf vs.toArray n) :: (vis ++ tail)) → OffT ta (vis ++ tail) → OffT la (vis ++ tail) → NeW la ta → NeW a ta → NeW a la → NeW c ta → NeW c la → lv.length ≤ 100 → tv.length ≤ 100 →
      wpAny (model prog w) A (execs body env) (fun fl' s₂ => fl' = .next ∧ ∃ h' tk' X' t1 t2 nt' nl', s₂ = { s with heap := h', toks := tk' } ∧ Fr h₀ env.locals h' (fun z => if z = y then X' else m₀ z) ∧ News h₀ env.locals h' ((ta, W.listOf (tv ++ [.int (ft cr) t1]).toArray nt') :: (la, W.listOf (lv ++ [.int (fl cr) t2]).toArray nl') :: (c, oc') :: (a, W.listOf vs.toArray n) :: (vis ++ tail))) NoE { s with heap := h, toks := tk })
    (hQ : ∀ h' tk X tv lv nt nl, Fr h₀ env.locals h' (fun z => if z = y then X else m₀ z) → News h₀ env.locals h' ((ta, W.listOf tv.toArray nt) :: (la, W.listOf lv.toArray nl) :: (vis ++ rest)) → IntsAre tv (css.map ft) → IntsAre lv (css.map fl) → Q .next { s with heap := h', toks := tk }) :
    wpAny (model prog w) A (pyIter (.ref D)) (fun it s₂ => codeAny (model prog w) A (.forLoop (.Name x px) it body [] env) (fun r s' => match r with | .ok f => Q f s' | .error _ => False) s₂) NoE s := by
  have hDm : (D, W.listOf its.toArray nax) ∈ vis ++ rest := List.mem_append_right _ hD
  have hDN := N (D, W.listOf its.toArray nax) (by simp [hD])
  have hl : s.heap.IsList D its.toArray := ⟨_, hDN.1, rfl, _, rfl⟩
  refine wpAny_pyIter_list hl ?_
  have up : ∀ b o, s.heap.get? b = some o → (s.heap.push { cls := .type "list_iterator", dict := none, data := .fields #[.ref D, .int 0 0] }).get? b = some o := fun b o e => Heap.get?_push_of_some _ e
  have below : ∀ p ∈ ((c, oc) :: (ta, W.listOf #[] nt) :: (la, W.listOf #[] nl) :: (vis ++ rest)), @Ne Nat p.1 s.heap.objs.size := fun p hp => Nat.ne_of_lt (Heap.lt_size (N p hp).1)
  have hits : its.length = css.length := Paired.length hcs
  have hDc : D ≠ c := hcn _ hDm
  have hDI : D ≠ s.heap.objs.size := below (D, W.listOf its.toArray nax) (by simp [hD])
  have W1 := Walks.list (prog := prog) (w := w) hh s.heap.objs.size D hDI its.toArray
  have hLD : env.locals ≠ D := Ne.symm hDN.2.1
  refine forLoop_cell (c := c) (oc := oc) (v₀ := v₀) (W := W1) hk hx hc (fun h => ?_) (fun h => ?_) (fun b hb => by rw [List.mem_singleton.mp hb]; exact next_is_new F) (fun p hp => ⟨fun h => below p (List.mem_cons_of_mem _ hp) (List.mem_singleton.mp h), ?_⟩)
    ⟨⟨_, Heap.get?_push_size _ rfl, rfl, rfl⟩, _, up _ _ hDN.1, rfl, _, rfl⟩ (F.push _) (fun p hp => ⟨up _ _ (N p hp).1, (N p hp).2⟩) hoc
    (fun i m' news' => ∃ X tv lv nt nl, m' = (fun z => if z = y then X else m₀ z) ∧ news' = (ta, W.listOf tv.toArray nt) :: (la, W.listOf lv.toArray nl) :: (vis ++ rest) ∧ IntsAre tv ((css.take i).map ft) ∧ IntsAre lv ((css.take i).map fl))
    ⟨m₀ y, [], [], nt, nl, funext fun z => by by_cases hz : z = y <;> simp [hz], rfl, .nil, .nil⟩ ?_ ?_
  · rcases List.mem_cons.mp h with h | h
    · exact Nat.ne_of_lt F.ns.lt h
    · exact hLD (List.mem_singleton.mp h)
  · rcases List.mem_cons.mp h with h | h
    · exact below _ (List.mem_cons_self ..) h
    · exact hDc (List.mem_singleton.mp h).symm
  · rcases List.mem_cons.mp hp with rfl | hp
    · exact hct
    rcases List.mem_cons.mp hp with rfl | hp
    · exact hcl
    · exact hcn p hp
  · rintro i v m₁ news₁ h₁ tk₁ own oc' hi hP ⟨X, tv, lv, nt, nl, rfl, rfl, htv, hlv⟩ hoff hsub hall hoc' F₁ N₁ hst
    refine wrapG ?_
    intro Pw9 hPw9
    obtain ⟨cr, hcr, a, vs, n, rfl, ha, hIv⟩ := Paired.at hcs (show its[i]? = some v by simpa using hP)
    refine hPw9 ?_
    have hcm : cr ∈ css := List.mem_of_getElem? hcr
    have ha' : (a, W.listOf vs.toArray n) ∈ vis ++ rest := List.mem_append_right _ ha
    have hownI : ∀ p ∈ own, p.1 = s.heap.objs.size ∨ p.1 = D := fun p hp => by simpa using hsub p hp
    have htI : @Ne Nat ta s.heap.objs.size := below _ (List.mem_cons_of_mem _ (List.mem_cons_self ..))
    have hlI : @Ne Nat la s.heap.objs.size := below _ (List.mem_cons_of_mem _ (List.mem_cons_of_mem _ (List.mem_cons_self ..)))
    refine wpAny_mono (step cr hcm a vs n X tv lv nt nl h₁ tk₁ oc' (own ++ rest) hIv hoc' F₁ (fun p hp => ?_) ⟨fun p hp => ?_⟩ ⟨fun p hp => ?_⟩ ⟨htl⟩ ⟨htn _ ha'⟩ ⟨hln _ ha'⟩ ⟨Ne.symm hct⟩ ⟨Ne.symm hcl⟩ ?_ ?_) (fun f s₂ h₂ => ?_) fun _ _ e => e
    · rcases List.mem_cons.mp hp with rfl | hp
      · exact N₁ _ (by simp)
      rcases List.mem_cons.mp hp with rfl | hp
      · exact N₁ _ (by simp)
      rcases List.mem_cons.mp hp with rfl | hp
      · exact N₁ _ (by simp)
      rcases List.mem_cons.mp hp with rfl | hp
      · exact N₁ _ (List.mem_append_right _ (List.mem_cons_of_mem _ (List.mem_cons_of_mem _ (List.mem_cons_of_mem _ ha'))))
      rcases List.mem_append.mp hp with hp | hp
      · exact N₁ _ (List.mem_append_right _ (List.mem_cons_of_mem _ (List.mem_cons_of_mem _ (List.mem_cons_of_mem _ (List.mem_append_left _ hp)))))
      rcases List.mem_append.mp hp with hp | hp
      · exact N₁ _ (List.mem_append_left _ hp)
      · exact N₁ _ (List.mem_append_right _ (List.mem_cons_of_mem _ (List.mem_cons_of_mem _ (List.mem_cons_of_mem _ (List.mem_append_right _ hp)))))
    · rcases List.mem_append.mp hp with hp | hp
      · exact htn p (List.mem_append_left _ hp)
      rcases List.mem_append.mp hp with hp | hp
      · rcases hownI p hp with e | e
        · rw [e]; exact Ne.symm htI
        · rw [e]; exact htn _ hDm
      · exact htn p (List.mem_append_right _ hp)
    · rcases List.mem_append.mp hp with hp | hp
      · exact hln p (List.mem_append_left _ hp)
      rcases List.mem_append.mp hp with hp | hp
      · rcases hownI p hp with e | e
        · rw [e]; exact Ne.symm hlI
        · rw [e]; exact hln _ hDm
      · exact hln p (List.mem_append_right _ hp)
    · have := hlv.length; simp only [List.length_map, List.length_take] at this; lia
    · have := htv.length; simp only [List.length_map, List.length_take] at this; lia
    · refine wrapG ?_
      intro Pw9 hPw9
      obtain ⟨rfl, h', tk', X', t1, t2, nt', nl', rfl, F', N'⟩ := h₂
      refine hPw9 ?_
      refine ⟨rfl, h', tk', _, (ta, W.listOf (tv ++ [Value.int (ft cr) t1]).toArray nt') :: (la, W.listOf (lv ++ [Value.int (fl cr) t2]).toArray nl') :: (vis ++ rest), oc', _, rfl, F', fun p hp => ?_, hoc', fun p hp => ⟨fun h => ?_, ?_⟩, X', _, _, nt', nl', rfl, rfl, ?_, ?_⟩
      · rcases List.mem_append.mp hp with hp | hp
        · exact N' _ (by simp [hp])
        rcases List.mem_cons.mp hp with rfl | hp
        · exact N' _ (by simp)
        rcases List.mem_cons.mp hp with rfl | hp
        · exact N' _ (by simp)
        rcases List.mem_cons.mp hp with rfl | hp
        · exact N' _ (by simp)
        rcases List.mem_append.mp hp with hp | hp
        · exact N' _ (by simp [hp])
        · exact N' _ (by simp [hp])
      · have h9 : p.1 = s.heap.objs.size := List.mem_singleton.mp h
        rcases List.mem_cons.mp hp with rfl | hp
        · exact htI h9
        rcases List.mem_cons.mp hp with rfl | hp
        · exact hlI h9
        · exact below p (by simp only [List.mem_cons]; exact .inr (.inr (.inr hp))) h9
      · rcases List.mem_cons.mp hp with rfl | hp
        · exact hct
        rcases List.mem_cons.mp hp with rfl | hp
        · exact hcl
        · exact hcn p hp
      · rw [List.take_add_one, hcr]; simpa using htv.append (.cons _ _ .nil)
      · rw [List.take_add_one, hcr]; simpa using hlv.append (.cons _ _ .nil)
  · intro h' tk m' news' oc' v' F' N' hoc' hne hInv9
    refine wrapG ?_
    intro Pw9 hPw9
    obtain ⟨X, tv, lv, nt, nl, rfl, rfl, htv, hlv⟩ := hInv9
    refine hPw9 ?_
    have e : its.toArray.size = css.length := by rw [List.size_toArray, hits]
    rw [e, List.take_length] at htv hlv
    exact hQ h' tk X tv lv nt nl F' (fun p hp => N' p (List.mem_cons_of_mem _ hp)) htv hlv
end
end Mine
end
theorem Mine.fresh_P_seated : True := by
  w_top off
  trivial
section
open PySem PySem.W PyProof.Rows PySem.Calls
set_option maxRecDepth 100000
set_option maxHeartbeats 4000000
namespace Mine
section
variable {w : World} {A₀ : Around} {E : Value → Shared → Prop} {s : Shared} {base h₀ : Heap} {outer : List Env} {L : Addr} {m : Str → Option Value} {news : List (Addr × Obj)} {mg mb : Str → Option Value} {p : Program} {loose : List Str} {mean : ExcName → Option Value} {Q : Value → Shared → Prop} {d u : Nat} {gs : Option (List Code)}
  {nm : List (Str × NameKind)} {gen co : Bool} {more : List (Str × Const)} {loc gl : Addr} {cl : List (Str × Addr)} {qual : Str} {fn : Option Addr} {code : Value} {blt : Addr}
local macro_rules | `(tactic| walk_at "exec For Name Call cons nil") => `(tactic| (k_here; refine Stop.out (P := _) ?_))
local macro_rules | `(tactic| walk_at "exec For Name Name cons nil") => `(tactic| (k_here; refine Stop.out (P := _) ?_))
local macro_rules | `(tactic| walk_at "pyIter ref") => `(tactic| ((with_reducible show wpAny _ _ (pyIter (Value.ref _)) (fun _ _ => codeAny _ _ _ _ _) _ _); refine Stop.out (P := _) ?_))
local macro_rules | `(tactic| walk_at "exec Assign cons ListComp") => `(tactic| (k_here; refine Stop.out (P := _) ?_))
local macro_rules | `(tactic| walk_at "binaryOp Add ref ref") => `(tactic| (k_here; refine Stop.out (P := _) ?_))
theorem crw_len : ∀ i : Nat, i < 4 → (growAll (i : Int) (crwN i)).length ≤ 900 := by decide
theorem crw_len1 : ∀ i : Nat, i < 4 → ∀ c ∈ crwN i, c.length ≤ 20 := by decide
noncomputable def gIn (ps cs : List Int) (z : Int) (l : List Int) (k : Int) : List Int := if cs.getD k.toNat 0 = z then l ++ [ps.getD k.toNat 0] else l
theorem gIn_grows (ps cs : List Int) (z : Int) : KPfGrows (gIn ps cs z) := fun l k => by
  unfold gIn; split <;> simp
theorem wgt_fold (ps cs : List Int) (z : Int) : ((rangeKs 0 4).foldl (gIn ps cs z) []).sum = wgt ps cs z := by
  have e : rangeKs 0 4 = [0, 1, 2, 3] := by decide
  rw [e]
  unfold wgt gIn
  simp only [List.foldl_cons, List.foldl_nil, show List.range 4 = [0, 1, 2, 3] by decide, List.map_cons, List.map_nil]
  simp only [show Int.toNat 0 = 0 from rfl, show Int.toNat 1 = 1 from rfl, show Int.toNat 2 = 2 from rfl, show Int.toNat 3 = 3 from rfl]
  split <;> split <;> split <;> split <;> simp
noncomputable def gPos (l : List Int) (k : Int) : List Int := if k > 0 then l ++ [k] else l
noncomputable def gNeg (l : List Int) (k : Int) : List Int := if k < 0 then l ++ [k] else l
theorem gPos_grows : KPfGrows gPos := fun l k => by
  unfold gPos; split <;> simp
theorem gNeg_grows : KPfGrows gNeg := fun l k => by
  unfold gNeg; split <;> simp
theorem gPos_sum : ∀ (ns l : List Int), (ns.foldl gPos l).sum = l.sum + (ns.map (max 0)).sum
  | [], l => by simp
  | k :: r, l => by
    rw [List.foldl_cons, gPos_sum r]
    unfold gPos
    split
    · simp; omega
    · simp; omega
theorem gNeg_sum : ∀ (ns l : List Int), (ns.foldl gNeg l).sum = l.sum + (ns.map (min 0)).sum
  | [], l => by simp
  | k :: r, l => by
    rw [List.foldl_cons, gNeg_sum r]
    unfold gNeg
    split
    · simp; omega
    · simp; omega
theorem top_fold (ps cs : List Int) : ((List.map (fun (i : Nat) => wgt ps cs (i : Int)) (List.range 4)).foldl gPos []).sum = topC ps cs := by
  rw [gPos_sum, List.map_map]; unfold topC; simp only [List.sum_nil, Int.zero_add]; rfl
theorem low_fold (ps cs : List Int) : ((List.map (fun (i : Nat) => wgt ps cs (i : Int)) (List.range 4)).foldl gNeg []).sum = lowC ps cs := by
  rw [gNeg_sum, List.map_map]; unfold lowC; simp only [List.sum_nil, Int.zero_add]; rfl
local macro_rules | `(tactic| k_all) => `(tactic| exact OffT.out (by with_reducible assumption))
local macro_rules | `(tactic| k_ne) => `(tactic| (refine neN ?_; (try dsimp only); first
  | exact NeW.out (by with_reducible assumption)
  | exact Ne.symm (NeW.out (by with_reducible assumption))
  | omega))
local macro_rules | `(tactic| walk_at "eval ListComp") => `(tactic| (k_here; k_dflt (refine LCt.ListComp_T (F₀ := by k_asm) (by with_unfolding_all rfl) (by decide) (by rfl) (by decide) (by rfl) ?_)))
local macro_rules | `(tactic| walk_at "CompSrcT") => `(tactic| (k_here; refine Stop.out (P := _) ?_))
local macro_rules | `(tactic| walk_at "call builtin:list.append") => `(tactic| (k_here; refine Stop.out (P := _) ?_))
local macro_rules | `(tactic| walk_at "FinE") => `(tactic| ((unfold LCg.FinE); intro D' h' tk' F' N' o1'; (try simp only [List.nil_append, List.cons_append] at N'); (try dsimp only)))
local macro_rules | `(tactic| walk_at "call builtin:sorted") => `(tactic| (k_here; k_dflt (refine' kso_sorted (by k_asm) (by k_asm) ?k3 ?k4 ?k5 ?_; (case k3 => kso_list); (case k4 => with_reducible assumption); (case k5 => (rw [List.length_map]; decide))); intro D' v' n' c' h' F' N' l1 i' e' p' o' b'))
theorem four_k {k : Int} (h : 0 ≤ k) (h2 : k < 0 + ((4 : Nat) : Int)) : k = 0 ∨ k = 1 ∨ k = 2 ∨ k = 3 := by lia
theorem ct_seated {a : Addr} {n : Nat} {p0 p1 p2 p3 : Int} {t0 t1 t2 t3 : Tok} (B : Below A₀ base outer h₀) (F : Fr h₀ L s.heap m) (X₀ : (hd.heap_39 w.params).In h₀) (N : News h₀ L s.heap [(a, W.listOf #[.int p0 t0, .int p1 t1, .int p2 t2, .int p3 t3] n)]) (T : Top p loose mean mg mb h₀) (hd' : d < 780) (hu : u < 7800) 
    (h : ∀ h' tk' R T9 Lo nR vt vl tt tl nt nl, Fr h₀ L h' m → News h₀ L h' [(R, W.listOf #[.ref T9, .ref Lo] nR), (T9, W.listOf vt.toArray nt), (Lo, W.listOf vl.toArray nl), (a, W.listOf #[.int p0 t0, .int p1 t1, .int p2 t2, .int p3 t3] n)] → IntsAre vt tt → IntsAre vl tl → tt.Perm ((crwN 4).map (topC [p0, p1, p2, p3])) → tt.Pairwise (· ≤ ·) → tl.Perm ((crwN 4).map (lowC [p0, p1, p2, p3])) → tl.Pairwise (· ≤ ·) → KeepBut s.heap h' [a] → Q (.ref R) { s with heap := h', toks := tk' }) :
    wpAny (model prog w) (arnd d u (envL nm gen co more loc gl cl qual fn code L blt :: outer) gs) (call (.ref 193) [.ref a] []) Q E s := by
  have hkk0 : (fun (_ : Params → Frag) (_ : OpenLaw) => True) hd.heap_39 PySem.Challenge.rw_sc0065_01 := by k_fill; trivial
  clear hkk0
  refine wpAny_call ?_
  (first
    | (refine' code_defG (by k_asm) (by k_asm) (by k_asm) (by k_asm) (by k_asm) ?kA ?kF ?kK ?k6 ?k7 ?k8 ?k9 ?kB ?_ ?c2 ?c3 ?c4 ?c5; (case kA => exact rfl); (case kF => exact rfl); (case kK => exact rfl); (case k6 => k_is); (case k7 => k_is); (case k8 => k_room); (case k9 => first | exact BindsTo.of_eq rfl | exact binds_K (by k_in) rfl (by k_is) rfl rfl rfl | (refine' kp_binds ?kx ?ke; (case kx => k_in); (case ke => exact fun _ => rfl)) | fail "k_enter: no rule for these arguments"); (case c5 => decide); (case kB => exact locs rfl); (case c2 => exact rfl); (case c3 => exact rfl); (case c4 => exact rfl); k_whole; intro g' L' h' FG' F' N' B' X' T' kG'; (try dsimp only); (try k_lift B'); (try k_fold))
    | (refine' Mine.code_defCG (by k_asm) (by k_asm) (by k_asm) (by k_asm) (by k_asm) ?kA ?kF ?kK ?k6 ?k7 ?k8 ?k9 ?kB ?kD ?_ ?c2 ?c3 ?c4; (case kA => exact rfl); (case kF => exact rfl); (case kK => exact rfl); (case k6 => k_is); (case k7 => k_is); (case k8 => k_room); (case k9 => first | exact BindsTo.of_eq rfl | exact binds_K (by k_in) rfl (by k_is) rfl rfl rfl | (refine' kp_binds ?kx ?ke; (case kx => k_in); (case ke => exact fun _ => rfl)) | fail "k_enter: no rule for these arguments"); (case kB => exact rfl); (case kD => decide +kernel); (case c2 => exact rfl); (case c3 => exact rfl); (case c4 => exact rfl); k_whole; intro g' L' h' tk' cells' FG' F' N' Y' B' X' T' l1 kG'; (try k_lt l1); k_cells Y'; (try simp only [List.cons_append, List.nil_append] at N'); (try dsimp only); (try k_lift B'); (try k_fold)))
  (with_reducible rename GSub _ _ _ => kG0)
  k_steps
  refine Stop.mk ?_
  refine for_any ?_
  k_steps
  refine Stop.mk ?_
  (with_reducible rename IsRange _ _ _ _ _ _ _ _ => kR)
  (with_reducible rename Fr _ _ _ _ => kF)
  (with_reducible rename News _ _ _ _ => kN)
  refine' guest_loop ?hh kR ?hk ?hx ?hc kF (newsSub kN (subCons (List.mem_cons_of_mem _ (List.mem_cons_of_mem _ (List.mem_cons_of_mem _ (List.mem_cons_self ..)))) (subCons (List.mem_cons_self ..) (subCons (List.mem_cons_of_mem _ (List.mem_cons_self ..)) (subCons (List.mem_cons_of_mem _ (List.mem_cons_of_mem _ (List.mem_cons_self ..))) (subCons (List.mem_cons_of_mem _ (List.mem_cons_of_mem _ (List.mem_cons_of_mem _ (List.mem_cons_of_mem _ (List.mem_cons_self ..))))) (subCons (List.mem_cons_of_mem _ (List.mem_cons_of_mem _ (List.mem_cons_of_mem _ (List.mem_cons_of_mem _ (List.mem_cons_of_mem _ (List.mem_cons_self ..)))))) subNil))))))) ?hoc ?hb ?step ?hQ
  case hh => exact rfl
  case hk => exact rfl
  case hx => exact rfl
  case hc => exact rfl
  case hoc => with_reducible assumption
  case hb =>
    refine' List.forall_mem_cons.mpr ⟨?b1, List.forall_mem_cons.mpr ⟨?b2, List.forall_mem_cons.mpr ⟨?b3, List.forall_mem_nil _⟩⟩⟩
    case b1 => k_ne
    case b2 => k_ne
    case b3 => k_ne
  case step =>
    intro i I oI t D its nax mk h tk oc' hi F1 N1 hoc1 hcs1
    k_steps
    refine Stop.mk ?_
    refine' nest_assign (hLe := rfl) (hh := rfl) (hsw := by with_unfolding_all rfl) (hclos := rfl) (hcell := by decide) (hkind := rfl) (hnames := by decide) (hx0 := rfl) (hx1 := rfl) (hx01 := by decide) (hy := rfl) (hp := rfl) (F := F1) (N := N1) (hax := List.mem_cons_of_mem _ (List.mem_cons_of_mem _ (List.mem_cons_self ..))) (hcs := Crowds.mono hcs1 fun p hp => List.mem_cons_of_mem _ (List.mem_cons_of_mem _ (List.mem_cons_of_mem _ (List.mem_append_left _ hp)))) (hgc := List.mem_cons_of_mem _ (List.mem_cons_self ..)) (g := (i : Int)) ?dhsz ?dhsz1 ?dhi0 ?dhE1 ?dhE2 ?dhQ
    case dhsz => exact crw_len i hi
    case dhsz1 => exact crw_len1 i hi
    case dhi0 => k_steps
    case dhE1 =>
      intro c hc a vs n I' oI' C oC D' ys rest m2 h tk hI hNs hx F N
      have hlen := crw_len1 i hi c hc
      have hvl := hI.length
      k_steps
      refine Stop.mk ?_
      (with_reducible rename Fr _ _ _ _ => F5)
      (with_reducible rename News _ _ _ _ => N5)
      refine add_lists (vs := [.int (i : Int) t]) (ws := vs) F5 N5 ⟨_, (N5 _ (List.mem_cons_self ..)).1, rfl, _, rfl⟩ ⟨_, (N5 _ (List.mem_cons_of_mem _ (List.mem_cons_self ..))).1, rfl, _, rfl⟩ (fun h6 F6 N6 => ?_) ?_
      · refine ⟨_, .int (i : Int) t :: vs, 0, h6, _, rfl, rfl, F6, ?_, ?_, .cons _ _ hI⟩
        · intro p hp
          rcases List.mem_cons.mp hp with rfl | hp
          · exact N6 _ (List.mem_cons_self ..)
          · exact N6 p (List.mem_cons_of_mem _ (List.mem_cons_of_mem _ (List.mem_cons_of_mem _ (List.mem_cons_of_mem _ hp))))
        · exact Nat.ne_of_lt (Heap.lt_size (N5 (D', LCg.lst ys) (by simp)).1)
      · rw [PySem.sizeLine_eq]; simp only [List.length_cons, List.length_nil]; omega
    case dhE2 =>
      intro c hc a vs n I' oI' C oC D' ys rest m2 h tk z t hI hNs hx hx1 F N
      have hlen := crw_len1 i hi c hc
      have hvl := hI.length
      k_steps
      refine Stop.mk ?_
      (with_reducible rename Fr _ _ _ _ => F5)
      (with_reducible rename News _ _ _ _ => N5)
      refine add_lists (vs := vs) (ws := [.int z t]) F5 N5 ⟨_, (N5 _ (List.mem_cons_of_mem _ (List.mem_cons_self ..))).1, rfl, _, rfl⟩ ⟨_, (N5 _ (List.mem_cons_self ..)).1, rfl, _, rfl⟩ (fun h6 F6 N6 => ?_) ?_
      · refine ⟨_, vs ++ [.int z t], 0, h6, _, rfl, rfl, F6, ?_, ?_, hI.append (.cons _ _ .nil)⟩
        · intro p hp
          rcases List.mem_cons.mp hp with rfl | hp
          · exact N6 _ (List.mem_cons_self ..)
          · exact N6 p (List.mem_cons_of_mem _ (List.mem_cons_of_mem _ (List.mem_cons_of_mem _ hp)))
        · exact Nat.ne_of_lt (Heap.lt_size (N5 (D', LCg.lst ys) (by simp)).1)
      · rw [PySem.sizeLine_eq]; simp only [List.length_cons, List.length_nil]; omega
    case dhQ =>
      intro h' tk' D' ys mk' F N off hmk hcs
      refine wpAny_execs_nil ⟨rfl, h', tk', D', ys, ys.length, mk', rfl, ?_, ?_, fun p hp => (hmk p hp).2, hcs⟩
      · refine cast (congrArg (fun f => Fr _ _ h' f) (funext fun z => ?_)) F
        by_cases hz : z = Str.ofString "crowds"
        · simp only [hz, if_true]
        · simp only [hz, if_false]
      · intro p hp
        rcases List.mem_cons.mp hp with rfl | hp
        · exact N _ (by simp)
        rcases List.mem_cons.mp hp with rfl | hp
        · exact N _ (by simp)
        rcases List.mem_cons.mp hp with rfl | hp
        · exact N _ (List.mem_cons_self ..)
        rcases List.mem_append.mp hp with hp | hp
        · exact N _ (List.mem_cons_of_mem _ (List.mem_append_left _ hp))
        · exact N _ (List.mem_cons_of_mem _ (List.mem_append_right _ (List.mem_cons_of_mem _ (List.mem_cons_of_mem _ (List.mem_cons_of_mem _ (List.mem_append_right _ hp))))))
  case hQ =>
    intro h' tk D its nax mk oc' v' F1 N1 hoc1 hmk1 hcs1
    k_steps
    refine Stop.mk ?_
    refine for_any ?_
    k_steps
    refine Stop.mk ?_
    (with_reducible rename Fr _ _ _ _ => kF5)
    (with_reducible rename News _ _ _ _ => kN5)
    (with_reducible rename Lts _ (_ :: _ :: _ :: List.map _ _) => lLa)
    (with_reducible rename Lts _ (_ :: _ :: List.map _ _) => lTa)
    refine' crowd_loop (y := Str.ofString "weights") (ft := topC [p0, p1, p2, p3]) (fl := lowC [p0, p1, p2, p3]) (hh := rfl) (hk := rfl) (hx := rfl) (hc := rfl) kF5 (crowd_news kN5) (List.mem_cons_self ..) (Crowds.mono hcs1 fun p hp => List.mem_cons_of_mem _ hp) (by decide) ?ehoc ?ehct ?ehcl ?ehcn ?ehtl ?ehtn ?ehln ?estep ?ehQ
    case ehoc => assumption
    case ehct => exact ne_cell (kN5 _ (List.mem_cons_of_mem _ (List.mem_cons_self ..))).1 (kN5 _ (List.mem_cons_of_mem _ (List.mem_cons_of_mem _ (List.mem_cons_of_mem _ (List.mem_cons_of_mem _ (List.mem_append_right _ (List.mem_cons_self ..))))))).1 (by assumption)
    case ehcl => exact ne_cell (kN5 _ (List.mem_cons_self ..)).1 (kN5 _ (List.mem_cons_of_mem _ (List.mem_cons_of_mem _ (List.mem_cons_of_mem _ (List.mem_cons_of_mem _ (List.mem_append_right _ (List.mem_cons_self ..))))))).1 (by assumption)
    case ehcn => exact off_cell kN5 (by assumption) hmk1 (by omega)
    case ehtl => exact Nat.ne_of_gt lLa.1
    case ehtn => exact off_tab lTa.2.1 (lts_back lTa.2.2)
    case ehln => exact off_tab lLa.2.2.1 (lts_back lLa.2.2.2)
    case estep =>
      intro cr hcr a vs n X tv lv nt nl h tk oc' tail hI hoc F N oT oL n0 n1 n2 n3 n4 hl1 hl2
      obtain ⟨c0, c1, c2, c3, rfl⟩ := crw4_len cr hcr
      obtain ⟨w0, w1, w2, w3, rfl⟩ := ints4 hI
      dsimp only [List.cons_append, List.nil_append] at N
      k_steps
      refine Stop.mk ?_
      refine cellcomp_assign (n := 4) (f := fun i => wgt [p0, p1, p2, p3] [c0, c1, c2, c3] (i : Int)) rfl rfl (by with_unfolding_all rfl) rfl rfl (fun _ => rfl) (fun _ => rfl) (by decide) (fun _ _ => rfl) rfl rfl (by decide) F N ?fhi0 ?fhE ?fhQ
      case fhi0 =>
        k_steps
        all_goals assumption
      case fhE =>
        intro i hi I oI C oC D tc ot ys h tk t hot F N
        k_steps
        refine Stop.mk ?_
        (with_reducible rename IsRange _ _ _ _ _ _ _ _ => kR9)
        (with_reducible rename Fr _ _ _ _ => kF9)
        (with_reducible rename News _ _ _ _ => kN9)
        refine LCt.CompSrcT.range (n := 4) rfl kF9 kN9 kR9 (by decide) rfl (by rw [PySem.sizeLine_eq]; omega) ?_
        intro g9
        refine kci_range (n := 4) (a := 0) (gIn [p0, p1, p2, p3] [c0, c1, c2, c3] (i : Int)) ?turn ?fin (gIn_grows _ _ _)
        case turn =>
          intro k t9 I9 oI9 C9 oC9 D9 m9 ys9 l9 h9 tk9 E9 hlo hhi hI9 hC9 hx9 F9 N9 off9 ne9 mark9
          have hk := four_k hlo hhi
          rcases hk with rfl | rfl | rfl | rfl
          all_goals
            k_steps
            all_goals
              (refine' LCg.CompEnd.intro ?cF ?cN _ ?csub ?coff ?csrc ?ce; (case coff => exact off9); (case cF => k_asm); (case cN => k_asm); (case csub => exact fun _ hp => hp); (case csrc => trivial); (case ce => first | exact kci_el (if_pos (by assumption)) rfl rfl | exact kci_no (if_neg (by assumption)) rfl))
        case fin =>
          show ∀ ys, _
          intro ys9 hI9 hl9
          k_steps
          all_goals (with_reducible rename News _ _ _ _ => kN8)
          all_goals first
            | exact congrArg (fun z => Value.int z _) (wgt_fold _ _ _)
            | assumption
            | exact fun p hp => kN8 p (List.mem_cons_of_mem _ hp)
      case fhQ =>
        intro h' tk' D' ys F N o1 hys
        k_steps
        refine Stop.mk ?_
        (with_reducible rename Fr _ _ _ _ => kF9)
        (with_reducible rename News _ _ _ _ => kN9)
        have hyl := hys.length
        simp only [List.length_map, List.length_range] at hyl
        refine LCt.CompSrcT.ledger rfl kF9 kN9 (List.mem_cons_self ..) (by rw [List.size_toArray, PySem.sizeLine_eq]; omega) ?_
        intro g9
        refine kci_list gPos hys ?turn1 ?fin1 gPos_grows
        case turn1 =>
          intro k t9 I9 oI9 C9 oC9 D9 m9 ys9 l9 h9 tk9 E9 hk9 hI9 hC9 hx9 F9 N9 off9 ne9 mark9
          k_steps
          all_goals
            (refine' LCg.CompEnd.intro ?cF ?cN _ ?csub ?coff ?csrc ?ce; (case coff => exact off9); (case cF => k_asm); (case cN => k_asm); (case csub => exact fun _ hp => hp); (case csrc => lcg_src); (case ce => first | exact kci_el (if_pos (by first | assumption | omega)) rfl rfl | exact kci_no (if_neg (by first | assumption | omega)) rfl))
        case fin1 =>
          show ∀ ys, _
          intro ys9 hI9 hl9
          k_steps
          refine Stop.mk ?_
          (with_reducible rename Fr _ _ _ _ => kF8)
          (with_reducible rename News _ _ _ _ => kN8)
          (with_reducible rename LCg.Off1 _ _ => o8)
          have q1 := off1_mem o8 _ (List.mem_cons_of_mem _ (List.mem_cons_self ..))
          have q2 := off1_mem o1 _ (List.mem_cons_self ..)
          refine app_K kF8 kN8 (UpdF.tail (Ne.symm q1) (UpdF.tail (Ne.symm q2) (UpdF.head (List.forall_mem_cons.mpr ⟨n0.out, List.forall_mem_cons.mpr ⟨n3.out, List.forall_mem_cons.mpr ⟨n1.out, oT.out⟩⟩⟩)))) (by rw [List.size_toArray]; omega) (fun h7 F7 N7 => ?_)
          k_steps
          refine Stop.mk ?_
          (with_reducible rename Fr _ _ _ _ => kF6)
          (with_reducible rename News _ _ _ _ => kN6)
          refine LCt.CompSrcT.ledger rfl kF6 kN6 (List.mem_cons_of_mem _ (List.mem_cons_self ..)) (by rw [List.size_toArray, PySem.sizeLine_eq]; omega) ?_
          intro g6
          refine kci_list gNeg hys ?turn2 ?fin2 gNeg_grows
          case turn2 =>
            intro k t9 I9 oI9 C9 oC9 D9 m9 ys9 l9 h9 tk9 E9 hk9 hI9 hC9 hx9 F9 N9 off9 ne9 mark9
            k_steps
            all_goals
              (refine' LCg.CompEnd.intro ?cF ?cN _ ?csub ?coff ?csrc ?ce; (case coff => exact off9); (case cF => k_asm); (case cN => k_asm); (case csub => exact fun _ hp => hp); (case csrc => lcg_src); (case ce => first | exact kci_el (if_pos (by first | assumption | omega)) rfl rfl | exact kci_no (if_neg (by first | assumption | omega)) rfl))
          case fin2 =>
            show ∀ ys, _
            intro ys5 hI5 hl5
            k_steps
            refine Stop.mk ?_
            (with_reducible rename Fr _ _ _ _ => kF4)
            (with_reducible rename News _ _ _ _ => kN4)
            (with_reducible rename LCg.Off1 _ _ => o4)
            have r1 := off1_mem o4 _ (List.mem_cons_of_mem _ (List.mem_cons_of_mem _ (List.mem_cons_of_mem _ (List.mem_cons_self ..))))
            have r2 := off1_mem o8 _ (List.mem_cons_of_mem _ (List.mem_cons_of_mem _ (List.mem_cons_self ..)))
            have r3 := off1_mem o1 _ (List.mem_cons_of_mem _ (List.mem_cons_self ..))
            refine app_K kF4 kN4 (UpdF.tail (Ne.symm r1) (UpdF.tail (Ne.symm r2) (UpdF.tail (Ne.symm r3) (UpdF.tail (Ne.symm n0.out) (UpdF.head (List.forall_mem_cons.mpr ⟨n4.out, List.forall_mem_cons.mpr ⟨n2.out, oL.out⟩⟩)))))) (by rw [List.size_toArray]; omega) (fun h3 F3 N3 => ?_)
            rw [top_fold, List.push_toArray] at N3
            rw [low_fold, List.push_toArray] at N3
            dsimp only at N3 ⊢
            refine wpAny_execs_nil ⟨rfl, h3, _, some (.ref D'), _, _, _, _, rfl, ?_, fun p hp => N3 p (List.mem_cons_of_mem _ (List.mem_cons_of_mem _ (List.mem_cons_of_mem _ hp)))⟩
            refine cast (congrArg (fun f => Fr _ _ h3 f) (funext fun z => ?_)) F3
            by_cases hz : z = Str.ofString "weights"
            · simp only [hz, if_true]
            · simp only [hz, if_false]
    case ehQ =>
      intro h' tk X tv lv nt nl F N htv hlv
      dsimp only [List.cons_append, List.nil_append] at N
      k_steps
      (with_reducible rename News _ _ _ _ => kN1)
      (with_reducible rename Fr h₀ _ _ _ => kF1)
      (with_reducible rename List.Perm _ (List.map (topC _) _) => kP1)
      (with_reducible rename List.Perm _ (List.map (lowC _) _) => kP2)
      refine' h _ _ _ _ _ _ _ _ _ _ _ _ kF1 (newsSub kN1 (subCons ?w1 (subCons ?w2 (subCons ?w3 (subCons ?w4 subNil))))) ?w5 ?w6 kP1 ?w7 kP2 ?w8 (keepBut_of kG0 (by assumption))
      case w1 => k_mem
      case w2 => k_mem
      case w3 => k_mem
      case w4 => k_mem
      case w5 => assumption
      case w6 => assumption
      case w7 => assumption
      case w8 => assumption

end
end Mine
end
section
open PySem PySem.W PyProof.Rows PySem.Calls
set_option maxRecDepth 100000
set_option maxHeartbeats 4000000
namespace Mine
theorem mail_signs_all : ((List.range 192).all fun r => (mailL r).all fun c => c != 34 && c != 92) = true := by decide +kernel
theorem mail_signs {r : Nat} (h : r < 192) : ∀ c ∈ mailL r, c ≠ 34 ∧ c ≠ 92 := fun c hc => by
  have := List.all_eq_true.mp (List.all_eq_true.mp mail_signs_all r (List.mem_range.mpr h)) c hc
  simpa using this
theorem mail_some_all : ((List.range 192).all fun r => !(mailL r).isEmpty) = true := by decide +kernel
theorem mail_some {r : Nat} (h : r < 192) : ∃ c b, mailL r = c :: b := by
  have := List.all_eq_true.mp mail_some_all r (List.mem_range.mpr h)
  cases e : mailL r with
  | nil => rw [e] at this; simp at this
  | cons c b => exact ⟨c, b, rfl⟩
theorem esc_len (l : List Nat) : (esc l).length = 2 * l.length := by
  unfold esc
  induction l with
  | nil => rfl
  | cons c l ih => rw [List.flatMap_cons, List.length_append, ih]; simp; lia
theorem esc_count {l : List Nat} : (esc l).count 10 = l.count 10 := by
  unfold esc
  induction l with
  | nil => rfl
  | cons c l ih => rw [List.flatMap_cons, List.count_append, ih]; simp [List.count_cons]; lia
theorem tok_word (n : Nat) (r : List Nat) : ∃ cn nl p, TokAt (wordL n ++ r) (mailL (n % 192)) cn nl ∧ p ≤ 1 ∧ (wordL n ++ r).drop cn = List.replicate p 10 ++ r ∧ nl + p = (wordL n).count 10 ∧ cn + p = (wordL n).length := by
  have hr : n % 192 < 192 := Nat.mod_lt _ (by decide)
  unfold wordL
  split
  · refine ⟨(mailL (n % 192)).length + 2, (mailL (n % 192)).count 10, 1, ?_, by decide, ?_, ?_, ?_⟩
    · have := TokAt.quoted (mailL (n % 192)) (10 :: r) (mail_signs hr)
      simpa using this
    · rw [show (34 :: mailL (n % 192) ++ [34, 10] ++ r) = (34 :: mailL (n % 192) ++ [34]) ++ (10 :: r) by simp]
      rw [List.drop_left' (by simp)]; rfl
    · simp [List.count_cons, List.count_append]
    · simp
  · obtain ⟨c, b, e⟩ := mail_some hr
    rw [e]
    have e2 : (c :: b).flatMap (fun c => [92, c]) ++ [10] ++ r = 92 :: c :: (esc b ++ 10 :: r) := by simp [esc]
    refine ⟨2 * b.length + 3, (c :: b).count 10 + 1, 0, ?_, by decide, ?_, ?_, ?_⟩
    · rw [e2]; exact TokAt.escaped c b r
    · rw [e2, show 92 :: c :: (esc b ++ 10 :: r) = (92 :: c :: (esc b ++ [10])) ++ r by simp]
      rw [List.drop_left' (by simp [esc_len])]; rfl
    · rw [List.count_append, show (c :: b).flatMap (fun c => [92, c]) = esc (c :: b) from rfl, esc_count]; simp
    · rw [List.length_append, show (c :: b).flatMap (fun c => [92, c]) = esc (c :: b) from rfl, esc_len]; simp; lia
theorem word_len (n : Nat) : (wordL n).length ≤ 25 := by
  have hm := mail_len (n := n)
  unfold wordL
  split
  · simp; lia
  · rw [List.length_append, show (mailL (n % 192)).flatMap (fun c => [92, c]) = esc (mailL (n % 192)) from rfl, esc_len]; simp; lia
/-- one token is read: from place k, line ln, to place k', line ln' -/
structure Step (text : Str) (k : Nat) (ln : Int) (k' : Nat) (ln' : Int) (tok : List Nat) : Prop where
  out : ∃ n l cn nl, text.cps.toList.drop k = List.replicate n 10 ++ l ∧ TokAt l tok cn nl ∧ n ≤ 1 ∧ k + n + cn = k' ∧ ln + n + nl = ln' ∧ 0 ≤ ln ∧ k' ≤ 2000 ∧ ln' ≤ 4000
theorem step_word {text : Str} {k p n B : Nat} {ln C : Int} {r : List Nat} (h : text.cps.toList.drop k = List.replicate p 10 ++ (wordL n ++ r)) (hp : p ≤ 1) (hk : k ≤ B) (hB : B ≤ 1000) (hl : 0 ≤ ln ∧ ln + p ≤ C) (hC : C ≤ 1000) :
    ∃ (k' p' : Nat) (ln' : Int), Step text k ln k' ln' (mailL (n % 192)) ∧ p' ≤ 1 ∧ text.cps.toList.drop k' = List.replicate p' 10 ++ r ∧ k' ≤ B + 26 ∧ ln' + p' = ln + p + (wordL n).count 10 ∧ (0 ≤ ln' ∧ ln' + p' ≤ C + 25) := by
  obtain ⟨cn, nl, p', ht, hp', hd, hc, hlen⟩ := tok_word n r
  have hcn : cn ≤ 25 := Nat.le_trans (Nat.le_add_right ..) (hlen ▸ word_len n)
  have hcc : nl + p' ≤ 25 := hc ▸ Nat.le_trans (List.count_le_length ..) (word_len n)
  have hk' : k + p + cn ≤ B + 26 := Nat.le_trans (Nat.add_le_add (Nat.add_le_add hk hp) hcn) (Nat.le_of_eq (Nat.add_assoc B 1 25))
  have hl0 : 0 ≤ ln + p + nl := Int.add_nonneg (Int.add_nonneg hl.1 (Int.natCast_nonneg _)) (Int.natCast_nonneg _)
  have e : ln + p + nl + p' = ln + p + (wordL n).count 10 := by rw [← hc, Int.natCast_add, Int.add_assoc (ln + p)]
  have hl1 : ln + p + nl + p' ≤ C + 25 := by
    rw [Int.add_assoc (ln + p)]
    exact Int.add_le_add hl.2 (Int.ofNat_le.mpr hcc)
  have hl2 : ln + p + nl ≤ 4000 := Int.le_trans (Int.le_add_of_nonneg_right (Int.natCast_nonneg p')) (Int.le_trans hl1 (Int.le_trans (Int.add_le_add_right hC 25) (by decide)))
  refine ⟨k + p + cn, p', ln + p + nl, ⟨p, wordL n ++ r, cn, nl, h, ht, hp, rfl, rfl, hl.1, Nat.le_trans hk' (Nat.le_trans (Nat.add_le_add_right hB 26) (by decide)), hl2⟩, hp', ?_, hk', e, hl0, hl1⟩
  rw [Nat.add_assoc, ← List.drop_drop, h, ← List.drop_drop, List.drop_left' (by simp), hd]
theorem step_done {text : Str} {k p : Nat} {ln : Int} (h : text.cps.toList.drop k = List.replicate p 10) (hp : p ≤ 1) (hk : k ≤ 1000) (hl : 0 ≤ ln ∧ ln + p ≤ 1000) : Step text k ln (k + p + 1) (ln + p) [] ∧ text.cps.toList.drop (k + p + 1) = [] := by
  refine ⟨⟨p, [], 1, 0, by rw [h]; simp, TokAt.done, hp, rfl, Int.add_zero _, hl.1, Nat.le_trans (Nat.add_le_add (Nat.add_le_add hk hp) (Nat.le_refl 1)) (by decide), Int.le_trans hl.2 (by decide)⟩, ?_⟩
  rw [Nat.add_assoc, ← List.drop_drop, h]
  exact List.drop_eq_nil_of_le (by simp)
theorem steps6 {a b c d : Nat} {text : Str} (ht : text = ⟨(wordL a ++ (wordL b ++ (wordL c ++ wordL d))).toArray⟩) : ∃ k1 k2 k3 k4 k5 k6 l1 l2 l3 l4 l5, Step text 0 1 k1 l1 (mailL (a % 192)) ∧ Step text k1 l1 k2 l2 (mailL (b % 192)) ∧ Step text k2 l2 k3 l3 (mailL (c % 192)) ∧ Step text k3 l3 k4 l4 (mailL (d % 192)) ∧
    Step text k4 l4 k5 l5 [] ∧ Step text k5 l5 k6 l5 [] ∧ l5 = 1 + ((wordL a ++ (wordL b ++ (wordL c ++ wordL d))).count 10 : Nat) := by
  have e0 : text.cps.toList.drop 0 = List.replicate 0 10 ++ (wordL a ++ (wordL b ++ (wordL c ++ wordL d))) := by rw [ht]; simp
  obtain ⟨k1, p1, l1, s1, q1, d1, b1, e1, m1⟩ := step_word (ln := 1) (B := 0) (C := 1) e0 (by decide) (by decide) (by decide) (by decide) (by decide)
  obtain ⟨k2, p2, l2, s2, q2, d2, b2, e2, m2⟩ := step_word d1 q1 b1 (by decide) m1 (by decide)
  obtain ⟨k3, p3, l3, s3, q3, d3, b3, e3, m3⟩ := step_word d2 q2 b2 (by decide) m2 (by decide)
  rw [← List.append_nil (wordL d)] at d3
  obtain ⟨k4, p4, l4, s4, q4, d4, b4, e4, m4⟩ := step_word d3 q3 b3 (by decide) m3 (by decide)
  rw [List.append_nil] at d4
  obtain ⟨s5, d5⟩ := step_done d4 q4 (Nat.le_trans b4 (by decide)) ⟨m4.1, Int.le_trans m4.2 (by decide)⟩
  obtain ⟨s6, _⟩ := step_done (k := k4 + p4 + 1) (p := 0) (ln := l4 + p4) (by rw [d5]; rfl) (by decide) (Nat.le_trans (Nat.add_le_add (Nat.add_le_add b4 q4) (Nat.le_refl 1)) (by decide)) ⟨Int.add_nonneg m4.1 (Int.natCast_nonneg _), (Int.add_zero (l4 + (p4 : Int))).symm ▸ Int.le_trans m4.2 (by decide)⟩
  refine ⟨k1, k2, k3, k4, k4 + p4 + 1, k4 + p4 + 1 + 0 + 1, _, _, _, _, _, s1, s2, s3, s4, s5, ?_, ?_⟩
  · simpa using s6
  · rw [e4, e3, e2, e1]
    simp only [List.count_append]
    lia
end Mine
end
section
open PySem PySem.W PyProof.Rows PySem.Calls
set_option maxRecDepth 100000
set_option maxHeartbeats 4000000
namespace Mine
section
variable {w : World} {A₀ : Around} {E : Value → Shared → Prop} {s : Shared} {base h₀ : Heap} {outer : List Env} {L : Addr} {m : Str → Option Value} {news : List (Addr × Obj)} {mg mb : Str → Option Value} {p : Program} {loose : List Str} {mean : ExcName → Option Value} {Q : Value → Shared → Prop} {d u : Nat} {gs : Option (List Code)}
  {nm : List (Str × NameKind)} {gen co : Bool} {more : List (Str × Const)} {loc gl : Addr} {cl : List (Str × Addr)} {qual : Str} {fn : Option Addr} {code : Value} {blt : Addr}

theorem offAll {H h₀ : Heap} {L : Addr} {D : List Nat} {news : List (Addr × Obj)} (N : News h₀ L H news) (hf : ∀ q ob, H.get? q = some ob → Off q D) : ∀ p ∈ news, Off p.1 D := fun p hp => hf _ _ (N p hp).1
theorem use_tot {l : Addr} {vs : List Value} {ns : List Int} (B : Below A₀ base outer h₀) (F : Fr h₀ L s.heap m) (X₀ : (hd.heap_39 w.params).In h₀) (N : News h₀ L s.heap news) (T : Top p loose mean mg mb h₀) (hd' : d < 800) (hu : u < 8000) (hl : base.IsList l vs.toArray) (hI : IntsAre vs ns) (hn : ns.length ≤ 63)
    (h : ∀ h' tk' T (a b c d : Nat) ta tb tc td nT, Fr h₀ L h' m → News h₀ L h' ((T, four (a : Int) (b : Int) (c : Int) (d : Int) ta tb tc td nT) :: news) → LCg.Off1 T news → Q (.ref T) { s with heap := h', toks := tk' }) :
    wpAny (model prog w) (arnd d u (envL nm gen co more loc gl cl qual fn code L blt :: outer) gs) (call (.ref 154) [.ref l] []) Q E s :=
  ct_totals B F X₀ (fun _ q => nomatch q) T hd' hu hl hI hn fun h' tk' Tt a b c d ta tb tc td nT F' N' hB hk hf => by
    obtain ⟨ha, hb, hc, hd⟩ := hB
    obtain ⟨a, rfl⟩ := Int.eq_ofNat_of_zero_le ha.1
    obtain ⟨b, rfl⟩ := Int.eq_ofNat_of_zero_le hb.1
    obtain ⟨c, rfl⟩ := Int.eq_ofNat_of_zero_le hc.1
    obtain ⟨d, rfl⟩ := Int.eq_ofNat_of_zero_le hd.1
    exact h h' tk' Tt a b c d ta tb tc td nT F' (news0 N hk N') (freshOff N hf)
theorem use_word {n : Nat} {z : Int} {tt : Tok} (B : Below A₀ base outer h₀) (F : Fr h₀ L s.heap m) (X₀ : (hd.heap_39 w.params).In h₀) (N : News h₀ L s.heap news) (T : Top p loose mean mg mb h₀) (hz : z = ((n : Nat) : Int)) (hd' : d < 780) (hu : u < 7800)
    (h : ∀ h' tk' t', Fr h₀ L h' m → News h₀ L h' news → Q (.str ⟨(wordL n).toArray⟩ t') { s with heap := h', toks := tk' }) :
    wpAny (model prog w) (arnd d u (envL nm gen co more loc gl cl qual fn code L blt :: outer) gs) (call (.ref 169) [.int z tt] []) Q E s := by
  subst hz
  exact ct_word B F X₀ (fun _ q => nomatch q) T hd' hu fun h' tk' t' F' hk => h h' tk' t' F' (news0 (small := []) N hk fun _ q => nomatch q)
/-- what the lexer's ledger is apart from the rest -/
structure Apart2 (new : List Nat) (news : List (Addr × Obj)) : Prop where
  out : ∀ p ∈ news, Off p.1 new
theorem use_lex {t : Str} {tt : Tok} {own rest : List (Addr × Obj)} (B : Below A₀ base outer h₀) (F : Fr h₀ L s.heap m) (X₀ : (hd.heap_39 w.params).In h₀) (N : News h₀ L s.heap (own ++ (171, tabObj #[]) :: rest)) (T : Top p loose mean mg mb h₀) (ho : ∀ p ∈ own ++ rest, @Ne Nat p.1 171) (hd' : d < 800) (hu : u < 8000) (cH : CodeHd base 175 171) (ht : t.length ≤ 4000)
    (h : ∀ h' tk' x dx pb st ds pb0 f foc fod fd fsl c oc pl cp ocp ct oct t0 t1 t2 t3 t4 u0 u1 u2 u3 u4 u5 u6 k0 tl ps, Fr h₀ L h' m → News h₀ L h' ((pb, W.listOf #[] 0) :: (x, instObj 119 dx) :: (dx, lexD w t0 t1 t2 t3 t4 1 tl (.ref st) pb) :: (st, instObj 119 ds) :: (ds, strD w u0 u1 u2 u3 u4 u5 u6 pb0 f) :: (f, fnO foc fod fd fsl) :: (c, oc) :: (pl, intL ((0 : Nat) : Int) k0) :: (cp, ocp) :: (ct, oct) :: (own ++ (171, tabObj ps) :: rest)) →
      ReadSpec w f (fnO foc fod fd fsl) c oc pl cp ocp ct oct t → Asc [ct, cp, pl, c, f, ds, st, dx, x, pb] → Apart2 [pb, x, dx, st, ds, f, c, pl, cp, ct] (own ++ (171, tabObj ps) :: rest) → Q (.ref x) { s with heap := h', toks := tk' }) :
    wpAny (model prog w) (arnd d u (envL nm gen co more loc gl cl qual fn code L blt :: outer) gs) (call (.ref 176) [.str t tt] []) Q E s := by
  refine ct_lexer B F X₀ (newsSub N (subCons (List.mem_append_right _ (List.mem_cons_self ..)) subNil)) T hd' hu cH ht fun h' tk' x dx pb st ds pb0 f foc fod fd fsl c oc pl cp ocp ct oct t0 t1 t2 t3 t4 u0 u1 u2 u3 u4 u5 u6 k0 tl ps F' N' hR hA hk hf => ?_
  refine h h' tk' x dx pb st ds pb0 f foc fod fd fsl c oc pl cp ocp ct oct t0 t1 t2 t3 t4 u0 u1 u2 u3 u4 u5 u6 k0 tl ps F' ?_ hR ?_ ⟨fun p hp => ?_⟩
  · refine newsAfter N hk N' (List.forall_mem_cons.mpr ⟨.inl (List.mem_cons_self ..), List.forall_mem_cons.mpr ⟨.inl (List.mem_cons_of_mem _ (List.mem_cons_self ..)), List.forall_mem_cons.mpr ⟨.inl (List.mem_cons_of_mem _ (List.mem_cons_of_mem _ (List.mem_cons_self ..))), List.forall_mem_cons.mpr ⟨.inl (List.mem_cons_of_mem _ (List.mem_cons_of_mem _ (List.mem_cons_of_mem _ (List.mem_cons_of_mem _ (List.mem_cons_self ..))))), List.forall_mem_cons.mpr ⟨.inl (List.mem_cons_of_mem _ (List.mem_cons_of_mem _ (List.mem_cons_of_mem _ (List.mem_cons_of_mem _ (List.mem_cons_of_mem _ (List.mem_cons_self ..)))))), List.forall_mem_cons.mpr ⟨.inl (List.mem_cons_of_mem _ (List.mem_cons_of_mem _ (List.mem_cons_of_mem _ (List.mem_cons_of_mem _ (List.mem_cons_of_mem _ (List.mem_cons_of_mem _ (List.mem_cons_self ..))))))), List.forall_mem_cons.mpr ⟨.inl (List.mem_cons_of_mem _ (List.mem_cons_of_mem _ (List.mem_cons_of_mem _ (List.mem_cons_of_mem _ (List.mem_cons_of_mem _ (List.mem_cons_of_mem _ (List.mem_cons_of_mem _ (List.mem_cons_self ..)))))))), List.forall_mem_cons.mpr ⟨.inl (List.mem_cons_of_mem _ (List.mem_cons_of_mem _ (List.mem_cons_of_mem _ (List.mem_cons_of_mem _ (List.mem_cons_of_mem _ (List.mem_cons_of_mem _ (List.mem_cons_of_mem _ (List.mem_cons_of_mem _ (List.mem_cons_self ..))))))))), List.forall_mem_cons.mpr ⟨.inl (List.mem_cons_of_mem _ (List.mem_cons_of_mem _ (List.mem_cons_of_mem _ (List.mem_cons_of_mem _ (List.mem_cons_of_mem _ (List.mem_cons_of_mem _ (List.mem_cons_of_mem _ (List.mem_cons_of_mem _ (List.mem_cons_of_mem _ (List.mem_cons_self ..)))))))))), List.forall_mem_cons.mpr ⟨.inl (List.mem_cons_of_mem _ (List.mem_cons_of_mem _ (List.mem_cons_of_mem _ (List.mem_cons_of_mem _ (List.mem_cons_of_mem _ (List.mem_cons_of_mem _ (List.mem_cons_of_mem _ (List.mem_cons_of_mem _ (List.mem_cons_of_mem _ (List.mem_cons_of_mem _ (List.mem_cons_self ..))))))))))), fun p hp => ?_⟩⟩⟩⟩⟩⟩⟩⟩⟩⟩)
    rcases List.mem_append.mp hp with q | q
    · exact .inr ⟨List.mem_append_left _ q, fun z => ho p (List.mem_append_left _ q) (List.mem_singleton.mp z)⟩
    · rcases List.mem_cons.mp q with rfl | q
      · exact .inl (List.mem_cons_of_mem _ (List.mem_cons_of_mem _ (List.mem_cons_of_mem _ (List.mem_cons_of_mem _ (List.mem_cons_of_mem _ (List.mem_cons_of_mem _ (List.mem_cons_of_mem _ (List.mem_cons_of_mem _ (List.mem_cons_of_mem _ (List.mem_cons_of_mem _ (List.mem_cons_of_mem _ (List.mem_cons_self ..))))))))))))
      · exact .inr ⟨List.mem_append_right _ (List.mem_cons_of_mem _ q), fun z => ho p (List.mem_append_right _ q) (List.mem_singleton.mp z)⟩
  · exact hA.2
  · by_cases h171 : p.1 = 171
    · rw [h171]
      exact hA.offRev
    have hp' : p ∈ own ++ rest := by
      rcases List.mem_append.mp hp with q | q
      · exact List.mem_append_left _ q
      · rcases List.mem_cons.mp q with rfl | q
        · exact absurd rfl h171
        · exact List.mem_append_right _ q
    have q := hf p.1 p.2 (N p (by rcases List.mem_append.mp hp' with q | q <;> simp [q])).1 (ho p hp')
    simp only [Off, and_true] at q ⊢
    exact ⟨q.1, q.2.1, q.2.2.1, q.2.2.2.2.1, q.2.2.2.2.2.1, q.2.2.2.2.2.2.1, q.2.2.2.2.2.2.2.1, q.2.2.2.2.2.2.2.2.1, q.2.2.2.2.2.2.2.2.2.1, q.2.2.2.2.2.2.2.2.2.2⟩
/-- the ledger behind a call that changed two objects of it -/
theorem newsAfter2 {h₀ h h' : Heap} {L a b : Addr} {oa oa' ob ob' : Obj} {news small : List (Addr × Obj)} {g1 g2 : Obj → List (Addr × Obj)} {adr : List Addr} (N : News h₀ L h news) (U1 : UpdF a oa news g1) (U2 : UpdF b ob (g1 oa') g2) (hk : KeepBut h h' adr) (N' : News h₀ L h' small)
    (hs : ∀ q ∈ adr, q = a ∨ q = b ∨ ∃ o, (q, o) ∈ news ∧ (q, o) ∈ small) (ha : (a, oa') ∈ small) (hb : (b, ob') ∈ small) : News h₀ L h' (g2 ob') := by
  obtain ⟨own, rest, rfl, hg, h1, h2⟩ := U1.split
  obtain ⟨own2, rest2, e2, hg2, k1, k2⟩ := U2.split
  rw [hg] at e2
  rw [hg2]
  have key : ∀ p ∈ own ++ (a, oa) :: rest, p.1 ≠ a → p.1 ≠ b → h'.get? p.1 = some p.2 ∧ p.1 ≠ L ∧ h₀.get? p.1 = none := fun p hp hna hnb => by
    by_cases hb : p.1 ∈ adr
    · rcases hs _ hb with e | e | ⟨o, m1, m2⟩
      · exact absurd e hna
      · exact absurd e hnb
      · have e1 := (N _ m1).1
        have e2 := (N p hp).1
        rw [e1] at e2
        have e3 : p = (p.1, o) := Prod.ext rfl (Option.some.inj e2).symm
        rw [e3]
        exact N' _ m2
    · exact ⟨hk _ _ (N p hp).1 hb, (N p hp).2⟩
  have mid : ∀ p ∈ own ++ (a, oa') :: rest, p.1 ≠ b → h'.get? p.1 = some p.2 ∧ p.1 ≠ L ∧ h₀.get? p.1 = none := fun p hp hnb => by
    rcases List.mem_append.mp hp with hp | hp
    · exact key p (List.mem_append_left _ hp) (h1 p hp) hnb
    · rcases List.mem_cons.mp hp with rfl | hp
      · exact N' _ ha
      · exact key p (List.mem_append_right _ (List.mem_cons_of_mem _ hp)) (h2 p hp) hnb
  intro p hp
  rcases List.mem_append.mp hp with hp | hp
  · exact mid p (by rw [e2]; exact List.mem_append_left _ hp) (k1 p hp)
  · rcases List.mem_cons.mp hp with rfl | hp
    · exact N' _ hb
    · exact mid p (by rw [e2]; exact List.mem_append_right _ (List.mem_cons_of_mem _ hp)) (k2 p hp)
theorem updF_mem {a : Addr} {o : Obj} {news : List (Addr × Obj)} {g : Obj → List (Addr × Obj)} (U : UpdF a o news g) : (a, o) ∈ news := by obtain ⟨own, rest, e, _⟩ := U.split; rw [e]; simp
theorem use_gt2 {x dx pb st ds pb0 f : Addr} {foc : Value} {fod : Option Addr} {fd : FuncData} {fsl : Array (Option Value)} {c : Addr} {oc : Obj} {pl cp : Addr} {ocp : Obj} {ct : Addr} {oct : Obj} {t0 t1 t2 t3 t4 u0 u1 u2 u3 u4 u5 u6 tl tk : Tok} {nw : Nat} {text : Str} {ln ln' : Int} {k k' : Nat} {tok : List Nat} {g1 : Obj → List (Addr × Obj)} {G : Obj → Obj → List (Addr × Obj)}
    (B : Below A₀ base outer h₀) (F : Fr h₀ L s.heap m) (X₀ : (hd.heap_39 w.params).In h₀) (N : News h₀ L s.heap news) (T : Top p loose mean mg mb h₀) (hR : ReadSpec w f (fnO foc fod fd fsl) c oc pl cp ocp ct oct text) (hS : Step text k ln k' ln' tok)
    (m1 : (pb, W.listOf #[] nw) ∈ news) (m2 : (x, instObj 119 dx) ∈ news) (m3 : (st, instObj 119 ds) ∈ news) (m4 : (ds, strD w u0 u1 u2 u3 u4 u5 u6 pb0 f) ∈ news) (m5 : (f, fnO foc fod fd fsl) ∈ news) (m6 : (c, oc) ∈ news) (m7 : (cp, ocp) ∈ news) (m8 : (ct, oct) ∈ news)
    (U1 : UpdF dx (lexD w t0 t1 t2 t3 t4 ln tl (.ref st) pb) news g1) (U2 : ∀ o, UpdF pl (intL ((k : Nat) : Int) tk) (g1 o) (fun o2 => G o o2)) (hd' : d < 700) (hu : u < 7000) (hA : Asc [ct, cp, pl, c, f, ds, st, dx, x, pb])
    (h : ∀ h' tk' tl' tk'' t', Fr h₀ L h' m → News h₀ L h' (G (lexD w t0 t1 t2 t3 t4 ln' tl' (.ref st) pb) (intL ((k' : Nat) : Int) tk'')) → Q (.str ⟨tok.toArray⟩ t') { s with heap := h', toks := tk' }) :
    wpAny (model prog w) (arnd d u (envL nm gen co more loc gl cl qual fn code L blt :: outer) gs) (call (.ref 109) [.ref x] []) Q E s := by
  obtain ⟨n, l, cn, nl, hT, hTok, hn, e1, e2, hl, hk2, hl2⟩ := hS.out
  subst e1 e2
  have hplm : (pl, intL ((k : Nat) : Int) tk) ∈ news := by
    have q := updF_mem (U2 (lexD w t0 t1 t2 t3 t4 ln tl (.ref st) pb))
    obtain ⟨own, rest, e, hg, _⟩ := U1.split
    rw [hg] at q
    rw [e]; exact q
  refine wpAny_call (ct_gt2 B F X₀ (newsSub N (subCons m1 (subCons m2 (subCons (updF_mem U1) (subCons m3 (subCons m4 (subCons m5 (subCons m6 (subCons hplm (subCons m7 (subCons m8 subNil))))))))))) T hd' hu hR hA hT hTok hn hl hk2 hl2 fun h' tk' tl' tk'' t' F' N' hk' => h h' tk' tl' tk'' t' F' ?_)
  exact newsAfter2 N U1 (U2 _) hk' N' (List.forall_mem_cons.mpr ⟨.inr (.inr ⟨_, m1, (List.mem_cons_self ..)⟩), List.forall_mem_cons.mpr ⟨.inr (.inr ⟨_, m2, (List.mem_cons_of_mem _ (List.mem_cons_self ..))⟩), List.forall_mem_cons.mpr ⟨.inl rfl, List.forall_mem_cons.mpr ⟨.inr (.inr ⟨_, m3, (List.mem_cons_of_mem _ (List.mem_cons_of_mem _ (List.mem_cons_of_mem _ (List.mem_cons_self ..))))⟩), List.forall_mem_cons.mpr ⟨.inr (.inr ⟨_, m4, (List.mem_cons_of_mem _ (List.mem_cons_of_mem _ (List.mem_cons_of_mem _ (List.mem_cons_of_mem _ (List.mem_cons_self ..)))))⟩), List.forall_mem_cons.mpr ⟨.inr (.inr ⟨_, m5, (List.mem_cons_of_mem _ (List.mem_cons_of_mem _ (List.mem_cons_of_mem _ (List.mem_cons_of_mem _ (List.mem_cons_of_mem _ (List.mem_cons_self ..))))))⟩), List.forall_mem_cons.mpr ⟨.inr (.inr ⟨_, m6, (List.mem_cons_of_mem _ (List.mem_cons_of_mem _ (List.mem_cons_of_mem _ (List.mem_cons_of_mem _ (List.mem_cons_of_mem _ (List.mem_cons_of_mem _ (List.mem_cons_self ..)))))))⟩), List.forall_mem_cons.mpr ⟨.inr (.inl rfl), List.forall_mem_cons.mpr ⟨.inr (.inr ⟨_, m7, (List.mem_cons_of_mem _ (List.mem_cons_of_mem _ (List.mem_cons_of_mem _ (List.mem_cons_of_mem _ (List.mem_cons_of_mem _ (List.mem_cons_of_mem _ (List.mem_cons_of_mem _ (List.mem_cons_of_mem _ (List.mem_cons_self ..)))))))))⟩), List.forall_mem_cons.mpr ⟨.inr (.inr ⟨_, m8, (List.mem_cons_of_mem _ (List.mem_cons_of_mem _ (List.mem_cons_of_mem _ (List.mem_cons_of_mem _ (List.mem_cons_of_mem _ (List.mem_cons_of_mem _ (List.mem_cons_of_mem _ (List.mem_cons_of_mem _ (List.mem_cons_of_mem _ (List.mem_cons_self ..))))))))))⟩), List.forall_mem_nil _⟩⟩⟩⟩⟩⟩⟩⟩⟩⟩) (List.mem_cons_of_mem _ (List.mem_cons_of_mem _ (List.mem_cons_self ..))) (List.mem_cons_of_mem _ (List.mem_cons_of_mem _ (List.mem_cons_of_mem _ (List.mem_cons_of_mem _ (List.mem_cons_of_mem _ (List.mem_cons_of_mem _ (List.mem_cons_of_mem _ (List.mem_cons_self ..))))))))
theorem join4 {prog : Program} {w : World} {A : Around} {a b c d : Nat} {D : Addr} {t0 t1 t2 t3 tt : Tok} (N : News h₀ L s.heap news) (hm : (D, LCg.lst [.str ⟨(wordL a).toArray⟩ t0, .str ⟨(wordL b).toArray⟩ t1, .str ⟨(wordL c).toArray⟩ t2, .str ⟨(wordL d).toArray⟩ t3]) ∈ news)
    (h : ∀ t' k, Q (.str ⟨(wordL a ++ (wordL b ++ (wordL c ++ wordL d))).toArray⟩ t') { s with toks := k }) :
    wpAny (model prog w) A (call (.builtin "str.join") [.str (Str.ofString "") tt, .ref D]) Q E s := by
  have wa := word_len a
  have wb := word_len b
  have wc := word_len c
  have wd := word_len d
  refine join_listW (ys := [⟨(wordL a).toArray⟩, ⟨(wordL b).toArray⟩, ⟨(wordL c).toArray⟩, ⟨(wordL d).toArray⟩]) ⟨_, (N _ hm).1, rfl, _, rfl⟩ (.cons _ _ (.cons _ _ (.cons _ _ (.cons _ _ .nil)))) (by decide) ?_ fun t' k => ?_
  · simp [strLen]; lia
  · have e : Txt.join (Str.ofString "") [⟨(wordL a).toArray⟩, ⟨(wordL b).toArray⟩, ⟨(wordL c).toArray⟩, ⟨(wordL d).toArray⟩] = (⟨(wordL a ++ (wordL b ++ (wordL c ++ wordL d))).toArray⟩ : Str) := by
      show Builtin.Str.glued _ _ = _
      rw [StrLaws.glued_eq_join]
      have := join_flat wordL [a, b, c, d]
      simp only [List.map_cons, List.map_nil, List.flatMap_cons, List.flatMap_nil, List.append_nil] at this
      exact this
    rw [e]
    exact h t' k

theorem off_mem {a : Nat} : ∀ {l : List Nat}, Off a l → ∀ b ∈ l, @Ne Nat a b
  | [], _ => fun _ hb => nomatch hb
  | c :: r, h => fun b hb => by
    rcases List.mem_cons.mp hb with rfl | hb
    · exact h.1
    · exact off_mem h.2 b hb
theorem apart_mem {new : List Nat} {news : List (Addr × Obj)} (A : Apart2 new news) : ∀ p ∈ news, ∀ b ∈ new, @Ne Nat p.1 b := fun p hp => off_mem (A.out p hp)

theorem cnt_count (c : Nat) : ∀ l : List Nat, PyProof.Rows.cnt c l = ((l.count c : Nat) : Int)
  | [] => by rw [cnt_nil]; rfl
  | d :: l => by
    rw [cnt_cons, cnt_count c l, List.count_cons]
    by_cases e : d = c
    · subst e; simp; lia
    · simp [e]
theorem count_nl {prog : Program} {w : World} {A : Around} {l : List Nat} {t u : Tok} (h : ∀ k t', Q (.int ((l.count 10 : Nat) : Int) t') { s with toks := k }) :
    wpAny (model prog w) A (call (.builtin "str.count") [.str ⟨l.toArray⟩ t, .str (Str.ofString "\n") u]) Q E s := by
  refine KXw.count ?_ (fun t' k => h k t')
  rw [show Str.ofString "\n" = (⟨#[10]⟩ : Str) by decide +kernel, count_cnt, ← cnt_count]
theorem mail_ok_all : ((List.range 192).all fun r => PyData.strOk ⟨(mailL r).toArray⟩) = true := by decide +kernel
theorem mail_ok (n : Nat) : PyData.strOk ⟨(mailL (n % 192)).toArray⟩ = true := List.all_eq_true.mp mail_ok_all _ (List.mem_range.mpr (Nat.mod_lt _ (by decide)))
theorem strs_dat {news : List (Addr × Obj)} : ∀ {vs : List Value} {ss : List Str}, StrsAre vs ss → DatAll news vs (ss.map .str)
  | _, _, .nil => .nil
  | _, _, .cons y t r => .cons (.str y t) (strs_dat r)
theorem ne_same {prog : Program} {w : World} {A : Around} {a b : Addr} {oa ob : Obj} {xs ys : List Value} {ka kb : Nat} {ss : List Str} (N : News h₀ L s.heap news) (ma : (a, oa) ∈ news) (mb : (b, ob) ∈ news) (ca : oa.cls = .type "list") (da : oa.data = .seq xs.toArray ka) (cb : ob.cls = .type "list") (db : ob.data = .seq ys.toArray kb)
    (ha : StrsAre xs ss) (hb : StrsAre ys ss) (ok : ∀ x ∈ ss, PyData.strOk x = true) (hu : A.units + 64 < cLine) (h : Q (.bool false) s) : wpAny (model prog w) A (compareOp .NotEq (.ref a) (.ref b)) Q E s := by
  have hk : ∀ d ∈ ss.map Dat.str, kqdOk 8 d = true := fun d hd => by
    obtain ⟨x, hx, rfl⟩ := List.mem_map.mp hd
    exact ok x hx
  refine kqd_ne N ma ca da (strs_dat ha) (n₁ := []) (fun _ q => nomatch q) mb cb db (strs_dat hb) (n₂ := []) (fun _ q => nomatch q) hk hk hu ?_
  simpa using h

theorem steps_of {a b c d : Nat} {f : Addr} {fo : Obj} {c0 : Addr} {oc : Obj} {pl cp : Addr} {ocp : Obj} {ct : Addr} {oct : Obj} (hR : ReadSpec w f fo c0 oc pl cp ocp ct oct ⟨(wordL a ++ (wordL b ++ (wordL c ++ wordL d))).toArray⟩) :
    ∃ k1 k2 k3 k4 k5 k6 l1 l2 l3 l4 l5, Step ⟨(wordL a ++ (wordL b ++ (wordL c ++ wordL d))).toArray⟩ 0 1 k1 l1 (mailL (a % 192)) ∧ Step ⟨(wordL a ++ (wordL b ++ (wordL c ++ wordL d))).toArray⟩ k1 l1 k2 l2 (mailL (b % 192)) ∧ Step ⟨(wordL a ++ (wordL b ++ (wordL c ++ wordL d))).toArray⟩ k2 l2 k3 l3 (mailL (c % 192)) ∧ Step ⟨(wordL a ++ (wordL b ++ (wordL c ++ wordL d))).toArray⟩ k3 l3 k4 l4 (mailL (d % 192)) ∧
    Step ⟨(wordL a ++ (wordL b ++ (wordL c ++ wordL d))).toArray⟩ k4 l4 k5 l5 [] ∧ Step ⟨(wordL a ++ (wordL b ++ (wordL c ++ wordL d))).toArray⟩ k5 l5 k6 l5 [] ∧ l5 = 1 + ((wordL a ++ (wordL b ++ (wordL c ++ wordL d))).count 10 : Nat) := steps6 rfl

theorem use_pul {a : Addr} {na r0 r1 r2 r3 : Nat} {t0 t1 t2 t3 : Tok} (B : Below A₀ base outer h₀) (F : Fr h₀ L s.heap m) (X₀ : (hd.heap_39 w.params).In h₀) (N : News h₀ L s.heap news) (T : Top p loose mean mg mb h₀) (hm : (a, W.listOf #[.str ⟨(mailL (r0 % 192)).toArray⟩ t0, .str ⟨(mailL (r1 % 192)).toArray⟩ t1, .str ⟨(mailL (r2 % 192)).toArray⟩ t2, .str ⟨(mailL (r3 % 192)).toArray⟩ t3] na) ∈ news) (hd' : d < 790) (hu : u < 7900)
    (h : ∀ h' tk' D o (kvs : List (Str × Value)), Fr h₀ L h' m → News h₀ L h' ((D, o) :: news) → o.IsDictOf (PySem.strKind prog w) kvs → PullTab kvs [⟨(mailL (r3 % 192)).toArray⟩, ⟨(mailL (r2 % 192)).toArray⟩, ⟨(mailL (r1 % 192)).toArray⟩, ⟨(mailL (r0 % 192)).toArray⟩] → LCg.Off1 D news → Q (.ref D) { s with heap := h', toks := tk' }) :
    wpAny (model prog w) (arnd d u (envL nm gen co more loc gl cl qual fn code L blt :: outer) gs) (call (.ref 183) [.ref a] []) Q E s := by
  have hr : ∀ r : Nat, r % 192 < 192 := fun r => Nat.mod_lt _ (by decide)
  refine ct_pulls B F X₀ (newsSub N (subCons hm subNil)) T hd' hu (hr r0) (hr r1) (hr r2) (hr r3) fun h' tk' D o kvs F' N' hD hP hk hf ha => h h' tk' D o kvs F' ?_ hD hP ?_
  · refine newsAfter N hk N' fun p hp => ?_
    rcases List.mem_cons.mp hp with rfl | hp
    · exact .inl (by simp)
    · by_cases e : p.1 = a
      · have e1 := (N _ hm).1
        have e2 := (N p hp).1
        rw [e, e1] at e2
        exact .inl (by rw [show p = (a, _) from Prod.ext e (Option.some.inj e2).symm]; simp)
      · exact .inr ⟨hp, by simpa using e⟩
  · refine freshOff N fun q ob e => ?_
    by_cases e2 : q = a
    · rw [e2]; exact ha
    · exact hf q ob e (by simpa using e2)

theorem news_three {h₀ h : Heap} {L : Addr} {a b c : Addr × Obj} {rest : List (Addr × Obj)} (N : News h₀ L h (a :: b :: c :: rest)) : News h₀ L h ([a, b, c] ++ rest) := N

end
end Mine
end
section
open PySem PySem.W PyProof.Rows PySem.Calls
set_option maxRecDepth 100000
set_option maxHeartbeats 4000000
namespace Mine
section
variable {prog : Program} {w : World} {A : Around} {s : Shared} {h₀ : Heap} {L : Addr} {m : Str → Option Value} {env : Env}
theorem comp_vals {elt : Expr} {x : Str} {scope : Scope} {cl : List (Str × Addr)} {S : List (Addr × Obj) → Prop} {P : Nat → Value → Prop} {Fin : List Value → List (Addr × Obj) → Prop} {mk : Nat → Tok → Value} {news : List (Addr × Obj)} (hS : S news)
    (turn : ∀ i v I oI C oC D oD m₂ h tk (E' : Value → Shared → Prop) (Q' : Value → Shared → Prop), P i v → LCg.NsObj oC m₂ → m₂ x = some v → Fr h₀ L h m → News h₀ L h ((I, oI) :: (C, oC) :: (D, oD) :: news) → LCg.Off3 I C D news → Ne3 I C D →
      (∀ t h' tk', Fr h₀ L h' m → News h₀ L h' ((I, oI) :: (C, oC) :: (D, oD) :: news) → Q' (mk i t) { s with heap := h', toks := tk' }) →
      wpAny (model prog w) A (eval elt (compEnvC scope cl C env)) Q' E' { s with heap := h, toks := tk }) :
    ∀ (k i : Nat) (ys : List Value), (∀ ts : List Tok, ts.length = k → Fin (ys ++ vals mk i ts) news) → LCg.CompRest prog w A h₀ L m env elt x scope cl s S P Fin k i ys news
  | 0, _, ys, h => LCg.CompRest.zero (by have q := h [] rfl; rw [vals, List.append_nil] at q; exact q)
  | k + 1, i, ys, h => LCg.CompRest.succ fun v I oI C oC D m₂ h' tk E' hv hC hx F N off ne =>
    turn i v I oI C oC D _ m₂ h' tk E' _ hv hC hx F N off ⟨ne.1, ne.2.1, ne.2.2⟩ fun t h'' tk'' F' N' =>
      LCg.CompEnd.intro F' N' news (fun _ hp => hp) off hS (comp_vals hS turn k (i + 1) (ys ++ [mk i t]) fun ts hts => by
        have q := h (t :: ts) (by rw [List.length_cons, hts])
        rw [List.append_assoc]
        exact q)
theorem comp_four {elt : Expr} {x : Str} {scope : Scope} {cl : List (Str × Addr)} {S : List (Addr × Obj) → Prop} {P : Nat → Value → Prop} {Fin : List Value → List (Addr × Obj) → Prop} (mk : Nat → Tok → Value) {news : List (Addr × Obj)} (hS : S news)
    (turn : ∀ i v I oI C oC D oD m₂ h tk (E' : Value → Shared → Prop) (Q' : Value → Shared → Prop), P i v → LCg.NsObj oC m₂ → m₂ x = some v → Fr h₀ L h m → News h₀ L h ((I, oI) :: (C, oC) :: (D, oD) :: news) → LCg.Off3 I C D news → Ne3 I C D →
      (∀ t h' tk', Fr h₀ L h' m → News h₀ L h' ((I, oI) :: (C, oC) :: (D, oD) :: news) → Q' (mk i t) { s with heap := h', toks := tk' }) →
      wpAny (model prog w) A (eval elt (compEnvC scope cl C env)) Q' E' { s with heap := h, toks := tk })
    (fin : ∀ t0 t1 t2 t3, Fin [mk 0 t0, mk 1 t1, mk 2 t2, mk 3 t3] news) : LCg.CompRest prog w A h₀ L m env elt x scope cl s S P Fin 4 0 [] news :=
  comp_vals hS turn 4 0 [] fun ts hts => match ts, hts with
    | [t0, t1, t2, t3], _ => fin t0 t1 t2 t3
end
/-- the four items of a list of ints, told by their place -/
theorem four_at {a b c d : Nat} {ta tb tc td : Tok} {i : Nat} {v : Value} (h : (#[Value.int (a : Int) ta, .int (b : Int) tb, .int (c : Int) tc, .int (d : Int) td] : Array Value)[i]? = some v) : ∃ t, v = .int (([a, b, c, d].getD i 0 : Nat) : Int) t := by
  match i, h with
  | 0, h => exact ⟨_, (Option.some.inj h).symm⟩
  | 1, h => exact ⟨_, (Option.some.inj h).symm⟩
  | 2, h => exact ⟨_, (Option.some.inj h).symm⟩
  | 3, h => exact ⟨_, (Option.some.inj h).symm⟩
  | n + 4, h => simp at h
section
variable {prog : Program} {w : World} {A : Around} {s : Shared} {h₀ : Heap} {L : Addr} {m : Str → Option Value} {env : Env}
/-- a comprehension over the four totals, told by one turn -/
theorem comp_tot {elt : Expr} {x : Str} {scope : Scope} {cl : List (Str × Addr)} {S : List (Addr × Obj) → Prop} {a b c d : Nat} {ta tb tc td : Tok} {Fin : List Value → List (Addr × Obj) → Prop} {news : List (Addr × Obj)} (mk : Nat → Tok → Value) (hS : S news)
    (turn : ∀ (n : Nat) tn I oI C oC D oD m₂ h tk (E' : Value → Shared → Prop) (Q' : Value → Shared → Prop), LCg.NsObj oC m₂ → m₂ x = some (.int (n : Int) tn) → Fr h₀ L h m → News h₀ L h ((I, oI) :: (C, oC) :: (D, oD) :: news) → LCg.Off3 I C D news → Ne3 I C D →
      (∀ t h' tk', Fr h₀ L h' m → News h₀ L h' ((I, oI) :: (C, oC) :: (D, oD) :: news) → Q' (mk n t) { s with heap := h', toks := tk' }) →
      wpAny (model prog w) A (eval elt (compEnvC scope cl C env)) Q' E' { s with heap := h, toks := tk })
    (fin : ∀ t0 t1 t2 t3, Fin [mk a t0, mk b t1, mk c t2, mk d t3] news) :
    LCg.CompRest prog w A h₀ L m env elt x scope cl s S (fun i v => (#[Value.int (a : Int) ta, .int (b : Int) tb, .int (c : Int) tc, .int (d : Int) td] : Array Value)[i]? = some v) Fin 4 0 [] news :=
  comp_four (fun i t => mk ([a, b, c, d].getD i 0) t) hS (fun i v I oI C oC D oD m₂ h tk E' Q' hv hC hx F N off ne hq => by
    obtain ⟨t, rfl⟩ := four_at hv
    exact turn _ t I oI C oC D oD m₂ h tk E' Q' hC hx F N off ne hq) fin
end
section
variable {prog : Program} {w : World} {A : Around} {s : Shared} {h₀ : Heap} {L : Addr} {m : Str → Option Value} {env : Env}
/-- five tokens read off the text, told by one turn -/
theorem comp_five {elt : Expr} {x : Str} {scope : Scope} {cl : List (Str × Addr)} {S : List (Addr × Obj) → Prop} {P : Nat → Value → Prop} {Fin : List Value → List (Addr × Obj) → Prop} {text : Str} {k0 k1 k2 k3 k4 k5 : Nat} {l0 l1 l2 l3 l4 l5 : Int} {q0 q1 q2 q3 q4 : List Nat} {dx pl pb st : Addr} {t0 t1 t2 t3 t4 tl0 tk0 : Tok} {news : List (Addr × Obj)} {g1 : Obj → List (Addr × Obj)} {G : Obj → Obj → List (Addr × Obj)}
    (s0 : Step text k0 l0 k1 l1 q0) (s1 : Step text k1 l1 k2 l2 q1) (s2 : Step text k2 l2 k3 l3 q2) (s3 : Step text k3 l3 k4 l4 q3) (s4 : Step text k4 l4 k5 l5 q4)
    (U1 : UpdF dx (lexD w t0 t1 t2 t3 t4 l0 tl0 (.ref st) pb) news g1) (U2 : ∀ o, UpdF pl (intL (((k0 : Nat)) : Int) tk0) (g1 o) (fun o2 => G o o2)) (hS : ∀ o1 o2, S (G o1 o2))
    (turn : ∀ (k k' : Nat) (l l' : Int) (q : List Nat) tl tkk v I oI C oC D oD m₂ h tk (E' : Value → Shared → Prop) (Q' : Value → Shared → Prop), Step text k l k' l' q → LCg.NsObj oC m₂ → m₂ x = some v → Fr h₀ L h m → News h₀ L h ((I, oI) :: (C, oC) :: (D, oD) :: G (lexD w t0 t1 t2 t3 t4 l tl (.ref st) pb) (intL (((k : Nat)) : Int) tkk)) → LCg.Off3 I C D (G (lexD w t0 t1 t2 t3 t4 l tl (.ref st) pb) (intL (((k : Nat)) : Int) tkk)) → Ne3 I C D →
      (∀ t h' tk' tl' tkk', Fr h₀ L h' m → News h₀ L h' ((I, oI) :: (C, oC) :: (D, oD) :: G (lexD w t0 t1 t2 t3 t4 l' tl' (.ref st) pb) (intL (((k' : Nat)) : Int) tkk')) → Q' (.str ⟨q.toArray⟩ t) { s with heap := h', toks := tk' }) →
      wpAny (model prog w) A (eval elt (compEnvC scope cl C env)) Q' E' { s with heap := h, toks := tk })
    (off : ∀ I C D o1 o2 o1' o2', LCg.Off3 I C D (G o1 o2) → LCg.Off3 I C D (G o1' o2'))
    (fin : ∀ y0 y1 y2 y3 y4 tl tkk, Fin [.str ⟨q0.toArray⟩ y0, .str ⟨q1.toArray⟩ y1, .str ⟨q2.toArray⟩ y2, .str ⟨q3.toArray⟩ y3, .str ⟨q4.toArray⟩ y4] (G (lexD w t0 t1 t2 t3 t4 l5 tl (.ref st) pb) (intL (((k5 : Nat)) : Int) tkk))) :
    LCg.CompRest prog w A h₀ L m env elt x scope cl s S P Fin 5 0 [] news := by
  have one : ∀ (k k' : Nat) (l l' : Int) (q : List Nat) (n i : Nat) (ys : List Value) tl tkk, Step text k l k' l' q → (∀ y tl' tkk', LCg.CompRest prog w A h₀ L m env elt x scope cl s S P Fin n (i + 1) (ys ++ [.str ⟨q.toArray⟩ y]) (G (lexD w t0 t1 t2 t3 t4 l' tl' (.ref st) pb) (intL (((k' : Nat)) : Int) tkk'))) → LCg.CompRest prog w A h₀ L m env elt x scope cl s S P Fin (n + 1) i ys (G (lexD w t0 t1 t2 t3 t4 l tl (.ref st) pb) (intL (((k : Nat)) : Int) tkk)) :=
    fun k k' l l' q n i ys tl tkk hs r => LCg.CompRest.succ fun v I oI C oC D m₂ h' tk E' hv hC hx F N of ne =>
      turn k k' l l' q tl tkk v I oI C oC D _ m₂ h' tk E' _ hs hC hx F N of ⟨ne.1, ne.2.1, ne.2.2⟩ fun t h'' tk'' tl' tkk' F' N' =>
        LCg.CompEnd.intro F' N' _ (fun _ hp => hp) (off _ _ _ _ _ _ _ of) (hS _ _) (r t tl' tkk')
  rw [← updF_self U1, ← updF_self (U2 _)]
  exact one _ _ _ _ _ 4 0 [] tl0 tk0 s0 fun y0 _ _ => one _ _ _ _ _ 3 1 _ _ _ s1 fun y1 _ _ => one _ _ _ _ _ 2 2 _ _ _ s2 fun y2 _ _ => one _ _ _ _ _ 1 3 _ _ _ s3 fun y3 _ _ => one _ _ _ _ _ 0 4 _ _ _ s4 fun y4 tl tkk => LCg.CompRest.zero (fin y0 y1 y2 y3 y4 tl tkk)
end
end Mine
end
section
open PySem PySem.W PyProof.Rows
set_option maxRecDepth 100000
set_option maxHeartbeats 4000000
namespace Mine
noncomputable def chgL : List Int := [3, 2, 1, 3, 1, 2, 3, 1, 3, 2, 1, 3, 1, 2, 3, 1, 3, 2, 1, 3, 1, 2, 3, 1]
noncomputable def ordN : Nat → List Nat
  | 0 => [0, 1, 2, 3]
  | i + 1 => swp (chgL.getD i 0) (ordN i)
theorem ord_ok : ∀ i < 25, (ordN i).length = 4 ∧ ∀ x ∈ ordN i, x < 4 := by decide
theorem ord_four {i : Nat} (h : i < 25) : ∃ a b c d, ordN i = [a, b, c, d] ∧ a < 4 ∧ b < 4 ∧ c < 4 ∧ d < 4 := by
  obtain ⟨hl, hm⟩ := ord_ok i h
  match e : ordN i, hl with
  | [a, b, c, d], _ => exact ⟨a, b, c, d, rfl, hm a (by rw [e]; simp), hm b (by rw [e]; simp), hm c (by rw [e]; simp), hm d (by rw [e]; simp)⟩
theorem chg_ok : ∀ k ∈ chgL, k = 1 ∨ k = 2 ∨ k = 3 := by decide
noncomputable def topO (pf : Nat → Int) (o : List Nat) : Int := topZ (pf (o.getD 0 0)) (pf (o.getD 1 0)) (pf (o.getD 2 0)) (pf (o.getD 3 0))
noncomputable def lowO (pf : Nat → Int) (o : List Nat) : Int := lowZ (pf (o.getD 0 0)) (pf (o.getD 1 0)) (pf (o.getD 2 0)) (pf (o.getD 3 0))
noncomputable def topsN (pf : Nat → Int) : Nat → List Int
  | 0 => []
  | i + 1 => insL (topsN pf i) (topO pf (ordN i))
noncomputable def lowsN (pf : Nat → Int) : Nat → List Int
  | 0 => []
  | i + 1 => insR (lowsN pf i) (lowO pf (ordN i))
theorem tw_split (p : Int → Bool) (ns : List Int) : ns.take (ns.takeWhile p).length = ns.takeWhile p ∧ ns.drop (ns.takeWhile p).length = ns.dropWhile p := by
  induction ns with
  | nil => exact ⟨rfl, rfl⟩
  | cons a r ih =>
    cases h : p a with
    | true => simp [List.takeWhile_cons, List.dropWhile_cons, h, ih.1, ih.2]
    | false => simp [List.takeWhile_cons, List.dropWhile_cons, h]
theorem ins_sorted (p : Int → Bool) (x : Int) (hp : ∀ y, p y = true → y ≤ x) (hq : ∀ y, p y = false → x ≤ y) : ∀ ns : List Int, ns.Pairwise (· ≤ ·) → (ns.takeWhile p ++ x :: ns.dropWhile p).Pairwise (· ≤ ·)
  | [], _ => by simp
  | a :: r, h => by
    have h2 := List.pairwise_cons.mp h
    cases e : p a with
    | true =>
      have ih := ins_sorted p x hp hq r h2.2
      simp only [List.takeWhile_cons, List.dropWhile_cons, e, if_true, List.cons_append]
      refine List.pairwise_cons.mpr ⟨fun y hy => ?_, ih⟩
      rcases List.mem_append.mp hy with hy | hy
      · exact h2.1 y ((List.takeWhile_sublist p).mem hy)
      · rcases List.mem_cons.mp hy with rfl | hy
        · exact hp a e
        · exact h2.1 y ((List.dropWhile_sublist p).mem hy)
    | false =>
      simp only [List.takeWhile_cons, List.dropWhile_cons, e, Bool.false_eq_true, if_false, List.nil_append]
      refine List.pairwise_cons.mpr ⟨fun y hy => ?_, h⟩
      rcases List.mem_cons.mp hy with rfl | hy
      · exact hq _ e
      · exact Int.le_trans (hq a e) (h2.1 y hy)
theorem insL_sorted {ns : List Int} (x : Int) (h : ns.Pairwise (· ≤ ·)) : (insL ns x).Pairwise (· ≤ ·) := by
  unfold insL idxL
  rw [(tw_split _ ns).1, (tw_split _ ns).2]
  exact ins_sorted _ x (fun y hy => by simp at hy; lia) (fun y hy => by simp at hy; lia) ns h
theorem insR_sorted {ns : List Int} (x : Int) (h : ns.Pairwise (· ≤ ·)) : (insR ns x).Pairwise (· ≤ ·) := by
  unfold insR idxR
  rw [(tw_split _ ns).1, (tw_split _ ns).2]
  exact ins_sorted _ x (fun y hy => by simpa using hy) (fun y hy => by simp at hy; lia) ns h
theorem insL_perm (ns : List Int) (x : Int) : (insL ns x).Perm (x :: ns) := by
  unfold insL
  refine List.perm_middle.trans ?_
  rw [List.take_append_drop]
theorem insR_perm (ns : List Int) (x : Int) : (insR ns x).Perm (x :: ns) := by
  unfold insR
  refine List.perm_middle.trans ?_
  rw [List.take_append_drop]
theorem topsN_ok (pf : Nat → Int) : ∀ i, (topsN pf i).Pairwise (· ≤ ·) ∧ (topsN pf i).Perm ((List.range i).map fun k => topO pf (ordN k)) ∧ (topsN pf i).length = i
  | 0 => ⟨.nil, .refl _, rfl⟩
  | i + 1 => by
    obtain ⟨h1, h2, h3⟩ := topsN_ok pf i
    refine ⟨insL_sorted _ h1, ?_, ?_⟩
    · show (insL (topsN pf i) _).Perm _
      rw [List.range_succ, List.map_append]
      exact (insL_perm _ _).trans ((List.Perm.cons _ h2).trans (List.perm_append_singleton _ _).symm)
    · show (insL (topsN pf i) _).length = _
      rw [(insL_perm _ _).length_eq]; simp [h3]
theorem lowsN_ok (pf : Nat → Int) : ∀ i, (lowsN pf i).Pairwise (· ≤ ·) ∧ (lowsN pf i).Perm ((List.range i).map fun k => lowO pf (ordN k)) ∧ (lowsN pf i).length = i
  | 0 => ⟨.nil, .refl _, rfl⟩
  | i + 1 => by
    obtain ⟨h1, h2, h3⟩ := lowsN_ok pf i
    refine ⟨insR_sorted _ h1, ?_, ?_⟩
    · show (insR (lowsN pf i) _).Perm _
      rw [List.range_succ, List.map_append]
      exact (insR_perm _ _).trans ((List.Perm.cons _ h2).trans (List.perm_append_singleton _ _).symm)
    · show (insR (lowsN pf i) _).length = _
      rw [(insR_perm _ _).length_eq]; simp [h3]
theorem ord_end : ordN 24 = [0, 1, 2, 3] := by decide
theorem swp_map {α β : Type} (f : α → β) (c : Int) (a b x y : α) : swp c ([a, b, x, y].map f) = (swp c [a, b, x, y]).map f := by
  simp only [List.map_cons, List.map_nil, swp]
  split
  · rfl
  · split <;> rfl
end Mine
end
section
open PySem PySem.W PyProof.Rows PySem.Calls
set_option maxRecDepth 100000
set_option maxHeartbeats 4000000
namespace Mine
section
variable {w : World} {A₀ : Around} {E : Value → Shared → Prop} {s : Shared} {base h₀ : Heap} {outer : List Env} {L : Addr} {m : Str → Option Value} {news : List (Addr × Obj)} {mg mb : Str → Option Value} {p : Program} {loose : List Str} {mean : ExcName → Option Value} {Q : Value → Shared → Prop} {d u : Nat} {gs : Option (List Code)}
  {nm : List (Str × NameKind)} {gen co : Bool} {more : List (Str × Const)} {loc gl : Addr} {cl : List (Str × Addr)} {qual : Str} {fn : Option Addr} {code : Value} {blt : Addr}

theorem newsAfter3 {h₀ h h' : Heap} {L ta la pb : Addr} {o1 o2 o3 o1' o2' o3' : Obj} {tail small : List (Addr × Obj)} {adr : List Addr} (N : News h₀ L h ((ta, o1) :: (la, o2) :: (pb, o3) :: tail)) (hk : KeepBut h h' adr) (N' : News h₀ L h' small) (h1 : OffT ta tail) (h2 : OffT la tail) (h3 : OffT pb tail)
    (hs : ∀ q ∈ adr, q = ta ∨ q = la ∨ q = pb ∨ ∃ o, (q, o) ∈ tail ∧ (q, o) ∈ small) (m1 : (ta, o1') ∈ small) (m2 : (la, o2') ∈ small) (m3 : (pb, o3') ∈ small) : News h₀ L h' ((ta, o1') :: (la, o2') :: (pb, o3') :: tail) := fun p hp => by
  rcases List.mem_cons.mp hp with rfl | hp
  · exact N' _ m1
  rcases List.mem_cons.mp hp with rfl | hp
  · exact N' _ m2
  rcases List.mem_cons.mp hp with rfl | hp
  · exact N' _ m3
  have hp2 : p ∈ (ta, o1) :: (la, o2) :: (pb, o3) :: tail := by simp [hp]
  by_cases hb : p.1 ∈ adr
  · rcases hs _ hb with e | e | e | ⟨o, q1, q2⟩
    · exact absurd e (h1.out p hp)
    · exact absurd e (h2.out p hp)
    · exact absurd e (h3.out p hp)
    · have e1 := (N (p.1, o) (by simp [q1])).1
      have e2 := (N p hp2).1
      rw [e1] at e2
      rw [show p = (p.1, o) from Prod.ext rfl (Option.some.inj e2).symm]
      exact N' _ q2
  · exact ⟨hk _ _ (N p hp2).1 hb, (N p hp2).2⟩
theorem use_ring {D : Addr} {o : Obj} {kvs : List (Str × Value)} {ta la : Addr} {vt vl : List Value} {it il : List Int} {nt nl nw : Nat} {pb x dx : Addr} {u0 u1 u2 u3 u4 tl : Tok} {ln : Int} {st : Value} {b0 b1 b2 b3 : Str} {t0 t1 t2 t3 : Tok} {p0 p1 p2 p3 : Int} {c : Int} {tc : Tok} {tail : List (Addr × Obj)}
    (B : Below A₀ base outer h₀) (F : Fr h₀ L s.heap m) (X₀ : (hd.heap_39 w.params).In h₀) (N : News h₀ L s.heap ((ta, W.listOf vt.toArray nt) :: (la, W.listOf vl.toArray nl) :: (pb, W.listOf ([.str b0 t0, .str b1 t1, .str b2 t2, .str b3 t3] : List Value).toArray nw) :: tail)) (T : Top p loose mean mg mb h₀) (mD : (D, o) ∈ tail) (mx : (x, instObj 119 dx) ∈ tail) (md : (dx, lexD w u0 u1 u2 u3 u4 ln tl st pb) ∈ tail) (f1 : OffT ta tail) (f2 : OffT la tail) (f3 : OffT pb tail) (hd' : d < 780) (hu : u < 7800)
    (hD : o.IsDictOf (PySem.strKind prog w) kvs) (hp0 : ∃ t, valueAt kvs b0 = some (.int p0 t)) (hp1 : ∃ t, valueAt kvs b1 = some (.int p1 t)) (hp2 : ∃ t, valueAt kvs b2 = some (.int p2 t)) (hp3 : ∃ t, valueAt kvs b3 = some (.int p3 t))
    (hb0 : -4 ≤ p0 ∧ p0 ≤ 4) (hb1 : -4 ≤ p1 ∧ p1 ≤ 4) (hb2 : -4 ≤ p2 ∧ p2 ≤ 4) (hb3 : -4 ≤ p3 ∧ p3 ≤ 4) (hT : IntsAre vt it) (hL : IntsAre vl il) (hTs : it.Pairwise (· ≤ ·)) (hLs : il.Pairwise (· ≤ ·)) (hTn : it.length ≤ 900) (hLn : il.length ≤ 900)
    (hA : Asc [dx, x, pb]) (hP : Apart [D, ta, la, pb, x, dx]) (hc : c = 1 ∨ c = 2 ∨ c = 3)
    (h : ∀ h' tk' vt' vl' nt' nl' nw', Fr h₀ L h' m → News h₀ L h' ((ta, W.listOf vt'.toArray nt') :: (la, W.listOf vl'.toArray nl') :: (pb, W.listOf ((swp c [.str b0 t0, .str b1 t1, .str b2 t2, .str b3 t3]) : List Value).toArray nw') :: tail) → IntsAre vt' (insL it (topZ p0 p1 p2 p3)) → IntsAre vl' (insR il (lowZ p0 p1 p2 p3)) → Q .none { s with heap := h', toks := tk' }) :
    wpAny (model prog w) (arnd d u (envL nm gen co more loc gl cl qual fn code L blt :: outer) gs) (call (.ref 188) [.ref x, .ref D, .ref ta, .ref la, .int c tc] []) Q E s := by
  refine ct_ring B F X₀ (newsSub N (subCons (List.mem_cons_of_mem _ (List.mem_cons_of_mem _ (List.mem_cons_of_mem _ mD))) (subCons (List.mem_cons_self ..) (subCons (List.mem_cons_of_mem _ (List.mem_cons_self ..)) (subCons (List.mem_cons_of_mem _ (List.mem_cons_of_mem _ (List.mem_cons_self ..))) (subCons (List.mem_cons_of_mem _ (List.mem_cons_of_mem _ (List.mem_cons_of_mem _ mx))) (subCons (List.mem_cons_of_mem _ (List.mem_cons_of_mem _ (List.mem_cons_of_mem _ md))) subNil))))))) T hd' hu hD hp0 hp1 hp2 hp3 hb0 hb1 hb2 hb3 hT hL hTs hLs hTn hLn hA hP hc fun h' tk' vt' vl' nt' nl' nw' F' N' hT' hL' hk => h h' tk' vt' vl' nt' nl' nw' F' ?_ hT' hL'
  refine newsAfter3 N hk N' f1 f2 f3 (fun q hq => ?_) (by simp) (by simp) (by simp)
  simp only [List.mem_cons, List.not_mem_nil, or_false] at hq
  rcases hq with rfl | rfl | rfl | rfl | rfl | rfl
  · exact .inr (.inr (.inr ⟨_, mD, by simp⟩))
  · exact .inl rfl
  · exact .inr (.inl rfl)
  · exact .inr (.inr (.inl rfl))
  · exact .inr (.inr (.inr ⟨_, mx, by simp⟩))
  · exact .inr (.inr (.inr ⟨_, md, by simp⟩))
theorem pv_bound_all : ((List.range 192).all fun r => decide (-4 ≤ PV ⟨(mailL r).toArray⟩ ∧ PV ⟨(mailL r).toArray⟩ ≤ 4)) = true := by decide +kernel
theorem pv_bound (n : Nat) : -4 ≤ PV ⟨(mailL (n % 192)).toArray⟩ ∧ PV ⟨(mailL (n % 192)).toArray⟩ ≤ 4 := of_decide_eq_true (List.all_eq_true.mp pv_bound_all _ (List.mem_range.mpr (Nat.mod_lt _ (by decide))))
/-- the j-th mail -/
noncomputable def msJ (r0 r1 r2 r3 : Nat) (j : Nat) : Str := ⟨(mailL ([r0, r1, r2, r3].getD j 0 % 192)).toArray⟩
noncomputable def tsJ (t0 t1 t2 t3 : Tok) (j : Nat) : Tok := [t0, t1, t2, t3].getD j t0
noncomputable abbrev vJ (r0 r1 r2 r3 : Nat) (t0 t1 t2 t3 : Tok) (j : Nat) : Value := .str (msJ r0 r1 r2 r3 j) (tsJ t0 t1 t2 t3 j)
theorem lt4 {j : Nat} (h : j < 4) : j = 0 ∨ j = 1 ∨ j = 2 ∨ j = 3 := by omega
theorem pull_of {kvs : List (Str × Value)} {r0 r1 r2 r3 : Nat} (h : PullTab kvs [⟨(mailL (r3 % 192)).toArray⟩, ⟨(mailL (r2 % 192)).toArray⟩, ⟨(mailL (r1 % 192)).toArray⟩, ⟨(mailL (r0 % 192)).toArray⟩]) {j : Nat} (hj : j < 4) : ∃ t, valueAt kvs (msJ r0 r1 r2 r3 j) = some (.int (PV (msJ r0 r1 r2 r3 j)) t) := by
  refine h _ ?_
  rcases lt4 hj with rfl | rfl | rfl | rfl <;> simp [msJ]
theorem pv_J (r0 r1 r2 r3 j : Nat) : -4 ≤ PV (msJ r0 r1 r2 r3 j) ∧ PV (msJ r0 r1 r2 r3 j) ≤ 4 := pv_bound _
/-- what turns in the ring loop -/
noncomputable def ringP (r0 r1 r2 r3 : Nat) (t0 t1 t2 t3 : Tok) (ta la pb : Addr) (i : Nat) (v : List (Addr × Obj)) : Prop :=
  ∃ vt vl nt nl nw, v = [(ta, W.listOf vt.toArray nt), (la, W.listOf vl.toArray nl), (pb, W.listOf ((ordN i).map (vJ r0 r1 r2 r3 t0 t1 t2 t3)).toArray nw)] ∧ IntsAre vt (topsN (fun j => PV (msJ r0 r1 r2 r3 j)) i) ∧ IntsAre vl (lowsN (fun j => PV (msJ r0 r1 r2 r3 j)) i)
end
end Mine
end
section
open PySem PySem.W PyProof.Rows PySem.Calls PySem.Spec
set_option maxRecDepth 100000
set_option maxHeartbeats 4000000
namespace Mine
section
variable {prog : Program} {w : World} {A : Around} {E : Value → Shared → Prop} {s : Shared} {h₀ : Heap} {env : Env}
theorem ring_for {Q : Flow → Shared → Prop} {x : Str} {px : Pos} {body : List Stmt} {D : Addr} {its : List Value} {nD : Nat} {m₀ : Str → Option Value} {rest : List (Addr × Obj)} {ta la pb : Addr} {n1 n2 nw : Nat} {r0 r1 r2 r3 : Nat} {q0 q1 q2 q3 : Tok}
    (hh : A.handled = none) (hx : env.kindOf x = some .local) (hp : (env.scope.kind == .class || (env.scope.kind == .module && env.locals != env.globals)) = false)
    (F : Fr h₀ env.locals s.heap m₀) (N : News h₀ env.locals s.heap ((ta, W.listOf #[] n1) :: (la, W.listOf #[] n2) :: (pb, W.listOf #[.str ⟨(mailL (r0 % 192)).toArray⟩ q0, .str ⟨(mailL (r1 % 192)).toArray⟩ q1, .str ⟨(mailL (r2 % 192)).toArray⟩ q2, .str ⟨(mailL (r3 % 192)).toArray⟩ q3] nw) :: rest))
    (hD : (D, W.listOf its.toArray nD) ∈ rest) (hits : IntsAre its chgL) (f1 : OffT ta rest) (f2 : OffT la rest) (f3 : OffT pb rest)
    (step : ∀ i k t own s₁ vt vl nt nl nw a b c d, i < 24 → ordN i = [a, b, c, d] → (a < 4 ∧ b < 4 ∧ c < 4 ∧ d < 4) → (k = 1 ∨ k = 2 ∨ k = 3) → IntsAre vt (topsN (fun j => PV (msJ r0 r1 r2 r3 j)) i) → IntsAre vl (lowsN (fun j => PV (msJ r0 r1 r2 r3 j)) i) → Fr h₀ env.locals s₁.heap (fun z => if z = x then some (.int k t) else m₀ z) →
      News h₀ env.locals s₁.heap ((ta, W.listOf vt.toArray nt) :: (la, W.listOf vl.toArray nl) :: (pb, W.listOf ([vJ r0 r1 r2 r3 q0 q1 q2 q3 a, vJ r0 r1 r2 r3 q0 q1 q2 q3 b, vJ r0 r1 r2 r3 q0 q1 q2 q3 c, vJ r0 r1 r2 r3 q0 q1 q2 q3 d] : List Value).toArray nw) :: (rest ++ own)) → OffT ta (rest ++ own) → OffT la (rest ++ own) → OffT pb (rest ++ own) →
      wpAny (model prog w) A (execs body env) (fun fl s₂ => fl = .next ∧ ∃ h' tk' vt' vl' nt' nl' nw', s₂ = { s₁ with heap := h', toks := tk' } ∧ Fr h₀ env.locals h' (fun z => if z = x then some (.int k t) else m₀ z) ∧
        News h₀ env.locals h' ((ta, W.listOf vt'.toArray nt') :: (la, W.listOf vl'.toArray nl') :: (pb, W.listOf ((swp k [vJ r0 r1 r2 r3 q0 q1 q2 q3 a, vJ r0 r1 r2 r3 q0 q1 q2 q3 b, vJ r0 r1 r2 r3 q0 q1 q2 q3 c, vJ r0 r1 r2 r3 q0 q1 q2 q3 d]) : List Value).toArray nw') :: (rest ++ own)) ∧
        IntsAre vt' (insL (topsN (fun j => PV (msJ r0 r1 r2 r3 j)) i) (topZ (PV (msJ r0 r1 r2 r3 a)) (PV (msJ r0 r1 r2 r3 b)) (PV (msJ r0 r1 r2 r3 c)) (PV (msJ r0 r1 r2 r3 d)))) ∧ IntsAre vl' (insR (lowsN (fun j => PV (msJ r0 r1 r2 r3 j)) i) (lowZ (PV (msJ r0 r1 r2 r3 a)) (PV (msJ r0 r1 r2 r3 b)) (PV (msJ r0 r1 r2 r3 c)) (PV (msJ r0 r1 r2 r3 d))))) NoE s₁)
    (hQ : ∀ h' tk X vt vl nt nl nw', Fr h₀ env.locals h' (fun z => if z = x then X else m₀ z) → News h₀ env.locals h' ((ta, W.listOf vt.toArray nt) :: (la, W.listOf vl.toArray nl) :: (pb, W.listOf #[.str ⟨(mailL (r0 % 192)).toArray⟩ q0, .str ⟨(mailL (r1 % 192)).toArray⟩ q1, .str ⟨(mailL (r2 % 192)).toArray⟩ q2, .str ⟨(mailL (r3 % 192)).toArray⟩ q3] nw') :: rest) →
      IntsAre vt (topsN (fun j => PV (msJ r0 r1 r2 r3 j)) 24) → IntsAre vl (lowsN (fun j => PV (msJ r0 r1 r2 r3 j)) 24) → Q .next { s with heap := h', toks := tk }) :
    wpAny (model prog w) A (pyIter (.ref D)) (fun it s₂ => codeAny (model prog w) A (.forLoop (.Name x px) it body [] env) (fun r s' => match r with | .ok f => Q f s' | .error _ => False) s₂) NoE s := by
  have hl : its.length = 24 := hits.length
  refine for_list_T (var := [(ta, W.listOf #[] n1), (la, W.listOf #[] n2), (pb, W.listOf #[.str ⟨(mailL (r0 % 192)).toArray⟩ q0, .str ⟨(mailL (r1 % 192)).toArray⟩ q1, .str ⟨(mailL (r2 % 192)).toArray⟩ q2, .str ⟨(mailL (r3 % 192)).toArray⟩ q3] nw)])
    (P := ringP r0 r1 r2 r3 q0 q1 q2 q3 ta la pb) (adr := [ta, la, pb]) hh hx hp F N ⟨[], [], n1, n2, nw, rfl, .nil, .nil⟩ hD ?_ ?_ ?_
  · intro i v hInv9
    refine wrapG ?_
    intro Pw9 hPw9
    obtain ⟨vt, vl, nt, nl, nw, rfl, _, _⟩ := hInv9
    refine hPw9 ?_
    rfl
  · rintro i v I var' own s₁ hv ⟨vt, vl, nt, nl, nw, rfl, hT, hL⟩ F1 N1 hI hown
    obtain ⟨k, t, hk, rfl⟩ : ∃ k t, chgL[i]? = some k ∧ v = .int k t := by
      refine wrapG ?_
      intro Pw9 hPw9
      obtain ⟨k, t, e, hk⟩ := IntsAre.at hits i v hv
      refine hPw9 ?_
      exact ⟨k, t, hk, e⟩
    have hi : i < 24 := by
      have := (List.getElem?_eq_some_iff.mp hk).1
      exact this
    refine wrapG ?_
    intro Pw9 hPw9
    obtain ⟨a, b, c, d, ho, hb⟩ := ord_four (i := i) (by lia)
    refine hPw9 ?_
    have hk3 := chg_ok k (List.mem_of_getElem? hk)
    have hkd : chgL.getD i 0 = k := by simp [List.getD, hk]
    rw [ho] at N1
    have offs : ∀ z, OffT z rest → @Ne Nat z I → OffT z (rest ++ own) := fun z h1 h2 => ⟨fun p hp => by
      rcases List.mem_append.mp hp with hp | hp
      · exact h1.out p hp
      · rcases hown p hp with e | e
        · rw [e]; exact Ne.symm h2
        · rw [e]; exact h1.out _ hD⟩
    refine wpAny_mono (step i k t own s₁ vt vl nt nl nw a b c d hi ho hb hk3 hT hL F1 N1 (offs ta f1 (hI _ (List.mem_append_left _ (List.mem_cons_self ..)))) (offs la f2 (hI _ (List.mem_append_left _ (List.mem_cons_of_mem _ (List.mem_cons_self ..))))) (offs pb f3 (hI _ (List.mem_append_left _ (List.mem_cons_of_mem _ (List.mem_cons_of_mem _ (List.mem_cons_self ..))))))) (fun fl s₂ h2 => ?_) fun _ _ e => e
    refine wrapG ?_
    intro Pw9 hPw9
    obtain ⟨rfl, h', tk', vt', vl', nt', nl', nw', rfl, F2, N2, hT2, hL2⟩ := h2
    refine hPw9 ?_
    refine ⟨rfl, h', tk', _, [(ta, _), (la, _), (pb, _)], rfl, F2, N2, vt', vl', nt', nl', nw', ?_, ?_, ?_⟩
    · have e : (ordN (i + 1)).map (vJ r0 r1 r2 r3 q0 q1 q2 q3) = swp k [vJ r0 r1 r2 r3 q0 q1 q2 q3 a, vJ r0 r1 r2 r3 q0 q1 q2 q3 b, vJ r0 r1 r2 r3 q0 q1 q2 q3 c, vJ r0 r1 r2 r3 q0 q1 q2 q3 d] := by
        show (swp (chgL.getD i 0) (ordN i)).map _ = _
        rw [hkd, ho, ← swp_map]
        rfl
      rw [e]
    · have e : topsN (fun j => PV (msJ r0 r1 r2 r3 j)) (i + 1) = insL (topsN (fun j => PV (msJ r0 r1 r2 r3 j)) i) (topO (fun j => PV (msJ r0 r1 r2 r3 j)) (ordN i)) := rfl
      rw [e, ho]; exact hT2
    · have e : lowsN (fun j => PV (msJ r0 r1 r2 r3 j)) (i + 1) = insR (lowsN (fun j => PV (msJ r0 r1 r2 r3 j)) i) (lowO (fun j => PV (msJ r0 r1 r2 r3 j)) (ordN i)) := rfl
      rw [e, ho]; exact hL2
  · intro h' tk X var' F' N' hInv9
    refine wrapG ?_
    intro Pw9 hPw9
    obtain ⟨vt, vl, nt, nl, nw', rfl, hT, hL⟩ := hInv9
    refine hPw9 ?_
    rw [hl] at hT hL
    rw [hl, ord_end] at N'
    exact hQ h' tk X vt vl nt nl nw' F' N' hT hL
end
end Mine
end
section
open PySem PySem.W PyProof.Rows PySem.Calls
set_option maxRecDepth 100000
set_option maxHeartbeats 4000000
namespace Mine
section
variable {w : World} {A₀ : Around} {E : Value → Shared → Prop} {s : Shared} {base h₀ : Heap} {outer : List Env} {L : Addr} {m : Str → Option Value} {news : List (Addr × Obj)} {mg mb : Str → Option Value} {p : Program} {loose : List Str} {mean : ExcName → Option Value} {Q : Value → Shared → Prop} {d u : Nat} {gs : Option (List Code)}
  {nm : List (Str × NameKind)} {gen co : Bool} {more : List (Str × Const)} {loc gl : Addr} {cl : List (Str × Addr)} {qual : Str} {fn : Option Addr} {code : Value} {blt : Addr}

theorem dot_all : ((List.range 192).all fun r => decide (0 ≤ (dotsL r).sum ∧ (dotsL r).sum ≤ 4 ∧ 2 * (dotsL r).sum - 1 - ((r % 4 : Nat) : Int) = PV ⟨(mailL r).toArray⟩)) = true := by decide +kernel
theorem dot_of (n : Nat) : 0 ≤ (dotsL (n % 192)).sum ∧ (dotsL (n % 192)).sum ≤ 4 ∧ 2 * (dotsL (n % 192)).sum - 1 - ((n % 192 % 4 : Nat) : Int) = PV ⟨(mailL (n % 192)).toArray⟩ := of_decide_eq_true (List.all_eq_true.mp dot_all _ (List.mem_range.mpr (Nat.mod_lt _ (by decide))))
theorem pv_dots (n : Nat) : 2 * (dotsL (n % 192)).sum - 1 - ((n : Nat) : Int).fmod 4 = PV ⟨(mailL (n % 192)).toArray⟩ := by
  rw [← (dot_of n).2.2, Int.fmod_eq_emod_of_nonneg _ (by decide), Nat.mod_mod_of_dvd _ (by decide)]
  rfl
theorem use_dot2 {n : Nat} {z : Int} {tt : Tok} (B : Below A₀ base outer h₀) (F : Fr h₀ L s.heap m) (X₀ : (hd.heap_39 w.params).In h₀) (N : News h₀ L s.heap news) (T : Top p loose mean mg mb h₀) (hz : z = ((n : Nat) : Int)) (hd' : d < 800) (hu : u < 8000)
    (h : ∀ h' tk' D vs nD, Fr h₀ L h' m → News h₀ L h' ((D, W.listOf vs.toArray nD) :: news) → IntsAre vs (dotsL (n % 192)) → LCg.Off1 D news → (0 ≤ (dotsL (n % 192)).sum ∧ (dotsL (n % 192)).sum ≤ 4) → Q (.ref D) { s with heap := h', toks := tk' }) :
    wpAny (model prog w) (arnd d u (envL nm gen co more loc gl cl qual fn code L blt :: outer) gs) (call (.ref 159) [.int z tt] []) Q E s :=
  use_dotted B F X₀ N T hz hd' hu fun h' tk' D vs nD F' N' hI ho => h h' tk' D vs nD F' N' hI ho ⟨(dot_of n).1, (dot_of n).2.1⟩
theorem use_sea {a : Addr} {n : Nat} {p0 p1 p2 p3 : Int} {t0 t1 t2 t3 : Tok} (B : Below A₀ base outer h₀) (F : Fr h₀ L s.heap m) (X₀ : (hd.heap_39 w.params).In h₀) (N : News h₀ L s.heap news) (T : Top p loose mean mg mb h₀) (hm : (a, W.listOf #[.int p0 t0, .int p1 t1, .int p2 t2, .int p3 t3] n) ∈ news) (hd' : d < 780) (hu : u < 7800)
    (h : ∀ h' tk' R T9 Lo nR vt vl tt tl nt nl, Fr h₀ L h' m → News h₀ L h' ((R, W.listOf #[.ref T9, .ref Lo] nR) :: (T9, W.listOf vt.toArray nt) :: (Lo, W.listOf vl.toArray nl) :: news) → IntsAre vt tt → IntsAre vl tl → tt.Perm ((crwN 4).map (topC [p0, p1, p2, p3])) → tt.Pairwise (· ≤ ·) → tl.Perm ((crwN 4).map (lowC [p0, p1, p2, p3])) → tl.Pairwise (· ≤ ·) → Q (.ref R) { s with heap := h', toks := tk' }) :
    wpAny (model prog w) (arnd d u (envL nm gen co more loc gl cl qual fn code L blt :: outer) gs) (call (.ref 193) [.ref a] []) Q E s := by
  refine ct_seated B F X₀ (newsSub N (subCons hm subNil)) T hd' hu fun h' tk' R T9 Lo nR vt vl tt tl nt nl F' N' i1 i2 q1 o1 q2 o2 hk => h h' tk' R T9 Lo nR vt vl tt tl nt nl F' ?_ i1 i2 q1 o1 q2 o2
  refine newsAfter N hk N' fun p hp => ?_
  simp only [List.mem_cons] at hp
  rcases hp with rfl | rfl | rfl | hp
  · exact .inl (by simp)
  · exact .inl (by simp)
  · exact .inl (by simp)
  · by_cases e : p.1 = a
    · have e1 := (N _ hm).1
      have e2 := (N p hp).1
      rw [e, e1] at e2
      exact .inl (by rw [show p = (a, _) from Prod.ext e (Option.some.inj e2).symm]; simp)
    · exact .inr ⟨hp, by simpa using e⟩
theorem ints_dat {news : List (Addr × Obj)} : ∀ {vs : List Value} {ns : List Int}, IntsAre vs ns → DatAll news vs (ns.map .int)
  | _, _, .nil => .nil
  | _, _, .cons n t r => .cons (.int n t) (ints_dat r)
theorem eq_two {prog : Program} {w : World} {A : Around} {a b ta la tb lb : Addr} {vt vl vt' vl' : List Value} {xs ys : List Int} {ka kb n1 n2 n3 n4 : Nat} (N : News h₀ L s.heap news) (ma : (a, W.listOf #[.ref ta, .ref la] ka) ∈ news) (mb : (b, W.listOf #[.ref tb, .ref lb] kb) ∈ news)
    (m1 : (ta, W.listOf vt.toArray n1) ∈ news) (m2 : (la, W.listOf vl.toArray n2) ∈ news) (m3 : (tb, W.listOf vt'.toArray n3) ∈ news) (m4 : (lb, W.listOf vl'.toArray n4) ∈ news) (i1 : IntsAre vt xs) (i2 : IntsAre vl ys) (i3 : IntsAre vt' xs) (i4 : IntsAre vl' ys) (hu : A.units + 64 < cLine) (h : Q (.bool true) s) :
    wpAny (model prog w) A (compareOp .Eq (.ref a) (.ref b)) Q E s := by
  have hk : ∀ d ∈ [Dat.list (xs.map Dat.int), Dat.list (ys.map Dat.int)], kqdOk 8 d = true := fun d hd => by
    simp only [List.mem_cons, List.not_mem_nil, or_false] at hd
    rcases hd with rfl | rfl <;> simp [kqdOk]
  refine kqd_eq (xs := [.ref ta, .ref la]) (ys := [.ref tb, .ref lb]) N ma rfl rfl (n₁ := news) (.cons (.list m1 (ints_dat i1)) (.cons (.list m2 (ints_dat i2)) .nil)) (fun _ q => q) mb rfl rfl (n₂ := news) (.cons (.list m3 (ints_dat i3)) (.cons (.list m4 (ints_dat i4)) .nil)) (fun _ q => q) hk hk hu ?_
  simpa using h
end
end Mine
end
section
open PySem PySem.W PyProof.Rows
set_option maxRecDepth 100000
set_option maxHeartbeats 4000000
namespace Mine
noncomputable def pw (k : Nat) : Nat := Nat.pow 32 k
noncomputable def enc (l : List Nat) : Nat := (l.map pw).sum
theorem enc_split : ∀ l : List Nat, enc l = l.count 0 + 32 * enc ((l.filter fun x => x != 0).map (· - 1))
  | [] => rfl
  | x :: l => by
    have ih := enc_split l
    unfold enc at ih ⊢
    simp only [List.map_cons, List.sum_cons]
    rw [ih]
    cases x with
    | zero => simp [pw]; lia
    | succ x =>
      have hx : pw (x + 1) = 32 * pw x := by
        unfold pw
        show 32 ^ (x + 1) = 32 * 32 ^ x
        rw [Nat.pow_succ]; lia
      rw [List.count_cons_of_ne (by lia), List.filter_cons_of_pos (by simp), List.map_cons, List.map_cons, List.sum_cons, Nat.add_sub_cancel, hx]
      lia
theorem perm_zero (l : List Nat) : l.Perm (List.replicate (l.count 0) 0 ++ (((l.filter fun x => x != 0).map (· - 1)).map (· + 1))) := by
  have e : ((l.filter fun x => x != 0).map (· - 1)).map (· + 1) = l.filter fun x => x != 0 := by
    rw [List.map_map]
    refine (List.map_congr_left fun x hx => ?_).trans (List.map_id _)
    have := (List.mem_filter.mp hx).2
    simp at this
    simp; lia
  rw [e]
  induction l with
  | nil => exact .refl _
  | cons x l ih =>
    have e2 : ((l.filter fun x => x != 0).map (· - 1)).map (· + 1) = l.filter fun x => x != 0 := by
      rw [List.map_map]
      refine (List.map_congr_left fun x hx => ?_).trans (List.map_id _)
      have := (List.mem_filter.mp hx).2
      simp at this
      simp; lia
    cases x with
    | zero =>
      simp only [List.count_cons_self, List.replicate_succ, List.cons_append, List.filter_cons]
      exact List.Perm.cons _ (ih e2)
    | succ x =>
      rw [List.count_cons_of_ne (by lia), List.filter_cons_of_pos (by simp)]
      exact (List.Perm.cons _ (ih e2)).trans List.perm_middle.symm
theorem enc_perm : ∀ (B : Nat) (l l' : List Nat), (∀ x ∈ l, x < B) → (∀ x ∈ l', x < B) → l.length < 32 → l'.length < 32 → enc l = enc l' → l.Perm l'
  | 0, l, l', h, h', _, _, _ => by
    have e : l = [] := by cases l with
      | nil => rfl
      | cons a r => exact absurd (h a (by simp)) (by lia)
    have e' : l' = [] := by cases l' with
      | nil => rfl
      | cons a r => exact absurd (h' a (by simp)) (by lia)
    rw [e, e']
  | B + 1, l, l', h, h', hl, hl', he => by
    have c := List.count_le_length (a := 0) (l := l)
    have c' := List.count_le_length (a := 0) (l := l')
    rw [enc_split l, enc_split l'] at he
    have h0 : l.count 0 = l'.count 0 := by lia
    have h1 : enc ((l.filter fun x => x != 0).map (· - 1)) = enc ((l'.filter fun x => x != 0).map (· - 1)) := by lia
    have f : ∀ m : List Nat, (∀ x ∈ m, x < B + 1) → ∀ x ∈ (m.filter fun x => x != 0).map (· - 1), x < B := fun m hm x hx => by
      obtain ⟨y, hy, rfl⟩ := List.mem_map.mp hx
      have q := List.mem_filter.mp hy
      have := hm y q.1
      have := q.2
      simp at this
      lia
    have g : ∀ m : List Nat, m.length < 32 → ((m.filter fun x => x != 0).map (· - 1)).length < 32 := fun m hm => by
      rw [List.length_map]; exact Nat.lt_of_le_of_lt (List.length_filter_le ..) hm
    have p := enc_perm B _ _ (f l h) (f l' h') (g l hl) (g l' hl') h1
    refine (perm_zero l).trans (List.Perm.trans ?_ (perm_zero l').symm)
    rw [h0]
    exact List.Perm.append_left _ (p.map _)
noncomputable def tN (a b c d : Nat) : Nat := (a + ((b + ((c + (d - 4)) - 4)) - 4)) - 4
theorem max_pre (x y : Int) : max x (x + y) = x + max 0 y := by lia
theorem topZ_eq (a b c d : Int) : topZ a b c d = max 0 (a + max 0 (b + max 0 (c + max 0 d))) := by
  unfold topZ
  rw [Int.max_comm _ (0 : Int), Int.max_assoc, Int.max_assoc, max_pre, Int.add_assoc (a + b), max_pre, Int.add_assoc a, max_pre]
theorem max_last (d : Nat) : max (0 : Int) ((d : Int) - 4) = ((d - 4 : Nat) : Int) := by lia
theorem max_step (a x : Nat) : max (0 : Int) ((a : Int) - 4 + (x : Nat)) = ((a + x - 4 : Nat) : Int) := by lia
theorem topZ_tN (a b c d : Nat) : topZ ((a : Int) - 4) ((b : Int) - 4) ((c : Int) - 4) ((d : Int) - 4) = ((tN a b c d : Nat) : Int) := by
  rw [topZ_eq, max_last, max_step, max_step, max_step]
  rfl
noncomputable def encL (a b c d : Nat) : Nat :=
  let ab := (a + (b - 4)) - 4; let ac := (a + (c - 4)) - 4; let ad := (a + (d - 4)) - 4; let ba := (b + (a - 4)) - 4; let bc := (b + (c - 4)) - 4; let bd := (b + (d - 4)) - 4; let ca := (c + (a - 4)) - 4; let cb := (c + (b - 4)) - 4; let cd := (c + (d - 4)) - 4; let da := (d + (a - 4)) - 4; let db := (d + (b - 4)) - 4; let dc := (d + (c - 4)) - 4
  pw ((a + ((b + cd) - 4)) - 4) + (pw ((a + ((b + dc) - 4)) - 4) + (pw ((a + ((d + bc) - 4)) - 4) + (pw ((d + ((a + bc) - 4)) - 4) + (pw ((d + ((a + cb) - 4)) - 4) + (pw ((a + ((d + cb) - 4)) - 4) + (pw ((a + ((c + db) - 4)) - 4) + (pw ((a + ((c + bd) - 4)) - 4) + (pw ((c + ((a + bd) - 4)) - 4) + (pw ((c + ((a + db) - 4)) - 4) + (pw ((c + ((d + ab) - 4)) - 4) + (pw ((d + ((c + ab) - 4)) - 4) + (pw ((d + ((c + ba) - 4)) - 4) + (pw ((c + ((d + ba) - 4)) - 4) + (pw ((c + ((b + da) - 4)) - 4) + (pw ((c + ((b + ad) - 4)) - 4) + (pw ((b + ((c + ad) - 4)) - 4) + (pw ((b + ((c + da) - 4)) - 4) + (pw ((b + ((d + ca) - 4)) - 4) + (pw ((d + ((b + ca) - 4)) - 4) + (pw ((d + ((b + ac) - 4)) - 4) + (pw ((b + ((d + ac) - 4)) - 4) + (pw ((b + ((a + dc) - 4)) - 4) + (pw ((b + ((a + cd) - 4)) - 4) + 0)))))))))))))))))))))))
noncomputable def encR (a b c d : Nat) : Nat :=
  let sd := d - 4; let sc := c - 4; let sb := b - 4; let sa := a - 4; let sad := a + d - 8; let sbd := b + d - 8; let scd := c + d - 8; let sac := a + c - 8; let sacd := a + (c + d) - 12; let sbc := b + c - 8; let sbcd := b + (c + d) - 12; let sab := a + b - 8; let sabd := a + (b + d) - 12; let sabc := a + (b + c) - 12; let sabcd := a + (b + (c + d)) - 16
  pw (sa + (sb + (sc + sd))) + (pw (sad + (sb + sc)) + (pw (sa + (sbd + sc)) + (pw (sa + (sb + scd)) + (pw (sac + (sb + (0 + sd))) + (pw (sacd + sb) + (pw (sac + sbd) + (pw (sacd + sb) + (pw (sa + (sbc + (0 + sd))) + (pw (sad + sbc) + (pw (sa + sbcd) + (pw (sa + sbcd) + (pw (sab + (0 + (sc + sd))) + (pw (sabd + (0 + sc)) + (pw (sabd + (0 + sc)) + (pw (sab + (0 + scd)) + (pw (sabc + (0 + (0 + sd))) + (pw (sabcd) + (pw (sabcd) + (pw (sabcd) + (pw (sabc + (0 + (0 + sd))) + (pw (sabcd) + (pw (sabcd) + (pw (sabcd) + 0)))))))))))))))))))))))
noncomputable def encEq (a : Nat) : Bool := (List.range 9).all fun b => (List.range 9).all fun c => (List.range 9).all fun d => Nat.beq (encL a b c d) (encR a b c d)
theorem enc0 : encEq 0 = true := by decide +kernel
theorem enc1 : encEq 1 = true := by decide +kernel
theorem enc2 : encEq 2 = true := by decide +kernel
theorem enc3 : encEq 3 = true := by decide +kernel
theorem enc4 : encEq 4 = true := by decide +kernel
theorem enc5 : encEq 5 = true := by decide +kernel
theorem enc6 : encEq 6 = true := by decide +kernel
theorem enc7 : encEq 7 = true := by decide +kernel
theorem enc8 : encEq 8 = true := by decide +kernel
theorem enc_all : ∀ a, a < 9 → encEq a = true
  | 0, _ => enc0 | 1, _ => enc1 | 2, _ => enc2 | 3, _ => enc3 | 4, _ => enc4 | 5, _ => enc5 | 6, _ => enc6 | 7, _ => enc7 | 8, _ => enc8
  | n + 9, h => absurd h (Nat.not_lt.mpr (Nat.le_add_left 9 n))
theorem enc_eq {a b c d : Nat} (ha : a < 9) (hb : b < 9) (hc : c < 9) (hd : d < 9) : encL a b c d = encR a b c d :=
  Nat.eq_of_beq_eq_true (List.all_eq_true.mp (List.all_eq_true.mp (List.all_eq_true.mp (enc_all a ha) b (List.mem_range.mpr hb)) c (List.mem_range.mpr hc)) d (List.mem_range.mpr hd))
theorem ords_lit : (List.range 24).map ordN = [[0, 1, 2, 3], [0, 1, 3, 2], [0, 3, 1, 2], [3, 0, 1, 2], [3, 0, 2, 1], [0, 3, 2, 1], [0, 2, 3, 1], [0, 2, 1, 3], [2, 0, 1, 3], [2, 0, 3, 1], [2, 3, 0, 1], [3, 2, 0, 1], [3, 2, 1, 0], [2, 3, 1, 0], [2, 1, 3, 0], [2, 1, 0, 3], [1, 2, 0, 3], [1, 2, 3, 0], [1, 3, 2, 0], [3, 1, 2, 0], [3, 1, 0, 2], [1, 3, 0, 2], [1, 0, 3, 2], [1, 0, 2, 3]] := by decide
theorem crw_lit : crwN 4 = [[0, 1, 2, 3], [0, 1, 2, 0], [0, 1, 2, 1], [0, 1, 2, 2], [0, 1, 0, 3], [0, 1, 0, 0], [0, 1, 0, 1], [0, 1, 0, 0], [0, 1, 1, 3], [0, 1, 1, 0], [0, 1, 1, 1], [0, 1, 1, 1], [0, 0, 2, 3], [0, 0, 2, 0], [0, 0, 2, 0], [0, 0, 2, 2], [0, 0, 0, 3], [0, 0, 0, 0], [0, 0, 0, 0], [0, 0, 0, 0], [0, 0, 0, 3], [0, 0, 0, 0], [0, 0, 0, 0], [0, 0, 0, 0]] := by decide
noncomputable def LN (a b c d : Nat) : List Nat := [tN a b c d, tN a b d c, tN a d b c, tN d a b c, tN d a c b, tN a d c b, tN a c d b, tN a c b d, tN c a b d, tN c a d b, tN c d a b, tN d c a b, tN d c b a, tN c d b a, tN c b d a, tN c b a d, tN b c a d, tN b c d a, tN b d c a, tN d b c a, tN d b a c, tN b d a c, tN b a d c, tN b a c d]
noncomputable def RN (a b c d : Nat) : List Nat := [(a - 4) + ((b - 4) + ((c - 4) + (d - 4))), (a + d - 8) + ((b - 4) + (c - 4)), (a - 4) + ((b + d - 8) + (c - 4)), (a - 4) + ((b - 4) + (c + d - 8)), (a + c - 8) + ((b - 4) + (0 + (d - 4))), (a + (c + d) - 12) + (b - 4), (a + c - 8) + (b + d - 8), (a + (c + d) - 12) + (b - 4), (a - 4) + ((b + c - 8) + (0 + (d - 4))), (a + d - 8) + (b + c - 8), (a - 4) + ((b + (c + d) - 12)), (a - 4) + ((b + (c + d) - 12)), (a + b - 8) + (0 + ((c - 4) + (d - 4))), (a + (b + d) - 12) + (0 + (c - 4)), (a + (b + d) - 12) + (0 + (c - 4)), (a + b - 8) + (0 + (c + d - 8)), (a + (b + c) - 12) + (0 + (0 + (d - 4))), (a + (b + (c + d)) - 16), (a + (b + (c + d)) - 16), (a + (b + (c + d)) - 16), (a + (b + c) - 12) + (0 + (0 + (d - 4))), (a + (b + (c + d)) - 16), (a + (b + (c + d)) - 16), (a + (b + (c + d)) - 16)]
theorem enc_LN (a b c d : Nat) : enc (LN a b c d) = encL a b c d := rfl
theorem enc_RN (a b c d : Nat) : enc (RN a b c d) = encR a b c d := rfl
/-- an order's rise, told in the shifted pulls -/
noncomputable def tO (f : Nat → Nat) (o : List Nat) : Nat := tN (f (o.getD 0 0)) (f (o.getD 1 0)) (f (o.getD 2 0)) (f (o.getD 3 0))
theorem topO_tO {pf : Nat → Int} {f : Nat → Nat} (h : ∀ j, pf j = (f j : Int) - 4) (o : List Nat) : topO pf o = ((tO f o : Nat) : Int) := by
  unfold topO tO
  rw [h, h, h, h, topZ_tN]
theorem tops_LN (f : Nat → Nat) : ((List.range 24).map fun k => tO f (ordN k)) = LN (f 0) (f 1) (f 2) (f 3) := by
  have e : ((List.range 24).map fun k => tO f (ordN k)) = ((List.range 24).map ordN).map (tO f) := by rw [List.map_map]; rfl
  rw [e, ords_lit]
  rfl
theorem tN_lt {a b c d : Nat} (ha : a < 9) (hb : b < 9) (hc : c < 9) (hd : d < 9) : tN a b c d < 129 :=
  Nat.lt_of_le_of_lt (Nat.le_trans (Nat.sub_le ..) (Nat.add_le_add_left (Nat.le_trans (Nat.sub_le ..) (Nat.add_le_add_left (Nat.le_trans (Nat.sub_le ..) (Nat.add_le_add_left (Nat.sub_le d 4) c)) b)) a)) (by lia)
/-- a crew's weight and its number, in the shifted pulls -/
noncomputable def sN : List Nat → List Int → Int → Nat
  | a :: as, c :: cs, z => if c = z then a + sN as cs z else sN as cs z
  | _, _, _ => 0
noncomputable def nN : List Int → Int → Nat
  | c :: cs, z => if c = z then nN cs z + 1 else nN cs z
  | [], _ => 0
theorem sn_step (c z : Int) (a S N : Nat) : (if c = z then (a : Int) - 4 else 0) + ((S : Int) - 4 * (N : Int)) = ((if c = z then a + S else S : Nat) : Int) - 4 * ((if c = z then N + 1 else N : Nat) : Int) := by
  split <;> lia
theorem wgt_cast (a b c d : Nat) (c0 c1 c2 c3 z : Int) : wgt [(a : Int) - 4, (b : Int) - 4, (c : Int) - 4, (d : Int) - 4] [c0, c1, c2, c3] z = ((sN [a, b, c, d] [c0, c1, c2, c3] z : Nat) : Int) - 4 * ((nN [c0, c1, c2, c3] z : Nat) : Int) :=
  (congrArg ((if c0 = z then (a : Int) - 4 else 0) + ·) ((congrArg ((if c1 = z then (b : Int) - 4 else 0) + ·) ((congrArg ((if c2 = z then (c : Int) - 4 else 0) + ·) (sn_step c3 z d 0 0)).trans (sn_step c2 z c _ _))).trans (sn_step c1 z b _ _))).trans (sn_step c0 z a _ _)
theorem max_sub (s n R : Nat) : max 0 ((s : Int) - 4 * (n : Int)) + (R : Int) = ((s - 4 * n + R : Nat) : Int) := by lia
noncomputable def topN (as : List Nat) (c : List Int) : Nat := (sN as c 0 - 4 * nN c 0) + ((sN as c 1 - 4 * nN c 1) + ((sN as c 2 - 4 * nN c 2) + ((sN as c 3 - 4 * nN c 3) + 0)))
theorem topC_cast (a b c d : Nat) (c0 c1 c2 c3 : Int) : topC [(a : Int) - 4, (b : Int) - 4, (c : Int) - 4, (d : Int) - 4] [c0, c1, c2, c3] = ((topN [a, b, c, d] [c0, c1, c2, c3] : Nat) : Int) := by
  show max 0 (wgt _ _ (0 : Nat)) + (max 0 (wgt _ _ (1 : Nat)) + (max 0 (wgt _ _ (2 : Nat)) + (max 0 (wgt _ _ (3 : Nat)) + ((0 : Nat) : Int)))) = _
  rw [wgt_cast, wgt_cast, wgt_cast, wgt_cast, max_sub, max_sub, max_sub, max_sub]
  rfl
theorem sN_le : ∀ (as : List Nat) (c : List Int) (z : Int), sN as c z ≤ as.sum
  | [], _, _ => Nat.zero_le _
  | _ :: _, [], _ => Nat.zero_le _
  | a :: as, c :: cs, z => by
    have ih := sN_le as cs z
    rw [List.sum_cons]
    show (if c = z then a + sN as cs z else sN as cs z) ≤ _
    split
    · exact Nat.add_le_add_left ih a
    · exact Nat.le_trans ih (Nat.le_add_left ..)
theorem topN_le (as : List Nat) (c : List Int) : topN as c ≤ as.sum + (as.sum + (as.sum + (as.sum + 0))) :=
  have h (z : Int) : sN as c z - 4 * nN c z ≤ as.sum := Nat.le_trans (Nat.sub_le ..) (sN_le as c z)
  Nat.add_le_add (h 0) (Nat.add_le_add (h 1) (Nat.add_le_add (h 2) (Nat.add_le_add_right (h 3) 0)))
theorem crw_RN (a b c d : Nat) : (crwN 4).map (topN [a, b, c, d]) = RN a b c d := by
  rw [crw_lit]
  rfl
theorem spitzer_top {pf : Nat → Int} (hb : ∀ j, -4 ≤ pf j ∧ pf j ≤ 4) : ((List.range 24).map fun k => topO pf (ordN k)).Perm ((crwN 4).map (topC [pf 0, pf 1, pf 2, pf 3])) := by
  have hf : ∀ j, pf j = (((pf j + 4).toNat : Nat) : Int) - 4 ∧ (pf j + 4).toNat < 9 := fun j => by have := hb j; lia
  generalize hF : (fun j => (pf j + 4).toNat) = f at hf
  have hp : ∀ j, pf j = (f j : Int) - 4 := fun j => by rw [← hF]; exact (hf j).1
  have hl : ∀ j, f j < 9 := fun j => by rw [← hF]; exact (hf j).2
  have e1 : ((List.range 24).map fun k => topO pf (ordN k)) = ((List.range 24).map fun k => tO f (ordN k)).map fun (n : Nat) => (n : Int) := by
    rw [List.map_map]
    exact List.map_congr_left fun k _ => topO_tO hp _
  have e2 : (crwN 4).map (topC [pf 0, pf 1, pf 2, pf 3]) = ((crwN 4).map (topN [f 0, f 1, f 2, f 3])).map fun (n : Nat) => (n : Int) := by
    rw [List.map_map]
    refine List.map_congr_left fun c hc => ?_
    obtain ⟨c0, c1, c2, c3, rfl⟩ := crw4_len c hc
    rw [hp 0, hp 1, hp 2, hp 3]
    exact topC_cast ..
  rw [e1, e2]
  refine List.Perm.map _ (enc_perm 129 _ _ (fun x hx => ?_) (fun x hx => ?_) ?_ ?_ ?_)
  · obtain ⟨k, _, rfl⟩ := List.mem_map.mp hx
    exact tN_lt (hl _) (hl _) (hl _) (hl _)
  · obtain ⟨c, _, rfl⟩ := List.mem_map.mp hx
    refine Nat.lt_of_le_of_lt (topN_le _ _) ?_
    have h0 := hl 0
    have h1 := hl 1
    have h2 := hl 2
    have h3 := hl 3
    simp only [List.sum_cons, List.sum_nil]
    lia
  · rw [tops_LN]; exact Nat.le_of_ble_eq_true rfl
  · rw [crw_RN]; exact Nat.le_of_ble_eq_true rfl
  · rw [tops_LN, crw_RN, enc_LN, enc_RN]
    exact enc_eq (hl 0) (hl 1) (hl 2) (hl 3)
theorem min_neg (x y : Int) : min x y = -max (-x) (-y) := by lia
theorem lowZ_neg (a b c d : Int) : lowZ a b c d = -topZ (-a) (-b) (-c) (-d) := by
  unfold lowZ topZ
  simp only [min_neg, Int.neg_neg, Int.neg_add, Int.neg_zero]
theorem if_neg0 (P : Prop) [Decidable P] (x : Int) : (if P then -x else 0) = -(if P then x else 0) := by
  split
  · rfl
  · rfl
theorem wgt_neg (p0 p1 p2 p3 : Int) (c : List Int) (z : Int) : wgt [-p0, -p1, -p2, -p3] c z = -wgt [p0, p1, p2, p3] c z := by
  show (if c.getD 0 0 = z then -p0 else 0) + ((if c.getD 1 0 = z then -p1 else 0) + ((if c.getD 2 0 = z then -p2 else 0) + ((if c.getD 3 0 = z then -p3 else 0) + 0))) = -((if c.getD 0 0 = z then p0 else 0) + ((if c.getD 1 0 = z then p1 else 0) + ((if c.getD 2 0 = z then p2 else 0) + ((if c.getD 3 0 = z then p3 else 0) + 0))))
  simp only [if_neg0, Int.neg_add, Int.neg_zero]
theorem lowC_neg (p0 p1 p2 p3 : Int) (c : List Int) : lowC [p0, p1, p2, p3] c = -topC [-p0, -p1, -p2, -p3] c := by
  have e (z : Int) : min 0 (wgt [p0, p1, p2, p3] c z) = -max 0 (wgt [-p0, -p1, -p2, -p3] c z) := by rw [wgt_neg, min_neg, Int.neg_zero]
  show min 0 (wgt _ _ (0 : Nat)) + (min 0 (wgt _ _ (1 : Nat)) + (min 0 (wgt _ _ (2 : Nat)) + (min 0 (wgt _ _ (3 : Nat)) + 0))) = -(max 0 (wgt _ _ (0 : Nat)) + (max 0 (wgt _ _ (1 : Nat)) + (max 0 (wgt _ _ (2 : Nat)) + (max 0 (wgt _ _ (3 : Nat)) + 0))))
  rw [e, e, e, e]
  simp only [Int.neg_add, Int.neg_zero]
theorem spitzer_low {pf : Nat → Int} (hb : ∀ j, -4 ≤ pf j ∧ pf j ≤ 4) : ((List.range 24).map fun k => lowO pf (ordN k)).Perm ((crwN 4).map (lowC [pf 0, pf 1, pf 2, pf 3])) := by
  have h := (spitzer_top (pf := fun j => -pf j) fun j => by have := hb j; lia).map (fun x => -x)
  rw [List.map_map, List.map_map] at h
  have e1 : ((List.range 24).map fun k => lowO pf (ordN k)) = (List.range 24).map ((fun x => -x) ∘ fun k => topO (fun j => -pf j) (ordN k)) := List.map_congr_left fun k _ => by
    show lowZ _ _ _ _ = -topZ _ _ _ _
    exact lowZ_neg ..
  have e2 : (crwN 4).map (lowC [pf 0, pf 1, pf 2, pf 3]) = (crwN 4).map ((fun x => -x) ∘ topC [-pf 0, -pf 1, -pf 2, -pf 3]) := List.map_congr_left fun c _ => lowC_neg ..
  rw [e1, e2]
  exact h
theorem sorted_eq {a b : List Int} (hp : a.Perm b) (ha : a.Pairwise (· ≤ ·)) (hb : b.Pairwise (· ≤ ·)) : a = b := ksm_same hp ha hb
theorem tops_are {pf : Nat → Int} (hb : ∀ j, -4 ≤ pf j ∧ pf j ≤ 4) {tt : List Int} (hp : tt.Perm ((crwN 4).map (topC [pf 0, pf 1, pf 2, pf 3]))) (hs : tt.Pairwise (· ≤ ·)) : tt = topsN pf 24 :=
  sorted_eq (hp.trans ((spitzer_top hb).symm.trans (topsN_ok pf 24).2.1.symm)) hs (topsN_ok pf 24).1
theorem lows_are {pf : Nat → Int} (hb : ∀ j, -4 ≤ pf j ∧ pf j ≤ 4) {tt : List Int} (hp : tt.Perm ((crwN 4).map (lowC [pf 0, pf 1, pf 2, pf 3]))) (hs : tt.Pairwise (· ≤ ·)) : tt = lowsN pf 24 :=
  sorted_eq (hp.trans ((spitzer_low hb).symm.trans (lowsN_ok pf 24).2.1.symm)) hs (lowsN_ok pf 24).1
end Mine
end
section
open PySem PySem.W PyProof.Rows PySem.Calls
set_option maxRecDepth 100000
set_option maxHeartbeats 4000000
namespace Mine
local macro_rules | `(tactic| k_all) => `(tactic| first | exact OffT.out (by with_reducible assumption) | fail "k_all: none at hand")
local macro_rules | `(tactic| k_ne) => `(tactic| (refine neN ?_; (try dsimp only); first
  | exact NeW.out (by with_reducible assumption)
  | exact Ne.symm (NeW.out (by with_reducible assumption))
  | exact Mine.lts_ne (by with_reducible assumption) (by k_mem)
  | exact Mine.lts_ne' (by with_reducible assumption) (by k_mem)
  | exact off1_mem (show LCg.Off1 _ _ by with_reducible assumption) (_, _) (by k_mem)
  | exact Ne.symm (off1_mem (show LCg.Off1 _ _ by with_reducible assumption) (_, _) (by k_mem))
  | exact Ne3.ic (by with_reducible assumption)
  | exact Ne3.id (by with_reducible assumption)
  | exact Ne3.cd (by with_reducible assumption)
  | exact Ne.symm (Ne3.ic (by with_reducible assumption))
  | exact Ne.symm (Ne3.id (by with_reducible assumption))
  | exact Ne.symm (Ne3.cd (by with_reducible assumption))
  | exact (off3_mem (show LCg.Off3 _ _ _ _ by with_reducible assumption) (_, _) (by k_mem)).1
  | exact (off3_mem (show LCg.Off3 _ _ _ _ by with_reducible assumption) (_, _) (by k_mem)).2.1
  | exact (off3_mem (show LCg.Off3 _ _ _ _ by with_reducible assumption) (_, _) (by k_mem)).2.2
  | exact Ne.symm (off3_mem (show LCg.Off3 _ _ _ _ by with_reducible assumption) (_, _) (by k_mem)).1
  | exact Ne.symm (off3_mem (show LCg.Off3 _ _ _ _ by with_reducible assumption) (_, _) (by k_mem)).2.1
  | exact Ne.symm (off3_mem (show LCg.Off3 _ _ _ _ by with_reducible assumption) (_, _) (by k_mem)).2.2
  | exact apart_mem (show Apart2 _ _ by with_reducible assumption) (_, _) (by k_mem) _ (by k_mem)
  | exact Ne.symm (apart_mem (show Apart2 _ _ by with_reducible assumption) (_, _) (by k_mem) _ (by k_mem))
  | omega))
local macro_rules | `(tactic| lcg_off) => `(tactic| ((with_reducible rename LCg.Off3 _ _ _ _ => oo); exact oo))
local macro_rules | `(tactic| walk_at "exec Assign cons ListComp") => `(tactic| (k_here; k_dflt (refine LCg.Assign_ListComp_U (F₀ := by k_asm) (by rfl) (by with_unfolding_all rfl) (by rfl) (by decide) (by rfl) (by decide) (by rfl) (by rfl) (by rfl) ?_)))
local macro_rules | `(tactic| walk_at "eval ListComp") => `(tactic| (k_here; k_dflt (refine LCg.ListComp_U (F₀ := by k_asm) (by with_unfolding_all rfl) (by decide) (by rfl) (by decide) (by rfl) ?_)))
local macro_rules | `(tactic| walk_at "CompSrc") => `(tactic| (k_here; k_dflt (first
  | (refine LCg.CompSrc.range (by rfl) (by k_asm) (by k_asm) (by assumption) (by first | decide | rfl) (by first | rfl | decide) (by first | size_fits | exact Nat.le_of_ble_eq_true rfl) ?_; intro g'; lcg_lit)
  | (refine LCg.CompSrc.ledger (by rfl) (by k_asm) (by k_asm) (by k_mem) (by exact Nat.le_of_ble_eq_true rfl) ?_; intro g'; lcg_lit))))
local macro_rules | `(tactic| walk_at "FinA") => `(tactic| ((unfold LCg.FinA); (try (with_reducible rename Ne3 _ _ _ => neOld; clear neOld)); (try (with_reducible rename LCg.Off3 _ _ _ _ => ooOld; clear ooOld)); intro D' h' tk' F' N' o1'; (try simp only [List.nil_append, List.cons_append] at N'); (try dsimp only)))
local macro_rules | `(tactic| walk_at "FinE") => `(tactic| ((unfold LCg.FinE); (try (with_reducible rename Ne3 _ _ _ => neOld; clear neOld)); (try (with_reducible rename LCg.Off3 _ _ _ _ => ooOld; clear ooOld)); intro D' h' tk' F' N' o1'; (try simp only [List.nil_append, List.cons_append] at N'); (try dsimp only)))
local macro_rules | `(tactic| walk_at "call ref") => `(tactic| (k_here; (with_reducible show wpAny _ _ (call (Value.ref _) _ _) _ _ _); refine Stop.out (P := _) ?_))
local macro_rules | `(tactic| walk_at "CompRest") => `(tactic| refine Stop.out (P := _) ?_)
section
theorem fresh_P_stA : True := by
  w_top off
  trivial
local macro_rules | `(tactic| walk_at "call builtin:str.join") => `(tactic| (k_here; k_dflt (refine' join4 (by k_asm) ?k2 ?_; (case k2 => k_mem); intro t' k')))
structure Hid (P : Prop) : Prop where
  out : P
noncomputable def stA : {P : Prop // Hid P → PySem.Challenge.rw_sc0065_01.Holds} := by
  refine' ⟨_, fun hGo9 => hd ?gst⟩
  case gst =>
    k_go0
    all_goals (try k_fold)
    refine hideQ ?_
    intro Qh kQh
    k_steps
    refine Stop.mk ?_
    refine' use_tot ?ak1 ?ak2 ?ak3 ?ak4 ?ak5 ?ad1 ?au1 ?ahl ?ahI ?ahn ?_
    case ak1 => k_asm
    case ak2 => k_asm
    case ak3 => k_asm
    case ak4 => k_asm
    case ak5 => k_asm
    case ad1 => first | ((try dsimp only); omega) | decide
    case au1 => first | ((try dsimp only); omega) | decide
    case ahl => with_reducible assumption
    case ahI => assumption
    case ahn => omega
    intro h' tk' T' a' b' c' d' ta' tb' tc' td' nT' F' N' o1'
    k_steps
    refine Stop.mk ?_
    refine comp_tot (fun n t => .str ⟨(wordL n).toArray⟩ t) ?hSA ?turnA ?finA
    case hSA => lcg_src
    case turnA =>
      intro n9 tn9 I9 oI9 C9 oC9 D9 oD9 m9 h9 tk9 E9 Q9 hC9 hx9 F9 N9 off9 ne9 hq9
      k_steps
      refine Stop.mk ?_
      refine' use_word ?awk1 ?awk2 ?awk3 ?awk4 ?awk5 ?awhz ?awd1 ?awu1 ?_
      case awk1 => k_asm
      case awk2 => k_asm
      case awk3 => k_asm
      case awk4 => k_asm
      case awk5 => k_asm
      case awhz => exact rfl
      case awd1 => first | ((try dsimp only); omega) | decide
      case awu1 => first | ((try dsimp only); omega) | decide
      intro h' tk' t' F' N'
      k_steps
      (with_reducible rename News _ _ _ _ => kN9)
      (with_reducible rename Fr _ _ _ _ => kF9)
      exact hq9 _ _ _ kF9 kN9
    case finA =>
      intro t09 t19 t29 t39
      k_steps
      refine Stop.mk ?_
      rename_i yA0 yA1 yA2 yA3 yA4 yA5 yA6 yA7 yA8 yA9 yA10 yA11 yA12 yA13 yA14 yA16 yA17 yA18 yA19 yA20 yA21 yA23 yA24 yA25 yA26 yA27 yA28 yA29 yA30 yA31 yA32 yA33 yA34 yA35 yA36 yA37 yA38 yA39 yA40 yA41 yA42 yA43 yA44 yA45 yA46 yA47 yA48 yA49 yA50 yA53 yA69 yA70 yA71 yA76 yA77 yA78 yA79 yA80 yA81 yA82 yA83 yA84
      clear yA5 yA6 yA8 yA12 yA13 hT8 yA16 yA17 yA18 yA19 yA20 yA21 hT9 yA24 yA25 yA27 yA28 yA29 yA30 yA32 yA33 yA34 yA35 yA36 yA37 yA38 yA39 yA40 yA41 yA42 yA43 yA44 yA47 lifted h' tk' yA69 yA70 yA71 yA77 yA78 yA79 yA81
      revert yA0 yA1 yA2 yA3 yA4 yA7 yA9 yA10 yA11 yA14 yA23 yA26 yA31 yA45 yA46 yA48 yA49 yA50 codeHd yA53 Qh kQh T' a' b' c' d' ta' tb' tc' td' nT' o1' t09 t19 t29 t39 yA76 yA80 yA82 yA83 yA84 tk
      exact hGo9.out
theorem fresh_P_stB : True := by
  w_top off
  trivial
local macro_rules | `(tactic| walk_at "exec For") => `(tactic| (k_here; refine Stop.out (P := _) ?_))
local macro_rules | `(tactic| walk_at "exec For Name Name cons nil") => `(tactic| (k_here; refine Stop.out (P := _) ?_))
local macro_rules | `(tactic| walk_at "pyIter ref") => `(tactic| ((with_reducible show wpAny _ _ (pyIter (Value.ref _)) (fun _ _ => codeAny _ _ _ _ _) _ _); refine Stop.out (P := _) ?_))
local macro_rules | `(tactic| walk_at "GrownAll") => `(tactic| refine Stop.out (P := _) ?_)
local macro_rules | `(tactic| walk_at "exec Return some") => `(tactic| (k_here; exfalso; omega))
local macro_rules | `(tactic| walk_at "compareOp NotEq ref ref") => `(tactic| (k_here; k_dflt (refine' ne_same (by k_asm) ?ma ?mb ?ca ?da ?cb ?db ?ha ?hb ?ok ?hu ?_; (case ma => k_mem); (case mb => k_mem); (case ca => exact rfl); (case da => exact rfl); (case cb => exact rfl); (case db => exact rfl); (case ha => exact .cons _ _ (.cons _ _ (.cons _ _ (.cons _ _ (.cons _ _ .nil))))); (case hb => exact .cons _ _ (.cons _ _ (.cons _ _ (.cons _ _ (.cons _ _ .nil))))); (case ok => (refine List.forall_mem_cons.mpr ⟨mail_ok _, List.forall_mem_cons.mpr ⟨mail_ok _, List.forall_mem_cons.mpr ⟨mail_ok _, List.forall_mem_cons.mpr ⟨mail_ok _, List.forall_mem_cons.mpr ⟨by decide +kernel, List.forall_mem_nil _⟩⟩⟩⟩⟩)); (case hu => first | ((try dsimp only); k_units) | decide))))
local macro_rules | `(tactic| walk_at "call builtin:str.count") => `(tactic| (k_here; k_dflt (refine' count_nl ?_; intro _ _)))
noncomputable def stB : {P : Prop // Hid P → stA.1} := by
  refine' ⟨_, fun hGo9 => ?gst⟩
  case gst =>
    have hkk0 : (fun (_ : Params → Frag) (_ : OpenLaw) => True) hd.heap_39 PySem.Challenge.rw_sc0065_01 := by k_fill; trivial
    clear hkk0
    intro yA0 yA1 yA2 yA3 yA4 yA7 yA9 yA10 yA11 yA14 yA23 yA26 yA31 yA45 yA46 yA48 yA49 yA50 codeHd yA53 Qh kQh T' a' b' c' d' ta' tb' tc' td' nT' o1' t09 t19 t29 t39 yA76 yA80 yA82 yA83 yA84 tk
    (with_reducible rename News _ _ _ _ => kN9)
    refine' use_lex (own := [_, _]) (rest := []) ?k1 ?k2 ?k3 (newsSub kN9 (subCons (List.mem_cons_of_mem _ (List.mem_cons_self ..)) (subCons (List.mem_cons_of_mem _ (List.mem_cons_of_mem _ (List.mem_cons_self ..))) (subCons (List.mem_cons_of_mem _ (List.mem_cons_of_mem _ (List.mem_cons_of_mem _ (List.mem_cons_self ..)))) subNil)))) ?k5 ?ho ?d1 ?u1 ?cH ?ht ?_
    case k1 => k_asm
    case k2 => k_asm
    case k3 => k_asm
    case k5 => k_asm
    case ho => k_all
    case d1 => first | ((try dsimp only); omega) | decide
    case u1 => first | ((try dsimp only); omega) | decide
    case cH => assumption
    case ht =>
      rw [strLen]
      simp only [List.length_append]
      have wl := word_len
      refine Nat.le_trans (Nat.add_le_add (wl _) (Nat.add_le_add (wl _) (Nat.add_le_add (wl _) (wl _)))) (by decide)
    clear kN9
    intro h' tk' x dx pb st ds pb0 f foc fod fd fsl c oc pl cp ocp ct oct t0 t1 t2 t3 t4 u0 u1 u2 u3 u4 u5 u6 k0 tl ps F' N' hR hA hAp
    dsimp only [List.cons_append, List.nil_append] at N' hAp
    obtain ⟨k1, k2, k3, k4, k5, k6, l1, l2, l3, l4, l5, s1, s2, s3, s4, s5, s6, e5⟩ := steps_of hR
    have aA1 := Asc.cut (p := [ct]) (d := cp) (q := [pl, c, f, ds, st, dx, x, pb]) hA
    have aA2 := Asc.cut (p := [ct, cp]) (d := pl) (q := [c, f, ds, st, dx, x, pb]) hA
    have aA3 := Asc.cut (p := [ct, cp, pl]) (d := c) (q := [f, ds, st, dx, x, pb]) hA
    have aA4 := Asc.cut (p := [ct, cp, pl, c]) (d := f) (q := [ds, st, dx, x, pb]) hA
    have aA5 := Asc.cut (p := [ct, cp, pl, c, f]) (d := ds) (q := [st, dx, x, pb]) hA
    have aA6 := Asc.cut (p := [ct, cp, pl, c, f, ds]) (d := st) (q := [dx, x, pb]) hA
    have aA7 := Asc.cut (p := [ct, cp, pl, c, f, ds, st]) (d := dx) (q := [x, pb]) hA
    have aA8 := Asc.cut (p := [ct, cp, pl, c, f, ds, st, dx]) (d := x) (q := [pb]) hA
    have aA9 := Asc.cut (p := [ct, cp, pl, c, f, ds, st, dx, x]) (d := pb) (q := []) hA
    k_steps
    refine Stop.mk ?_
    refine' comp_five (dx := dx) (pl := pl) (pb := pb) (st := st) (t0 := t0) (t1 := t1) (t2 := t2) (t3 := t3) (t4 := t4) (tl0 := tl) (tk0 := k0) s1 s2 s3 s4 s5 ?bU1 ?bU2 ?bS ?bturn ?boff ?bfin
    case bU1 => k_updF
    case bU2 => (intro o9; (try dsimp only); k_updF)
    case bS => exact fun _ _ => trivial
    case boff => exact fun _ _ _ _ _ _ _ h => h
    case bturn =>
      intro k9 k9' l9 l9' q9 tl9 tkk9 v9 I9 oI9 C9 oC9 D9 oD9 m9 h9 tk9 E9 Q9 hst9 hC9 hx9 F9 N9 off9 ne9 hq9
      (try dsimp only at N9 off9 hq9)
      k_steps
      refine Stop.mk ?_
      refine' use_gt2 ?bk1 ?bk2 ?bk3 ?bk4 ?bk5 ?bhR ?bhS ?bm1 ?bm2 ?bm3 ?bm4 ?bm5 ?bm6 ?bm7 ?bm8 ?bU1 ?bU2 ?bd1 ?bu1 ?bhA ?_
      case bk1 => k_asm
      case bk2 => k_asm
      case bk3 => k_asm
      case bk4 => k_asm
      case bk5 => k_asm
      case bhA => with_reducible assumption
      case bhR => with_reducible assumption
      case bm1 => k_mem
      case bm2 => k_mem
      case bm3 => k_mem
      case bm4 => k_mem
      case bm5 => k_mem
      case bm6 => k_mem
      case bm7 => k_mem
      case bm8 => k_mem
      case bU1 => k_updF
      case bU2 => (intro o9; (try dsimp only); k_updF)
      case bhS => with_reducible assumption
      case bd1 => first | ((try dsimp only); omega) | decide
      case bu1 => first | ((try dsimp only); omega) | decide
      intro h' tk' tl' tk'' t' F' N'
      (try dsimp only at N')
      k_steps
      (with_reducible rename News _ _ _ _ => kN9)
      (with_reducible rename Fr _ _ _ _ => kF9)
      exact hq9 _ _ _ _ _ kF9 kN9
    case bfin =>
      intro y09 y19 y29 y39 y49 tl9 tkk9
      (try dsimp only)
      k_steps
      refine Stop.mk ?_
      refine comp_tot (fun n t => .str ⟨(mailL (n % 192)).toArray⟩ t) ?hSB ?turnB ?finB
      case hSB => lcg_src
      case turnB =>
        intro n9 tn9 I9 oI9 C9 oC9 D9 oD9 m9 h9 tk9 E9 Q9 hC9 hx9 F9 N9 off9 ne9 hq9
        k_steps
        refine Stop.mk ?_
        refine' use_mail ?bmk1 ?bmk2 ?bmk3 ?bmk4 ?bmk5 ?bmhz ?bmd1 ?bmu1 ?_
        case bmk1 => k_asm
        case bmk2 => k_asm
        case bmk3 => k_asm
        case bmk4 => k_asm
        case bmk5 => k_asm
        case bmhz => exact rfl
        case bmd1 => first | ((try dsimp only); omega) | decide
        case bmu1 => first | ((try dsimp only); omega) | decide
        intro h' tk' t' F' N'
        k_steps
        (with_reducible rename News _ _ _ _ => kN9)
        (with_reducible rename Fr _ _ _ _ => kF9)
        exact hq9 _ _ _ kF9 kN9
      case finB =>
        intro t09 t19 t29 t39
        k_steps
        refine Stop.mk ?_
        refine for_any ?_
        k_steps
        refine Stop.mk ?_
        rename_i yB33 yB34 yB35 yB36 yB40 yB106 yB107 yB108 yB109 yB110 yB111 yB112 yB113 yB114 yB115 yB116 yB117 yB125 yB126 yB127 yB128 yB129 yB134 yB135 yB136 yB137 yB138 yB139 yB140 yB141 yB142 yB143 yB144 yB145 yB146 yB148 yB149 yB150 yB151 yB152
        clear yA46 codeHd yA53 o1' yB33 yB34 yB35 yB36 yA76 yA82 yB40 h' tk' k0 tl k1 k2 k3 k4 l1 l2 l3 l4 s1 s2 s3 s4 s5 e5 aA1 yB106 yB109 yB110 yB111 yB112 yB113 yB114 yB115 yB116 yB117 yB126 yB127 yB129 yB135 yB137 yB139 yB140 yB143 yB144 yB145 yB146
        revert yA0 yA1 yA2 yA3 yA4 yA7 yA9 yA10 yA11 yA14 yA23 yA26 yA31 yA45 yA48 yA49 yA50 Qh kQh T' a' b' c' d' ta' tb' tc' td' nT' yA80 x dx pb st ds pb0 f foc fod fd fsl c oc pl cp ocp ct oct t0 t1 t2 t3 t4 u0 u1 u2 u3 u4 u5 u6 ps hR hA hAp k5 k6 l5 s6 aA2 aA3 aA4 aA5 aA6 aA7 aA8 aA9 yB107 yB108 y09 y19 y29 y39 y49 tl9 tkk9 yB125 yB128 t09 t19 t29 t39 yB134 yB136 yB138 yB141 yB142 tk yB148 yB149 yB150 yB151 yB152
        exact hGo9.out
theorem fresh_P_stD : True := by
  w_top off
  trivial
noncomputable def stD : {P : Prop // Hid P → stB.1} := by
  refine' ⟨_, fun hGo9 => ?gst⟩
  case gst =>
    have hkk0 : (fun (_ : Params → Frag) (_ : OpenLaw) => True) hd.heap_39 PySem.Challenge.rw_sc0065_01 := by k_fill; trivial
    clear hkk0
    intro yA0 yA1 yA2 yA3 yA4 yA7 yA9 yA10 yA11 yA14 yA23 yA26 yA31 yA45 yA48 yA49 yA50 Qh kQh T' a' b' c' d' ta' tb' tc' td' nT' yA80 x dx pb st ds pb0 f foc fod fd fsl c oc pl cp ocp ct oct t0 t1 t2 t3 t4 u0 u1 u2 u3 u4 u5 u6 ps hR hA hAp k5 k6 l5 s6 aA2 aA3 aA4 aA5 aA6 aA7 aA8 aA9 yB107 yB108 y09 y19 y29 y39 y49 tl9 tkk9 yB125 yB128 t09 t19 t29 t39 yB134 yB136 yB138 yB141 yB142 tk yB148 yB149 yB150 yB151 yB152
    (with_reducible rename Fr _ _ _ _ => kF)
    (with_reducible rename News _ _ _ _ => kN)
    refine' for_list_T (its := ?its) (P := pushP pb ?its) (adr := [pb]) ?hh ?hx ?hp kF (news_one (newsSub kN (subCons (List.mem_cons_of_mem _ (List.mem_cons_of_mem _ (List.mem_cons_of_mem _ (List.mem_cons_of_mem _ (List.mem_cons_of_mem _ (List.mem_cons_self ..)))))) (subCons (List.mem_cons_self ..) (subCons (List.mem_cons_of_mem _ (List.mem_cons_of_mem _ (List.mem_cons_of_mem _ (List.mem_cons_of_mem _ (List.mem_cons_self ..))))) (subCons (List.mem_cons_of_mem _ (List.mem_cons_of_mem _ (List.mem_cons_of_mem _ (List.mem_cons_of_mem _ (List.mem_cons_of_mem _ (List.mem_cons_of_mem _ (List.mem_cons_self ..))))))) (subCons (List.mem_cons_of_mem _ (List.mem_cons_of_mem _ (List.mem_cons_of_mem _ (List.mem_cons_of_mem _ (List.mem_cons_of_mem _ (List.mem_cons_of_mem _ (List.mem_cons_of_mem _ (List.mem_cons_self ..)))))))) (subCons (List.mem_cons_of_mem _ (List.mem_cons_of_mem _ (List.mem_cons_of_mem _ (List.mem_cons_of_mem _ (List.mem_cons_of_mem _ (List.mem_cons_of_mem _ (List.mem_cons_of_mem _ (List.mem_cons_of_mem _ (List.mem_cons_self ..))))))))) (subCons (List.mem_cons_of_mem _ (List.mem_cons_of_mem _ (List.mem_cons_of_mem _ (List.mem_cons_of_mem _ (List.mem_cons_of_mem _ (List.mem_cons_of_mem _ (List.mem_cons_of_mem _ (List.mem_cons_of_mem _ (List.mem_cons_of_mem _ (List.mem_cons_self ..)))))))))) (subCons (List.mem_cons_of_mem _ (List.mem_cons_of_mem _ (List.mem_cons_of_mem _ (List.mem_cons_of_mem _ (List.mem_cons_of_mem _ (List.mem_cons_of_mem _ (List.mem_cons_of_mem _ (List.mem_cons_of_mem _ (List.mem_cons_of_mem _ (List.mem_cons_of_mem _ (List.mem_cons_self ..))))))))))) (subCons (List.mem_cons_of_mem _ (List.mem_cons_of_mem _ (List.mem_cons_of_mem _ (List.mem_cons_of_mem _ (List.mem_cons_of_mem _ (List.mem_cons_of_mem _ (List.mem_cons_of_mem _ (List.mem_cons_of_mem _ (List.mem_cons_of_mem _ (List.mem_cons_of_mem _ (List.mem_cons_of_mem _ (List.mem_cons_self ..)))))))))))) (subCons (List.mem_cons_of_mem _ (List.mem_cons_of_mem _ (List.mem_cons_of_mem _ (List.mem_cons_of_mem _ (List.mem_cons_of_mem _ (List.mem_cons_of_mem _ (List.mem_cons_of_mem _ (List.mem_cons_of_mem _ (List.mem_cons_of_mem _ (List.mem_cons_of_mem _ (List.mem_cons_of_mem _ (List.mem_cons_of_mem _ (List.mem_cons_self ..))))))))))))) (subCons (List.mem_cons_of_mem _ (List.mem_cons_of_mem _ (List.mem_cons_of_mem _ (List.mem_cons_of_mem _ (List.mem_cons_of_mem _ (List.mem_cons_of_mem _ (List.mem_cons_of_mem _ (List.mem_cons_of_mem _ (List.mem_cons_of_mem _ (List.mem_cons_of_mem _ (List.mem_cons_of_mem _ (List.mem_cons_of_mem _ (List.mem_cons_of_mem _ (List.mem_cons_self ..)))))))))))))) (subCons (List.mem_cons_of_mem _ (List.mem_cons_of_mem _ (List.mem_cons_of_mem _ (List.mem_cons_of_mem _ (List.mem_cons_of_mem _ (List.mem_cons_of_mem _ (List.mem_cons_of_mem _ (List.mem_cons_of_mem _ (List.mem_cons_of_mem _ (List.mem_cons_of_mem _ (List.mem_cons_of_mem _ (List.mem_cons_of_mem _ (List.mem_cons_of_mem _ (List.mem_cons_of_mem _ (List.mem_cons_self ..))))))))))))))) (subCons (List.mem_cons_of_mem _ (List.mem_cons_of_mem _ (List.mem_cons_of_mem _ (List.mem_cons_of_mem _ (List.mem_cons_of_mem _ (List.mem_cons_of_mem _ (List.mem_cons_of_mem _ (List.mem_cons_of_mem _ (List.mem_cons_of_mem _ (List.mem_cons_of_mem _ (List.mem_cons_of_mem _ (List.mem_cons_of_mem _ (List.mem_cons_of_mem _ (List.mem_cons_of_mem _ (List.mem_cons_of_mem _ (List.mem_cons_self ..)))))))))))))))) (subCons (List.mem_cons_of_mem _ (List.mem_cons_of_mem _ (List.mem_cons_of_mem _ (List.mem_cons_of_mem _ (List.mem_cons_of_mem _ (List.mem_cons_of_mem _ (List.mem_cons_of_mem _ (List.mem_cons_of_mem _ (List.mem_cons_of_mem _ (List.mem_cons_of_mem _ (List.mem_cons_of_mem _ (List.mem_cons_of_mem _ (List.mem_cons_of_mem _ (List.mem_cons_of_mem _ (List.mem_cons_of_mem _ (List.mem_cons_of_mem _ (List.mem_cons_self ..))))))))))))))))) (subCons (List.mem_cons_of_mem _ (List.mem_cons_of_mem _ (List.mem_cons_of_mem _ (List.mem_cons_of_mem _ (List.mem_cons_of_mem _ (List.mem_cons_of_mem _ (List.mem_cons_of_mem _ (List.mem_cons_of_mem _ (List.mem_cons_of_mem _ (List.mem_cons_of_mem _ (List.mem_cons_of_mem _ (List.mem_cons_of_mem _ (List.mem_cons_of_mem _ (List.mem_cons_of_mem _ (List.mem_cons_of_mem _ (List.mem_cons_of_mem _ (List.mem_cons_of_mem _ (List.mem_cons_self ..)))))))))))))))))) subNil))))))))))))))))) ⟨0, rfl⟩ (List.mem_cons_self ..) ?hadr ?step ?hQ
    case hh => exact rfl
    case hx => exact rfl
    case hp => exact rfl
    case hadr =>
      rintro i v ⟨nw, rfl⟩
      rfl
    case step =>
      rintro i v I var' own s₁ hv hP F1 N1 hI hown
      obtain ⟨nw, rfl⟩ := hP
      dsimp only [List.cons_append, List.nil_append] at N1
      k_steps
      refine Stop.mk ?_
      have oO : OffT pb own := own_off hown (hI _ (List.mem_append_left _ (List.mem_cons_self ..))) (by k_ne)
      (with_reducible rename Fr _ _ _ _ => kF1)
      (with_reducible rename News _ _ _ _ => kN1)
      refine' use_push ?k1 kF1 ?k3 kN1 ?k5 (List.mem_cons_of_mem _ (List.mem_cons_of_mem _ (List.mem_cons_of_mem _ (List.mem_cons_self ..)))) (List.mem_cons_of_mem _ (List.mem_cons_of_mem _ (List.mem_cons_of_mem _ (List.mem_cons_of_mem _ (List.mem_cons_self ..))))) (UpdF.head ?ua) ?d1 ?u1 ?hA ?hn ?_
      case k1 => k_asm
      case k3 => k_asm
      case k5 => k_asm
      case ua =>
        (repeat' (first | exact OffT.out (by with_reducible assumption) | refine' List.forall_mem_cons.mpr ⟨?_, ?_⟩))
        all_goals (try dsimp only)
        all_goals k_ne
      case d1 => first | ((try dsimp only); omega) | decide
      case u1 => first | ((try dsimp only); omega) | decide
      case hA => exact hA.tail.tail.tail.tail.tail.tail.tail
      case hn => exact Nat.le_trans (List.length_take_le' _ _) (Nat.le_of_ble_eq_true rfl)
      intro h2 tk2 nw2 F2 N2
      refine wpAny_execs_nil ⟨rfl, h2, tk2, _, [(_, _)], rfl, F2, N2, pushP.next hv⟩
    case hQ =>
      intro h2 tk2 X2 var2 F2 N2 hP
      obtain ⟨nw, rfl⟩ := hP.all
      dsimp only [List.cons_append, List.nil_append] at N2
      k_steps
      refine Stop.mk ?_
      refine' use_pul ?dk1 ?dk2 ?dk3 ?dk4 ?dk5 ?dhm ?dd1 ?du1 ?_
      case dk1 => k_asm
      case dk2 => k_asm
      case dk3 => k_asm
      case dk4 => k_asm
      case dk5 => k_asm
      case dhm => k_mem
      case dd1 => first | ((try dsimp only); omega) | decide
      case du1 => first | ((try dsimp only); omega) | decide
      intro h' tk' D' o' kvs' F' N' hD' hP' o1'
      k_steps
      refine Stop.mk ?_
      refine for_any ?_
      k_steps
      refine Stop.mk ?_
      rename_i yD96 yD105 yD106 yD107 yD108 yD109 yD118 yD119 yD120 yD121 yD122 yD123 yD124 yD125 yD126 yD127 yD128 yD130 yD131 yD132 yD133 yD134 yD135 yD136 yD137 yD138 yD139 yD140 yD141 yD142 yD143 yD144 yD145
      clear t09 t19 t29 t39 yB134 yB136 yB138 yB141 yB142 yD96 yB149 yB152 h2 tk2 hP yD106 yD107 yD108 yD109 h' tk' yD118 yD119 yD121 yD123 yD124 yD126 yD132 yD133 yD134 yD139 yD141 yD142 yD143 yD144
      revert yA0 yA1 yA2 yA3 yA4 yA7 yA9 yA10 yA11 yA14 yA23 yA26 yA31 yA45 yA48 yA49 yA50 Qh kQh T' a' b' c' d' ta' tb' tc' td' nT' yA80 x dx pb st ds pb0 f foc fod fd fsl c oc pl cp ocp ct oct t0 t1 t2 t3 t4 u0 u1 u2 u3 u4 u5 u6 ps hR hA hAp k5 k6 l5 s6 aA2 aA3 aA4 aA5 aA6 aA7 aA8 aA9 yB107 yB108 y09 y19 y29 y39 y49 tl9 tkk9 yB125 yB128 yB148 X2 nw yD105 D' o' kvs' hD' hP' o1' yD120 yD122 yD125 yD127 yD128 tk yD130 yD131 yD135 yD136 yD137 yD138 yD140 yD145
      exact hGo9.out
theorem fresh_P_stE : True := by
  w_top off
  trivial
local macro_rules | `(tactic| walk_at "exec Return some") => `(tactic| (k_here; refine Stop.out (P := _) ?_))
noncomputable def stE : {P : Prop // Hid P → stD.1} := by
  refine' ⟨_, fun hGo9 => ?gst⟩
  case gst =>
    have hkk0 : (fun (_ : Params → Frag) (_ : OpenLaw) => True) hd.heap_39 PySem.Challenge.rw_sc0065_01 := by k_fill; trivial
    clear hkk0
    intro yA0 yA1 yA2 yA3 yA4 yA7 yA9 yA10 yA11 yA14 yA23 yA26 yA31 yA45 yA48 yA49 yA50 Qh kQh T' a' b' c' d' ta' tb' tc' td' nT' yA80 x dx pb st ds pb0 f foc fod fd fsl c oc pl cp ocp ct oct t0 t1 t2 t3 t4 u0 u1 u2 u3 u4 u5 u6 ps hR hA hAp k5 k6 l5 s6 aA2 aA3 aA4 aA5 aA6 aA7 aA8 aA9 yB107 yB108 y09 y19 y29 y39 y49 tl9 tkk9 yB125 yB128 yB148 X2 nw yD105 D' o' kvs' hD' hP' o1' yD120 yD122 yD125 yD127 yD128 tk yD130 yD131 yD135 yD136 yD137 yD138 yD140 yD145
    (with_reducible rename Fr _ _ _ _ => kF)
    (with_reducible rename News _ _ _ _ => kN)
    (with_reducible rename PullTab _ _ => kPul)
    (with_reducible rename Obj.IsDictOf (PySem.strKind _ _) _ _ => kDic)
    refine' ring_for ?ehh ?ehx ?ehp kF (newsSub kN (subCons (List.mem_cons_of_mem _ (List.mem_cons_of_mem _ (List.mem_cons_of_mem _ (List.mem_cons_self ..)))) (subCons (List.mem_cons_of_mem _ (List.mem_cons_of_mem _ (List.mem_cons_self ..))) (subCons (List.mem_cons_of_mem _ (List.mem_cons_of_mem _ (List.mem_cons_of_mem _ (List.mem_cons_of_mem _ (List.mem_cons_of_mem _ (List.mem_cons_of_mem _ (List.mem_cons_self ..))))))) (subCons (List.mem_cons_self ..) (subCons (List.mem_cons_of_mem _ (List.mem_cons_of_mem _ (List.mem_cons_of_mem _ (List.mem_cons_of_mem _ (List.mem_cons_self ..))))) (subCons (List.mem_cons_of_mem _ (List.mem_cons_of_mem _ (List.mem_cons_of_mem _ (List.mem_cons_of_mem _ (List.mem_cons_of_mem _ (List.mem_cons_of_mem _ (List.mem_cons_of_mem _ (List.mem_cons_of_mem _ (List.mem_cons_self ..))))))))) (subCons (List.mem_cons_of_mem _ (List.mem_cons_of_mem _ (List.mem_cons_of_mem _ (List.mem_cons_of_mem _ (List.mem_cons_of_mem _ (List.mem_cons_of_mem _ (List.mem_cons_of_mem _ (List.mem_cons_of_mem _ (List.mem_cons_of_mem _ (List.mem_cons_self ..)))))))))) (subCons (List.mem_cons_of_mem _ (List.mem_cons_of_mem _ (List.mem_cons_of_mem _ (List.mem_cons_of_mem _ (List.mem_cons_of_mem _ (List.mem_cons_of_mem _ (List.mem_cons_of_mem _ (List.mem_cons_of_mem _ (List.mem_cons_of_mem _ (List.mem_cons_of_mem _ (List.mem_cons_self ..))))))))))) (subCons (List.mem_cons_of_mem _ (List.mem_cons_of_mem _ (List.mem_cons_of_mem _ (List.mem_cons_of_mem _ (List.mem_cons_of_mem _ (List.mem_cons_of_mem _ (List.mem_cons_of_mem _ (List.mem_cons_of_mem _ (List.mem_cons_of_mem _ (List.mem_cons_of_mem _ (List.mem_cons_of_mem _ (List.mem_cons_self ..)))))))))))) (subCons (List.mem_cons_of_mem _ (List.mem_cons_of_mem _ (List.mem_cons_of_mem _ (List.mem_cons_of_mem _ (List.mem_cons_of_mem _ (List.mem_cons_of_mem _ (List.mem_cons_of_mem _ (List.mem_cons_of_mem _ (List.mem_cons_of_mem _ (List.mem_cons_of_mem _ (List.mem_cons_of_mem _ (List.mem_cons_of_mem _ (List.mem_cons_self ..))))))))))))) (subCons (List.mem_cons_of_mem _ (List.mem_cons_of_mem _ (List.mem_cons_of_mem _ (List.mem_cons_of_mem _ (List.mem_cons_of_mem _ (List.mem_cons_of_mem _ (List.mem_cons_of_mem _ (List.mem_cons_of_mem _ (List.mem_cons_of_mem _ (List.mem_cons_of_mem _ (List.mem_cons_of_mem _ (List.mem_cons_of_mem _ (List.mem_cons_of_mem _ (List.mem_cons_self ..)))))))))))))) (subCons (List.mem_cons_of_mem _ (List.mem_cons_of_mem _ (List.mem_cons_of_mem _ (List.mem_cons_of_mem _ (List.mem_cons_of_mem _ (List.mem_cons_of_mem _ (List.mem_cons_of_mem _ (List.mem_cons_of_mem _ (List.mem_cons_of_mem _ (List.mem_cons_of_mem _ (List.mem_cons_of_mem _ (List.mem_cons_of_mem _ (List.mem_cons_of_mem _ (List.mem_cons_of_mem _ (List.mem_cons_self ..))))))))))))))) (subCons (List.mem_cons_of_mem _ (List.mem_cons_of_mem _ (List.mem_cons_of_mem _ (List.mem_cons_of_mem _ (List.mem_cons_of_mem _ (List.mem_cons_of_mem _ (List.mem_cons_of_mem _ (List.mem_cons_of_mem _ (List.mem_cons_of_mem _ (List.mem_cons_of_mem _ (List.mem_cons_of_mem _ (List.mem_cons_of_mem _ (List.mem_cons_of_mem _ (List.mem_cons_of_mem _ (List.mem_cons_of_mem _ (List.mem_cons_self ..)))))))))))))))) (subCons (List.mem_cons_of_mem _ (List.mem_cons_of_mem _ (List.mem_cons_of_mem _ (List.mem_cons_of_mem _ (List.mem_cons_of_mem _ (List.mem_cons_of_mem _ (List.mem_cons_of_mem _ (List.mem_cons_of_mem _ (List.mem_cons_of_mem _ (List.mem_cons_of_mem _ (List.mem_cons_of_mem _ (List.mem_cons_of_mem _ (List.mem_cons_of_mem _ (List.mem_cons_of_mem _ (List.mem_cons_of_mem _ (List.mem_cons_of_mem _ (List.mem_cons_self ..))))))))))))))))) (subCons (List.mem_cons_of_mem _ (List.mem_cons_of_mem _ (List.mem_cons_of_mem _ (List.mem_cons_of_mem _ (List.mem_cons_of_mem _ (List.mem_cons_of_mem _ (List.mem_cons_of_mem _ (List.mem_cons_of_mem _ (List.mem_cons_of_mem _ (List.mem_cons_of_mem _ (List.mem_cons_of_mem _ (List.mem_cons_of_mem _ (List.mem_cons_of_mem _ (List.mem_cons_of_mem _ (List.mem_cons_of_mem _ (List.mem_cons_of_mem _ (List.mem_cons_of_mem _ (List.mem_cons_self ..)))))))))))))))))) (subCons (List.mem_cons_of_mem _ (List.mem_cons_of_mem _ (List.mem_cons_of_mem _ (List.mem_cons_of_mem _ (List.mem_cons_of_mem _ (List.mem_cons_of_mem _ (List.mem_cons_of_mem _ (List.mem_cons_of_mem _ (List.mem_cons_of_mem _ (List.mem_cons_of_mem _ (List.mem_cons_of_mem _ (List.mem_cons_of_mem _ (List.mem_cons_of_mem _ (List.mem_cons_of_mem _ (List.mem_cons_of_mem _ (List.mem_cons_of_mem _ (List.mem_cons_of_mem _ (List.mem_cons_of_mem _ (List.mem_cons_self ..))))))))))))))))))) (subCons (List.mem_cons_of_mem _ (List.mem_cons_of_mem _ (List.mem_cons_of_mem _ (List.mem_cons_of_mem _ (List.mem_cons_of_mem _ (List.mem_cons_of_mem _ (List.mem_cons_of_mem _ (List.mem_cons_of_mem _ (List.mem_cons_of_mem _ (List.mem_cons_of_mem _ (List.mem_cons_of_mem _ (List.mem_cons_of_mem _ (List.mem_cons_of_mem _ (List.mem_cons_of_mem _ (List.mem_cons_of_mem _ (List.mem_cons_of_mem _ (List.mem_cons_of_mem _ (List.mem_cons_of_mem _ (List.mem_cons_of_mem _ (List.mem_cons_self ..)))))))))))))))))))) (subCons (List.mem_cons_of_mem _ (List.mem_cons_of_mem _ (List.mem_cons_of_mem _ (List.mem_cons_of_mem _ (List.mem_cons_of_mem _ (List.mem_cons_of_mem _ (List.mem_cons_of_mem _ (List.mem_cons_of_mem _ (List.mem_cons_of_mem _ (List.mem_cons_of_mem _ (List.mem_cons_of_mem _ (List.mem_cons_of_mem _ (List.mem_cons_of_mem _ (List.mem_cons_of_mem _ (List.mem_cons_of_mem _ (List.mem_cons_of_mem _ (List.mem_cons_of_mem _ (List.mem_cons_of_mem _ (List.mem_cons_of_mem _ (List.mem_cons_of_mem _ (List.mem_cons_self ..))))))))))))))))))))) subNil))))))))))))))))))) (List.mem_cons_self ..) ?ehits ⟨?ef1⟩ ⟨?ef2⟩ ⟨?ef3⟩ ?estep ?ehQ
    case ehh => exact rfl
    case ehx => exact rfl
    case ehp => exact rfl
    case ehits => exact .cons _ _ (.cons _ _ (.cons _ _ (.cons _ _ (.cons _ _ (.cons _ _ (.cons _ _ (.cons _ _ (.cons _ _ (.cons _ _ (.cons _ _ (.cons _ _ (.cons _ _ (.cons _ _ (.cons _ _ (.cons _ _ (.cons _ _ (.cons _ _ (.cons _ _ (.cons _ _ (.cons _ _ (.cons _ _ (.cons _ _ (.cons _ _ .nil)))))))))))))))))))))))
    case ef1 =>
      (repeat' (first | exact List.forall_mem_nil _ | refine' List.forall_mem_cons.mpr ⟨?_, ?_⟩))
      all_goals k_ne
    case ef2 =>
      (repeat' (first | exact List.forall_mem_nil _ | refine' List.forall_mem_cons.mpr ⟨?_, ?_⟩))
      all_goals k_ne
    case ef3 =>
      (repeat' (first | exact List.forall_mem_nil _ | refine' List.forall_mem_cons.mpr ⟨?_, ?_⟩))
      all_goals k_ne
    case estep =>
      intro i9 k9 q9 own s9 vt vl nt nl nw a9 b9 c9 d9 hi9 ho9 hb9 hk9 hT hL F1 N1 o1 o2 o3
      dsimp only [List.cons_append, List.nil_append] at N1 o1 o2 o3
      k_steps
      refine Stop.mk ?_
      (with_reducible rename Fr _ _ _ _ => kF1)
      (with_reducible rename News _ _ _ _ => kN1)
      refine' use_ring ?r1 kF1 ?r3 kN1 ?r5 ?mD ?mx ?md o1 o2 o3 ?rd ?ru kDic (pull_of kPul hb9.1) (pull_of kPul hb9.2.1) (pull_of kPul hb9.2.2.1) (pull_of kPul hb9.2.2.2) (pv_J _ _ _ _ _) (pv_J _ _ _ _ _) (pv_J _ _ _ _ _) (pv_J _ _ _ _ _) hT hL (topsN_ok _ _).1 (lowsN_ok _ _).1 ?rtn ?rln ?rA ?rP hk9 ?_
      case r1 => k_asm
      case r3 => k_asm
      case r5 => k_asm
      case mD => k_mem
      case mx => k_mem
      case md => k_mem
      case rd => first | ((try dsimp only); omega) | decide
      case ru => first | ((try dsimp only); omega) | decide
      case rtn => rw [(topsN_ok _ _).2.2]; omega
      case rln => rw [(lowsN_ok _ _).2.2]; omega
      case rA => exact hA.tail.tail.tail.tail.tail.tail.tail
      case rP =>
        simp only [Apart, Off, and_true]
        (repeat' apply And.intro)
        all_goals k_ne
      intro h2 tk2 vt2 vl2 nt2 nl2 nw2 F2 N2 hT2 hL2
      refine wpAny_execs_nil ⟨rfl, h2, tk2, vt2, vl2, nt2, nl2, nw2, rfl, F2, N2, hT2, hL2⟩
    case ehQ =>
      intro h2 tk2 X2 vt vl nt nl nw2 F2 N2 hT2 hL2
      k_steps
      refine Stop.mk ?_
      refine' comp_wait (pb := pb) (n := 1) ?eU ?eS ?eturn ?eoff ?efin
      case eU => k_updF
      case eS => exact fun _ => trivial
      case eoff => exact fun _ _ _ _ _ h => h
      case eturn =>
        intro y9 vs9 nw9 v9 I9 oI9 C9 oC9 D9 oD9 m9 h9 tk9 E9 Q9 hl9 hC9 hx9 F9 N9 off9 ne9 hq9
        (try dsimp only at N9 off9 hq9)
        k_steps
        refine Stop.mk ?_
        refine' use_gt1 ?ek1 ?ek2 ?ek3 ?ek4 ?ek5 ?em1 ?em2 ?eU ?ed1 ?eu1 ?eha ?ehn ?_
        case ek1 => k_asm
        case ek2 => k_asm
        case ek3 => k_asm
        case ek4 => k_asm
        case ek5 => k_asm
        case em1 => k_mem
        case em2 => k_mem
        case eU => k_updF
        case ed1 => first | ((try dsimp only); omega) | decide
        case eu1 => first | ((try dsimp only); omega) | decide
        case eha => exact hA.tail.tail.tail.tail.tail.tail.tail
        case ehn => ((try simp only [List.length_cons, List.length_nil]); omega)
        intro h' tk' nw' F' N'
        (try dsimp only at N')
        k_steps
        (with_reducible rename News _ _ _ _ => kN9)
        (with_reducible rename Fr _ _ _ _ => kF9)
        exact hq9 _ _ _ kF9 kN9
      case efin =>
        intro nw9
        (try dsimp only)
        refine LCg.CompRest.succ ?_
        intro v' I' oI' C' oC' D' m' h' tk' E' hv' hC' hx' F' N' off' ne'
        obtain ⟨t9', hv9'⟩ := hv'
        subst hv9'
        replace ne' := Ne3.mk ne'.1 ne'.2.1 ne'.2.2
        k_steps
        refine Stop.mk ?_
        refine' use_gt2 ?elk1 ?elk2 ?elk3 ?elk4 ?elk5 ?elhR ?elhS ?elm1 ?elm2 ?elm3 ?elm4 ?elm5 ?elm6 ?elm7 ?elm8 ?elU1 ?elU2 ?eld1 ?elu1 ?elhA ?_
        case elk1 => k_asm
        case elk2 => k_asm
        case elk3 => k_asm
        case elk4 => k_asm
        case elk5 => k_asm
        case elhA => with_reducible assumption
        case elhR => with_reducible assumption
        case elm1 => k_mem
        case elm2 => k_mem
        case elm3 => k_mem
        case elm4 => k_mem
        case elm5 => k_mem
        case elm6 => k_mem
        case elm7 => k_mem
        case elm8 => k_mem
        case elU1 => k_updF
        case elU2 => (intro o9; (try dsimp only); k_updF)
        case elhS => with_reducible assumption
        case eld1 => first | ((try dsimp only); omega) | decide
        case elu1 => first | ((try dsimp only); omega) | decide
        intro h' tk' tl' tk'' t' F' N'
        (try dsimp only at N')
        k_steps
        refine Stop.mk ?_
        refine LCg.CompRest.zero ?_
        k_steps
        refine Stop.mk ?_
        rename_i yE88 yE91 yE119 yE120 yE123 yE124 yE125 yE126 yE127 yE128 yE129 yE130 yE131 yE132 yE140 yE141 yE144 yE145 yE148 yE158 yE159 yE160 yE161 yE162 yE163
        clear yA45 hR hA hAp k5 s6 aA2 aA3 aA4 aA5 aA6 aA7 aA8 aA9 yB108 tl9 tkk9 yB128 yB148 nw yD105 kvs' kDic kPul o1' yD122 yD127 yD128 yD130 yD131 yD136 kF kN yD140 yD145 h2 tk2 nw2 yE119 yE120 yE123 yE124 yE125 yE126 yE127 yE128 yE129 yE130 yE131 yE132 I' oI' C' oC' D' m' yE140 yE141 E' hC' yE144 yE145 t9' hx' yE148 qk ek h' tk' F' N' yE163
        revert yA0 yA1 yA2 yA3 yA4 yA7 yA9 yA10 yA11 yA14 yA23 yA26 yA31 yA48 yA49 yA50 Qh kQh T' a' b' c' d' ta' tb' tc' td' nT' yA80 x dx pb st ds pb0 f foc fod fd fsl c oc pl cp ocp ct oct t0 t1 t2 t3 t4 u0 u1 u2 u3 u4 u5 u6 ps k6 l5 yB107 y09 y19 y29 y39 y49 yB125 yE88 yE91 o' yD120 yD125 tk yD135 X2 vt vl nt nl hT2 hL2 nw9 tl' tk'' t' yE158 yE159 yE160 yE161 yE162
        exact hGo9.out
end
theorem fresh_P_stF : True := by
  w_top off
  trivial
local macro_rules | `(tactic| walk_at "compareOp Eq ref ref") => `(tactic| (k_here; refine Stop.out (P := _) ?_))
local macro_rules | `(tactic| walk_at "CompEnd") => `(tactic| (k_dflt (refine' LCg.CompEnd.intro (by k_asm) (by k_asm) _ ?csub ?coff ?csrc ?_; (case coff => lcg_off); (case csub => with_reducible first | exact fun _ hp => hp | exact fun _ hp => List.mem_cons_of_mem _ hp | exact fun _ hp => List.mem_cons_of_mem _ (List.mem_cons_of_mem _ hp)); (case csrc => lcg_src))))
theorem stF : stE.1 := by
  have hkk0 : (fun (_ : Params → Frag) (_ : OpenLaw) => True) hd.heap_39 PySem.Challenge.rw_sc0065_01 := by k_fill; trivial
  clear hkk0
  intro yA0 yA1 yA2 yA3 yA4 yA7 yA9 yA10 yA11 yA14 yA23 yA26 yA31 yA48 yA49 yA50 Qh kQh T' a' b' c' d' ta' tb' tc' td' nT' yA80 x dx pb st ds pb0 f foc fod fd fsl c oc pl cp ocp ct oct t0 t1 t2 t3 t4 u0 u1 u2 u3 u4 u5 u6 ps k6 l5 yB107 y09 y19 y29 y39 y49 yB125 yE88 yE91 o' yD120 yD125 tk yD135 X2 vt vl nt nl hT2 hL2 nw9 tl' tk'' t' yE158 yE159 yE160 yE161 yE162
  k_steps
  refine Stop.mk ?_
  refine comp_tot (fun n t => .int (2 * (dotsL (n % 192)).sum - 1 - ((n : Nat) : Int).fmod 4) t) ?hSF ?turnF ?finF
  case hSF => lcg_src
  case turnF =>
    intro n9 tn9 I9 oI9 C9 oC9 D9 oD9 m9 h9 tk9 E9 Q9 hC9 hx9 F9 N9 off9 ne9 hq9
    k_steps
    refine Stop.mk ?_
    refine' use_dot2 ?fk1 ?fk2 ?fk3 ?fk4 ?fk5 ?fhz ?fd1 ?fu1 ?_
    case fk1 => k_asm
    case fk2 => k_asm
    case fk3 => k_asm
    case fk4 => k_asm
    case fk5 => k_asm
    case fhz => exact rfl
    case fd1 => first | ((try dsimp only); omega) | decide
    case fu1 => first | ((try dsimp only); omega) | decide
    intro h' tk' D' vs' nD' F' N' hI' o1' hs'
    k_steps
    (with_reducible rename News _ _ _ _ => kN9)
    (with_reducible rename Fr _ _ _ _ => kF9)
    first
    | exact hq9 _ _ _ kF9 kN9
    | exact hq9 _ _ _ kF9 (newsSub kN9 fun p hp => List.mem_cons_of_mem _ hp)
    | exact hq9 _ _ _ kF9 (newsSub kN9 fun p hp => List.mem_cons_of_mem _ (List.mem_cons_of_mem _ hp))
  case finF =>
    intro t09 t19 t29 t39
    k_steps
    refine Stop.mk ?_
    refine' use_sea ?fsk1 ?fsk2 ?fsk3 ?fsk4 ?fsk5 ?fshm ?fsd1 ?fsu1 ?_
    case fsk1 => k_asm
    case fsk2 => k_asm
    case fsk3 => k_asm
    case fsk4 => k_asm
    case fsk5 => k_asm
    case fshm => k_mem
    case fsd1 => first | ((try dsimp only); omega) | decide
    case fsu1 => first | ((try dsimp only); omega) | decide
    intro h' tk' R' T9' Lo' nR' vt' vl' tt' tl' nt' nl' F' N' i1' i2' q1' q2' q3' q4'
    k_steps
    refine Stop.mk ?_
    (with_reducible rename News _ _ _ _ => kN)
    (with_reducible rename List.Perm _ (List.map (topC _) _) => kP1)
    (with_reducible rename List.Perm _ (List.map (lowC _) _) => kP2)
    simp only [pv_dots] at kP1 kP2
    have e1 := tops_are (pf := fun j => PV (msJ _ _ _ _ j)) (fun j => pv_J _ _ _ _ j) kP1 (by assumption)
    have e2 := lows_are (pf := fun j => PV (msJ _ _ _ _ j)) (fun j => pv_J _ _ _ _ j) kP2 (by assumption)
    refine' eq_two ?fN ?fma ?fmb ?fm1 ?fm2 ?fm3 ?fm4 hT2 hL2 ?fi3 ?fi4 ?fhu ?fgo
    case fN => exact kN
    case fma => k_mem
    case fmb => k_mem
    case fm1 => k_mem
    case fm2 => k_mem
    case fm3 => k_mem
    case fm4 => k_mem
    case fi3 =>
      rw [← e1]
      assumption
    case fi4 =>
      rw [← e2]
      assumption
    case fhu => first | ((try dsimp only); k_units) | decide
    case fgo =>
      k_steps
      refine kQh.out _ _ ?_
      k_steps
      all_goals (try k_data)
      all_goals w_report
theorem lawh : PySem.Challenge.rw_sc0065_01.Holds := stA.2 ⟨stB.2 ⟨stD.2 ⟨stE.2 ⟨stF⟩⟩⟩⟩
end Mine
end
end
open PySem PySem.W PyProof.Rows
theorem PySem.Challenge.cw_sc0065_01_holds : PySem.Challenge.rw_sc0065_01.Holds := by
  exact Mine.lawh
