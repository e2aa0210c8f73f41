import PyProof.Rows.All
import Wide.All
import OpenK.AllK
import Wide.FinOn
import PySem.Challenge.RW_im0054_01
open PySem PySem.W PyProof.Rows PySem.Spec PySem.Calls
set_option Elab.async false
set_option maxRecDepth 100000
set_option maxHeartbeats 8000000
open_top hd for PySem.Challenge.rw_im0054_01
namespace Mine
section -- CtcBase
theorem wp_weak {α : Type} {M : Model} {A A' : Around} {t : Sem α} {Q : α → Shared → Prop} {E : Value → Shared → Prop} {s : Shared}
    (hh : A.handled = A'.handled) (hd : A.depth ≤ A'.depth) (hf : A.frames = A'.frames) (hg : A.guards = A'.guards) (hu : A.units ≤ A'.units)
    (h : wpAny M A' t Q E s) : wpAny M A t Q E s := fun Γ p hΓ => h Γ p
  ⟨hΓ.1.trans hh, Nat.le_trans hΓ.2.1 hd, fun l hl => hΓ.2.2.1 l (hf.trans hl), fun g hg' => hΓ.2.2.2.1 g (hg.trans hg'), Nat.le_trans hΓ.2.2.2.2 hu⟩

theorem code_weak {M : Model} {A A' : Around} {c : Code} {R : Result → Shared → Prop} {s : Shared}
    (hh : A.handled = A'.handled) (hd : A.depth ≤ A'.depth) (hf : A.frames = A'.frames) (hg : A.guards = A'.guards) (hu : A.units ≤ A'.units)
    (h : codeAny M A' c R s) : codeAny M A c R s := fun Γ p hc hΓ => h Γ p hc
  ⟨hΓ.1.trans hh, Nat.le_trans hΓ.2.1 hd, fun l hl => hΓ.2.2.1 l (hf.trans hl), fun g hg' => hΓ.2.2.2.1 g (hg.trans hg'), Nat.le_trans hΓ.2.2.2.2 hu⟩

noncomputable abbrev loose0 : List Str := looseW hd.view_39 [Str.ofString "HTMLUnicodeInputStream", Str.ofString "_law_SIGNS"]

/-- what a call of the text's def at f does, whatever the caller's frame is -/
def Ctc (f : Addr) (dp un : Nat) (vs : List Value) (pre : Params → List (Addr × Obj)) (Post : Params → Value → List (Addr × Obj) → Prop) : Prop :=
  ∀ (w : World) (mean : ExcName → Option Value) (mg mb : Str → Option Value) (gd : Option (List Code)) (cn : Str) (cs : Scope) (L a : Addr) (ccd : Value) (cl : List (Str × Addr)) (outer : List Env) (A₀ : Around)
    (base h₀ : Heap) (m : Str → Option Value) (s : Shared) (R : Result → Shared → Prop) (own : List (Addr × Obj)),
    Below A₀ base outer h₀ → Fr h₀ L s.heap m → (hd.heap_39 w.params).In h₀ → News h₀ L s.heap (pre w.params ++ own) → Top hd.view_39 loose0 mean mg mb h₀ → cs.kind = .function → OwnOff own ((pre w.params).map (·.1)) →
    (∀ r pre' h' tk', Post w.params r pre' → Fr h₀ L h' m → News h₀ L h' (pre' ++ own) → R (.ok (.ret r)) { s with heap := h', toks := tk' }) →
    codeAny (model PySem.Challenge.rw_im0054_01.row.prog w) (ktrTop dp un gd cn cs L a ccd cl outer) (.call (.ref f) ⟨vs, []⟩) R s

section
variable {f : Addr} {dp un : Nat} {vs : List Value} {pre : Params → List (Addr × Obj)} {Post : Params → Value → List (Addr × Obj) → Prop}
  {w : World} {mean : ExcName → Option Value} {mg mb : Str → Option Value} {A : Around} {cn : Str} {cs : Scope} {L a : Addr} {ccd : Value} {cl : List (Str × Addr)} {outer : List Env} {A₀ : Around}
  {base h₀ : Heap} {m : Str → Option Value} {s : Shared} {R : Result → Shared → Prop} {Q E : Value → Shared → Prop} {own news : List (Addr × Obj)}
theorem Ctc.code (C : Ctc f dp un vs pre Post) (hh : A.handled = none) (hf : A.frames = some (envX cn cs L a ccd cl :: outer)) (hd' : A.depth ≤ dp) (hu : A.units ≤ un)
    (B : Below A₀ base outer h₀) (F : Fr h₀ L s.heap m) (X : (hd.heap_39 w.params).In h₀) (N : News h₀ L s.heap news) (hn : ∀ p ∈ pre w.params ++ own, p ∈ news) (T : Top hd.view_39 loose0 mean mg mb h₀) (hk : cs.kind = .function)
    (ho : OwnOff own ((pre w.params).map (·.1)))
    (h : ∀ r pre' h' tk', Post w.params r pre' → Fr h₀ L h' m → News h₀ L h' (pre' ++ own) → R (.ok (.ret r)) { s with heap := h', toks := tk' }) :
    codeAny (model PySem.Challenge.rw_im0054_01.row.prog w) A (.call (.ref f) ⟨vs, []⟩) R s :=
  code_weak (A' := ktrTop dp un A.guards cn cs L a ccd cl outer) hh hd' hf rfl hu (C w mean mg mb A.guards cn cs L a ccd cl outer A₀ base h₀ m s R own B F X (fun p hp => N p (hn p hp)) T hk ho h)
theorem Ctc.use (C : Ctc f dp un vs pre Post) (hh : A.handled = none) (hf : A.frames = some (envX cn cs L a ccd cl :: outer)) (hd' : A.depth ≤ dp) (hu : A.units ≤ un)
    (B : Below A₀ base outer h₀) (F : Fr h₀ L s.heap m) (X : (hd.heap_39 w.params).In h₀) (N : News h₀ L s.heap news) (hn : ∀ p ∈ pre w.params ++ own, p ∈ news) (T : Top hd.view_39 loose0 mean mg mb h₀) (hk : cs.kind = .function)
    (ho : OwnOff own ((pre w.params).map (·.1)))
    (h : ∀ r pre' h' tk', Post w.params r pre' → Fr h₀ L h' m → News h₀ L h' (pre' ++ own) → Q r { s with heap := h', toks := tk' }) :
    wpAny (model PySem.Challenge.rw_im0054_01.row.prog w) A (call (.ref f) vs) Q E s := wpAny_call (C.code hh hf hd' hu B F X N hn T hk ho h)
theorem Ctc.use0 (C : Ctc f dp un vs pre Post) (hh : A.handled = none) (hf : A.frames = some (envX cn cs L a ccd cl :: outer)) (hd' : A.depth ≤ dp) (hu : A.units ≤ un)
    (B : Below A₀ base outer h₀) (F : Fr h₀ L s.heap m) (X : (hd.heap_39 w.params).In h₀) (N : News h₀ L s.heap (pre w.params ++ own)) (T : Top hd.view_39 loose0 mean mg mb h₀) (hk : cs.kind = .function)
    (ho : OwnOff own ((pre w.params).map (·.1)))
    (h : ∀ r pre' h' tk', Post w.params r pre' → Fr h₀ L h' m → News h₀ L h' (pre' ++ own) → Q r { s with heap := h', toks := tk' }) :
    wpAny (model PySem.Challenge.rw_im0054_01.row.prog w) A (call (.ref f) vs) Q E s := C.use hh hf hd' hu B F X N (fun _ h => h) T hk ho h
/-- the same by a method object -/
theorem Ctc.meth0 {q : Addr} {self : Value} {pos : List Value} (C : Ctc f dp un (self :: pos) pre Post) (hq : (q, methodObj (.ref f) self) ∈ pre w.params ++ own) (hh : A.handled = none) (hf : A.frames = some (envX cn cs L a ccd cl :: outer)) (hd' : A.depth ≤ dp) (hu : A.units ≤ un)
    (B : Below A₀ base outer h₀) (F : Fr h₀ L s.heap m) (X : (hd.heap_39 w.params).In h₀) (N : News h₀ L s.heap (pre w.params ++ own)) (T : Top hd.view_39 loose0 mean mg mb h₀) (hk : cs.kind = .function)
    (ho : OwnOff own ((pre w.params).map (·.1)))
    (h : ∀ r pre' h' tk', Post w.params r pre' → Fr h₀ L h' m → News h₀ L h' (pre' ++ own) → Q r { s with heap := h', toks := tk' }) :
    wpAny (model PySem.Challenge.rw_im0054_01.row.prog w) A (call (.ref q) pos) Q E s := call_meth N hq (C.code hh hf hd' hu B F X N (fun _ h => h) T hk ho h)
theorem Ctc.use1 {e : Addr × Obj} (C : Ctc f dp un vs pre Post) (hh : A.handled = none) (hf : A.frames = some (envX cn cs L a ccd cl :: outer)) (hd' : A.depth ≤ dp) (hu : A.units ≤ un)
    (B : Below A₀ base outer h₀) (F : Fr h₀ L s.heap m) (X : (hd.heap_39 w.params).In h₀) (N : News h₀ L s.heap (e :: (pre w.params ++ own))) (T : Top hd.view_39 loose0 mean mg mb h₀) (hk : cs.kind = .function)
    (ho : OwnOff own ((pre w.params).map (·.1)))
    (h : ∀ r pre' h' tk', Post w.params r pre' → Fr h₀ L h' m → News h₀ L h' (pre' ++ own) → Q r { s with heap := h', toks := tk' }) :
    wpAny (model PySem.Challenge.rw_im0054_01.row.prog w) A (call (.ref f) vs) Q E s := C.use hh hf hd' hu B F X N (fun _ h => .tail _ h) T hk ho h
theorem Ctc.meth1 {e : Addr × Obj} {q : Addr} {self : Value} {pos : List Value} (C : Ctc f dp un (self :: pos) pre Post) (hq : (q, methodObj (.ref f) self) ∈ pre w.params ++ own) (hh : A.handled = none) (hf : A.frames = some (envX cn cs L a ccd cl :: outer)) (hd' : A.depth ≤ dp) (hu : A.units ≤ un)
    (B : Below A₀ base outer h₀) (F : Fr h₀ L s.heap m) (X : (hd.heap_39 w.params).In h₀) (N : News h₀ L s.heap (e :: (pre w.params ++ own))) (T : Top hd.view_39 loose0 mean mg mb h₀) (hk : cs.kind = .function)
    (ho : OwnOff own ((pre w.params).map (·.1)))
    (h : ∀ r pre' h' tk', Post w.params r pre' → Fr h₀ L h' m → News h₀ L h' (pre' ++ own) → Q r { s with heap := h', toks := tk' }) :
    wpAny (model PySem.Challenge.rw_im0054_01.row.prog w) A (call (.ref q) pos) Q E s := call_meth N (.tail _ hq) (C.code hh hf hd' hu B F X N (fun _ h => .tail _ h) T hk ho h)
theorem Ctc.use2k {e1 e2 : Addr × Obj} (C : Ctc f dp un vs pre Post) (hh : A.handled = none) (hf : A.frames = some (envX cn cs L a ccd cl :: outer)) (hd' : A.depth ≤ dp) (hu : A.units ≤ un)
    (B : Below A₀ base outer h₀) (F : Fr h₀ L s.heap m) (X : (hd.heap_39 w.params).In h₀) (N : News h₀ L s.heap (e1 :: e2 :: (pre w.params ++ own))) (T : Top hd.view_39 loose0 mean mg mb h₀) (hk : cs.kind = .function)
    (h1 : ∀ b ∈ (pre w.params).map (·.1), e1.1 ≠ b) (h2 : ∀ b ∈ (pre w.params).map (·.1), e2.1 ≠ b) (ho : OwnOff own ((pre w.params).map (·.1)))
    (h : ∀ r pre' h' tk', Post w.params r pre' → Fr h₀ L h' m → News h₀ L h' (e1 :: e2 :: (pre' ++ own)) → Q r { s with heap := h', toks := tk' }) :
    wpAny (model PySem.Challenge.rw_im0054_01.row.prog w) A (call (.ref f) vs) Q E s := by
  refine C.use (own := e1 :: e2 :: own) hh hf hd' hu B F X N ?_ T hk ?_ fun r pre' h' tk' hp F' N' => h r pre' h' tk' hp F' fun p hp' => N' p ?_
  · intro p hp
    rcases List.mem_append.mp hp with hp | hp
    · exact .tail _ (.tail _ (List.mem_append_left _ hp))
    · rcases List.mem_cons.mp hp with rfl | hp
      · exact .head _
      · rcases List.mem_cons.mp hp with rfl | hp
        · exact .tail _ (.head _)
        · exact .tail _ (.tail _ (List.mem_append_right _ hp))
  · intro p hp b hb
    rcases List.mem_cons.mp hp with rfl | hp
    · exact h1 b hb
    · rcases List.mem_cons.mp hp with rfl | hp
      · exact h2 b hb
      · exact ho p hp b hb
  · rcases List.mem_cons.mp hp' with rfl | hp'
    · exact List.mem_append_right _ (.head _)
    · rcases List.mem_cons.mp hp' with rfl | hp'
      · exact List.mem_append_right _ (.tail _ (.head _))
      · rcases List.mem_append.mp hp' with hp' | hp'
        · exact List.mem_append_left _ hp'
        · exact List.mem_append_right _ (.tail _ (.tail _ hp'))
end

def inv (n : Int) : Bool := decide ((1 ≤ n ∧ n ≤ 8) ∨ n = 11 ∨ (14 ≤ n ∧ n ≤ 31) ∨ (127 ≤ n ∧ n ≤ 159) ∨ (64976 ≤ n ∧ n ≤ 65007) ∨ (n % 65536 = 65534 ∨ n % 65536 = 65535) ∨ (55296 ≤ n ∧ n ≤ 57343))

structure Fx where
  x : Nat
  dx : Nat
  q : Nat
  nl : Nat
  y : Nat
  dy : Nat
  e : Nat
  nlo : Obj
  k0 : Tok
  k1 : Tok
  k2 : Tok
  k3 : Tok
  k4 : Tok
  k5 : Tok
  k6 : Tok
  k7 : Tok
  k8 : Tok
  k9 : Tok
  kt : Tok
  kp : Tok
  text : Str
  tt : Tok
  o1 : dx < x
  o2 : x < q
  o3 : q < nl
  o4 : nl < dy
  o5 : dy < y
  o6 : y < e

abbrev sl (P : Params) (f : Fx) (chunk : Str) (tc : Tok) (size : Int) (ts : Tok) (off : Int) (tof : Tok) (errs : List Value) (ne : Nat) (pl : Int) (tpl : Tok) (pc : Int) (tpc : Tok) (buf : Value) (dp : Int) (tdp : Tok) : List (Addr × Obj) :=
  [(f.e, listOf errs.toArray ne), (f.y, instObj 45 f.dy),
   (f.dy, dictOf [{ hash := PyData.keyHash P (Str.ofString "text"), key := .str (Str.ofString "text") f.kt, val := .str f.text f.tt }, { hash := PyData.keyHash P (Str.ofString "place"), key := .str (Str.ofString "place") f.kp, val := .int dp tdp }] 2),
   (f.nl, f.nlo), (f.q, methodObj (.ref 120) (.ref f.x)), (f.x, instObj 138 f.dx),
   (f.dx, dictOf [{ hash := PyData.keyHash P (Str.ofString "reportCharacterErrors"), key := .str (Str.ofString "reportCharacterErrors") f.k0, val := .ref f.q },
     { hash := PyData.keyHash P (Str.ofString "newLines"), key := .str (Str.ofString "newLines") f.k1, val := .ref f.nl },
     { hash := PyData.keyHash P (Str.ofString "dataStream"), key := .str (Str.ofString "dataStream") f.k2, val := .ref f.y },
     { hash := PyData.keyHash P (Str.ofString "chunk"), key := .str (Str.ofString "chunk") f.k3, val := .str chunk tc },
     { hash := PyData.keyHash P (Str.ofString "chunkSize"), key := .str (Str.ofString "chunkSize") f.k4, val := .int size ts },
     { hash := PyData.keyHash P (Str.ofString "chunkOffset"), key := .str (Str.ofString "chunkOffset") f.k5, val := .int off tof },
     { hash := PyData.keyHash P (Str.ofString "errors"), key := .str (Str.ofString "errors") f.k6, val := .ref f.e },
     { hash := PyData.keyHash P (Str.ofString "prevNumLines"), key := .str (Str.ofString "prevNumLines") f.k7, val := .int pl tpl },
     { hash := PyData.keyHash P (Str.ofString "prevNumCols"), key := .str (Str.ofString "prevNumCols") f.k8, val := .int pc tpc },
     { hash := PyData.keyHash P (Str.ofString "_bufferedCharacter"), key := .str (Str.ofString "_bufferedCharacter") f.k9, val := buf }] 10)]
end
section -- StrR
structure Mark (P : Prop) : Prop where
  out : P
section
open Builtin Builtin.Str
def fromI (len : Nat) (i : Int) : Int := max 0 (if i < 0 then i + len else i)
theorem gives_count4 (x y : Str) (i j : Int) (t u v v' : Tok) : Gives («str.count» ⟨[.str x t, .str y u, .int i v, .int j v'], []⟩) (.int (occurrences x y (fromI x.length i).toNat (min (fromI x.length j).toNat x.length) (x.length + 1)).length) := .of_eq rfl
theorem gives_rfind4 (x y : Str) (i j : Int) (t u v v' : Tok) : Gives («str.rfind» ⟨[.str x t, .str y u, .int i v, .int j v'], []⟩) (.int (match lastOccurrence x y (fromI x.length i).toNat (min (fromI x.length j).toNat x.length) with | some i => (i : Int) | none => -1)) := by
  show Gives (match lastOccurrence x y (fromI x.length i).toNat (min (fromI x.length j).toNat x.length) with | some i => retInt i | none => (do rule "str.rfind.not-found"; retInt (-1))) _
  cases lastOccurrence x y (fromI x.length i).toNat (min (fromI x.length j).toNat x.length) with
  | none => exact .rule (.of_eq rfl)
  | some k => exact .of_eq rfl
variable {prog : Program} {w : World} {A : Around} {E : Value → Shared → Prop} {s : Shared} {x y : Str} {t u v v' : Tok} {i j : Int} {Q : Value → Shared → Prop}
theorem count4 (hq : ∀ (k : Int), 0 ≤ k → Q (.int k s.toks) { s with toks := s.toks + 1 }) : wpAny (model prog w) A (call (.builtin "str.count") [.str x t, .str y u, .int i v, .int j v']) Q E s :=
  call_gives F.slot_str_count (typeIs_str _ _ _) F.entry_str_count (F.args_str_count_4 _ _ _ _) (gives_count4 x y i j t u v v') (hq _ (Int.natCast_nonneg _))
theorem rfind4 (hq : ∀ (k : Int), Q (.int k s.toks) { s with toks := s.toks + 1 }) : wpAny (model prog w) A (call (.builtin "str.rfind") [.str x t, .str y u, .int i v, .int j v']) Q E s :=
  call_gives F.slot_str_rfind (typeIs_str _ _ _) F.entry_str_rfind (F.args_str_rfind_4 _ _ _ _) (gives_rfind4 x y i j t u v v') (hq _)
theorem noBool_method : typeLookup (.type "method") "__bool__" = pure none := by rw [typeLookup_type, builtinLookup_eq_fast]; kernel_rfl
theorem noLen_method : typeLookup (.type "method") "__len__" = pure none := by rw [typeLookup_type, builtinLookup_eq_fast]; kernel_rfl
theorem truthy_method {h₀ : Heap} {L q : Addr} {news : List (Addr × Obj)} {g self : Value} {Q : Bool → Shared → Prop} (N : News h₀ L s.heap news) (hq : (q, methodObj g self) ∈ news) (h : Q true s) : wpAny (model prog w) A (truthy (.ref q)) Q E s := by
  have hT : s.TypeIs (.ref q) "method" := ⟨_, (N _ hq).1, rfl⟩
  unfold truthy
  refine wpAny_bind (wpAny_callSpecial?_none (name := Str.ofString "__bool__") hT noBool_method ?_)
  refine wpAny_bind (wpAny_specialOf (name := Str.ofString "__len__") hT noLen_method ?_)
  exact wpAny_pure h
theorem execs_cons_tk {M : Model} {A : Around} {E : Value → Shared → Prop} {s : Shared} {st : Stmt} {rest : List Stmt} {env : Env} {Q : Flow → Shared → Prop} (hn : 1 ≤ s.toks)
    (h : ∀ tk, 1 ≤ tk → wpAny M A (exec st env) (fun f s' => 1 ≤ s'.toks → (match f with | .next => wpAny M A (execs rest env) Q E s' | f => Q f s')) E { s with toks := tk }) :
    wpAny M A (execs (st :: rest) env) Q E s :=
  wpAny_execs_cons (wpAny_with_toks hn (wpAny_mono (h s.toks hn) (fun _ _ x => x) (fun _ _ x _ => x)))
theorem replaceT {x y z : Str} {t u v : Tok} {Q : Value → Shared → Prop} (ht : 1 ≤ s.toks) (hu : @LE.le Nat _ 1 u) (hv : @LE.le Nat _ 1 v) (huv : @Ne Nat u v) (hyz : (y == z) = false) (hb : x.length ≤ 1048576) (hz : z.length ≤ 14)
    (hq : ∀ t' k, 1 ≤ k → Q (.str (Txt.replace x y z) t') { s with toks := k }) : wpAny (model prog w) A (call (.builtin "str.replace") [.str x t, .str y u, .str z v]) Q E s :=
  wpAny_with_toks ht (wpAny_mono (SC.replaceW (Q := fun v s' => 1 ≤ s'.toks → Q v s') (E := E) (Nat.ne_of_gt hu) (Nat.ne_of_gt hv) huv hyz hb hz (fun t' k hk => hq t' k hk)) (fun _ _ x => x) (fun _ _ x _ => x))
theorem lenT {x : Str} {t : Tok} {Q : Value → Shared → Prop} (hl : x.length ≤ 1048576) (h : Q (.int x.length (s.toks + 1)) { s with toks := s.toks + 1 + 1 }) : wpAny (model prog w) A (call (.builtin "len") [.str x t]) Q E s := PyProof.Rows.len_str (by omega) h
end
end
section -- Plain
section
open PySem.StrLaws Builtin Builtin.Str

def crlf : List Nat → List Nat
  | 13 :: 10 :: r => 10 :: crlf r
  | c :: r => c :: crlf r
  | [] => []
def cr1 (c : Nat) : Nat := if c = 13 then 10 else c
def mendL (l : List Nat) : List Nat := (crlf l).map cr1

theorem crlf_cons {c : Nat} {r : List Nat} (h : ¬ (c = 13 ∧ r.head? = some 10)) : crlf (c :: r) = c :: crlf r :=
  crlf.eq_2 c r (fun r1 h1 h2 => h ⟨h1, by rw [h2]; rfl⟩)

theorem crlf_hit (r : List Nat) : crlf (13 :: 10 :: r) = 10 :: crlf r := by
  rw [crlf]

theorem at_two {L : List Nat} {x : Str} (hx : x.cps.toList = L) (k : Nat) : At x ⟨#[13, 10]⟩ x.length k ↔ (L.drop k).take 2 = [13, 10] := by
  have hn : x.cps.toList.length = x.length := by simp [Str.length]
  constructor
  · rintro ⟨h1, h2⟩
    rw [subAt_eq] at h2
    have := eq_of_beq h2
    rw [hx] at this
    exact this
  · intro h
    refine ⟨?_, ?_⟩
    · have hl := congrArg List.length h
      rw [List.length_take, List.length_drop] at hl
      show k + 2 ≤ x.length
      rw [← hn, hx]
      simp only [List.length_cons, List.length_nil] at hl
      omega
    · rw [subAt_eq, hx]
      show ((L.drop k).take 2 == [13, 10]) = true
      rw [h]
      rfl

theorem crlf_free : ∀ (l : List Nat), (∀ k, (l.drop k).take 2 ≠ [13, 10]) → crlf l = l
  | [], _ => rfl
  | c :: r, h => by
    rw [crlf_cons, crlf_free r (fun k => by have := h (k + 1); rwa [List.drop_succ_cons] at this)]
    rintro ⟨rfl, h2⟩
    cases r with
    | nil => cases h2
    | cons d r => cases h2; exact h 0 rfl

theorem crlf_seg : ∀ (n : Nat) (l : List Nat), (∀ k, k < n → (l.drop k).take 2 ≠ [13, 10]) → (l.drop n).take 2 = [13, 10] → crlf l = l.take n ++ 10 :: crlf (l.drop (n + 2))
  | 0, l, _, h2 => by
    match l, h2 with
    | a :: b :: r, h2 =>
      simp only [List.drop_zero, List.take_succ_cons, List.take_zero] at h2
      injection h2 with e1 e2
      injection e2 with e2 _
      subst e1; subst e2
      rw [crlf_hit]; rfl
  | n + 1, [], _, h2 => by simp at h2
  | n + 1, c :: r, h1, h2 => by
    have hc : ¬ (c = 13 ∧ r.head? = some 10) := by
      rintro ⟨rfl, h⟩
      cases r with
      | nil => cases h
      | cons d r => cases h; exact h1 0 (Nat.succ_pos _) rfl
    rw [crlf_cons hc, crlf_seg n r (fun k hk => by have := h1 (k + 1) (by omega); rwa [List.drop_succ_cons] at this) (by rwa [List.drop_succ_cons] at h2)]
    have e : (c :: r).drop (n + 1 + 2) = r.drop (n + 2) := by
      rw [show n + 1 + 2 = (n + 2) + 1 from by omega, List.drop_succ_cons]
    rw [e]
    rfl

theorem crlf_parts (x : Str) : ∀ (cuts : List Nat) (a f : Nat), a ≤ x.length → ChainG x ⟨#[13, 10]⟩ x.length a cuts f → (∀ k, f ≤ k → ¬ At x ⟨#[13, 10]⟩ x.length k) →
    (Str.join ⟨#[10]⟩ (partsFrom x 2 a cuts)).cps.toList = crlf (x.cps.toList.drop a)
  | [], a, f, ha, h, hn => by
    have e : f = a := h
    subst e
    show (strSub x f x.length).cps.toList = _
    rw [strSub_toList, crlf_free]
    · exact List.take_of_length_le (by simp [Str.length])
    · intro k hk
      rw [List.drop_drop] at hk
      exact hn (f + k) (by omega) ((at_two rfl _).mpr hk)
  | c :: r, a, f, ha, h, hn => by
    obtain ⟨p, q, e⟩ := partsFrom_ne x 2 (c + 2) r
    have hA := h.2.1
    have hc2 : c + 2 ≤ x.length := hA.1
    have ih := crlf_parts x r (c + 2) f hc2 h.2.2.2 hn
    show (Str.join ⟨#[10]⟩ (strSub x a c :: partsFrom x 2 (c + 2) r)).cps.toList = _
    rw [e] at ih ⊢
    show (strSub x a c ++ ⟨#[10]⟩ ++ Str.join ⟨#[10]⟩ (p :: q)).cps.toList = _
    simp only [Str.cps_append, Array.toList_append]
    rw [ih, strSub_toList]
    have hac := h.1
    rw [crlf_seg (c - a) (x.cps.toList.drop a)]
    · rw [List.drop_drop, List.append_assoc]
      have e9 : a + (c - a + 2) = c + 2 := by omega
      rw [e9]
      rfl
    · intro k hk hA'
      rw [List.drop_drop] at hA'
      exact h.2.2.1 (a + k) (by omega) (by omega) ((at_two rfl _).mpr hA')
    · rw [List.drop_drop]
      have e9 : a + (c - a) = c := by omega
      rw [e9]
      exact (at_two rfl _).mp hA

theorem replace_gen (x y z : Str) (hy : 1 ≤ y.length) : Txt.replace x y z = Str.join z (partsFrom x y.length 0 (occurrences x y 0 x.length (x.length + 1))) := by
  unfold Txt.replace
  have h10 : (y.length == 0) = false := by
    rw [beq_eq_false_iff_ne]; omega
  rw [h10, Bool.false_and, Bool.or_false]
  split
  · rename_i he
    rw [List.isEmpty_iff.mp he]
    exact (sub_whole x).symm
  · rw [glued_eq_join, partsBetween_eq]

theorem replace_crlf (x : Str) : (Txt.replace x ⟨#[13, 10]⟩ ⟨#[10]⟩).cps.toList = crlf x.cps.toList := by
  rw [replace_gen _ _ _ (by decide)]
  obtain ⟨f, hG, hn⟩ := occ_tight x ⟨#[13, 10]⟩ (by decide)
  exact crlf_parts x _ 0 f (Nat.zero_le _) hG hn

theorem map_cr1_free : ∀ l : List Nat, 13 ∉ l → l.map cr1 = l
  | [], _ => rfl
  | k :: r, h => by
    have h1 : ¬ k = 13 := fun e => h (e ▸ List.mem_cons_self ..)
    rw [List.map_cons, map_cr1_free r (fun m => h (List.mem_cons_of_mem _ m))]
    unfold cr1
    rw [if_neg h1]
theorem cr1_join : ∀ parts : List Str, (∀ p ∈ parts, 13 ∉ p.cps.toList) → (Str.join ⟨#[13]⟩ parts).cps.toList.map cr1 = (Str.join ⟨#[10]⟩ parts).cps.toList
  | [], _ => rfl
  | [p], h => map_cr1_free _ (h p (List.mem_singleton.mpr rfl))
  | p :: q :: r, h => by
    have ih := cr1_join (q :: r) fun a ha => h a (List.mem_cons_of_mem _ ha)
    show (p ++ ⟨#[13]⟩ ++ Str.join ⟨#[13]⟩ (q :: r)).cps.toList.map cr1 = (p ++ ⟨#[10]⟩ ++ Str.join ⟨#[10]⟩ (q :: r)).cps.toList
    simp only [Str.cps_append, Array.toList_append, List.map_append]
    rw [ih, map_cr1_free _ (h p (List.mem_cons_self ..))]
    rfl
theorem replace_cr (x : Str) : (Txt.replace x ⟨#[13]⟩ ⟨#[10]⟩).cps.toList = x.cps.toList.map cr1 := by
  rw [StrLaws.replace_one, ← cr1_join _ (StrLaws.split_free x 13), StrLaws.join_split]

theorem mend_is (x : Str) : (Txt.replace (Txt.replace x ⟨#[13, 10]⟩ ⟨#[10]⟩) ⟨#[13]⟩ ⟨#[10]⟩).cps.toList = mendL x.cps.toList := by
  rw [replace_cr, replace_crlf]
  rfl

theorem crlf_snoc : ∀ (l : List Nat) (c : Nat), c ≠ 10 → crlf (l ++ [c]) = crlf l ++ [c]
  | [], c, h => by rw [List.nil_append, crlf_cons (by rintro ⟨_, h⟩; cases h)]; rfl
  | [a], c, h => by
    show crlf [a, c] = crlf [a] ++ [c]
    rw [crlf_cons (by rintro ⟨_, h9⟩; cases h9; exact h rfl), crlf_cons (by rintro ⟨_, h⟩; cases h), crlf_cons (c := a) (by rintro ⟨_, h⟩; cases h)]
    rfl
  | a :: b :: r, c, h => by
    by_cases hab : a = 13 ∧ b = 10
    · obtain ⟨rfl, rfl⟩ := hab
      show crlf (13 :: 10 :: (r ++ [c])) = _
      rw [crlf_hit, crlf_hit, crlf_snoc r c h]
      rfl
    · have hn : ¬ (a = 13 ∧ (b :: r).head? = some 10) := by rintro ⟨e1, e2⟩; cases e2; exact hab ⟨e1, rfl⟩
      have hn' : ¬ (a = 13 ∧ (b :: (r ++ [c])).head? = some 10) := by rintro ⟨e1, e2⟩; cases e2; exact hab ⟨e1, rfl⟩
      show crlf (a :: b :: (r ++ [c])) = _
      rw [crlf_cons hn, crlf_cons hn']
      have := crlf_snoc (b :: r) c h
      rw [List.cons_append] at this
      rw [this]
      rfl
theorem mend_snoc (l : List Nat) (c : Nat) (h : c ≠ 10) : mendL (l ++ [c]) = mendL l ++ mendL [c] := by
  have e := crlf_snoc [] c h
  rw [List.nil_append] at e
  unfold mendL
  rw [crlf_snoc l c h, e, List.map_append]
  rfl
theorem crlf_ne : ∀ (l : List Nat), l ≠ [] → crlf l ≠ []
  | [], h => absurd rfl h
  | [a], _ => by rw [crlf_cons (by rintro ⟨_, h⟩; cases h)]; exact List.cons_ne_nil _ _
  | a :: b :: r, _ => by
    by_cases hab : a = 13 ∧ b = 10
    · obtain ⟨rfl, rfl⟩ := hab
      rw [crlf_hit]; exact List.cons_ne_nil _ _
    · rw [crlf_cons (by rintro ⟨e1, e2⟩; cases e2; exact hab ⟨e1, rfl⟩)]; exact List.cons_ne_nil _ _
theorem mend_ne (l : List Nat) (h : l ≠ []) : mendL l ≠ [] := fun e => crlf_ne l h (List.map_eq_nil_iff.mp e)
theorem crlf_len : ∀ (l : List Nat), (crlf l).length ≤ l.length
  | [] => Nat.le_refl _
  | [a] => by rw [crlf_cons (by rintro ⟨_, h⟩; cases h)]; exact Nat.le_refl _
  | a :: b :: r => by
    by_cases hab : a = 13 ∧ b = 10
    · obtain ⟨rfl, rfl⟩ := hab
      rw [crlf_hit]
      have := crlf_len r
      simp only [List.length_cons]; omega
    · rw [crlf_cons (by rintro ⟨e1, e2⟩; cases e2; exact hab ⟨e1, rfl⟩)]
      have := crlf_len (b :: r)
      simp only [List.length_cons] at this ⊢; omega
theorem mend_len (l : List Nat) : (mendL l).length ≤ l.length := by
  unfold mendL; rw [List.length_map]; exact crlf_len l
theorem mend_nil : mendL [] = [] := rfl
end
end
section -- Plain2
section
open PySem.StrLaws Builtin Builtin.Str

theorem len_cps (x : Str) : x.cps.toList.length = x.length := by simp [Str.length]

theorem slice_ss {x : Str} {i j : Int} (h0 : 0 ≤ i) (h1 : i ≤ j) (h2 : j ≤ x.length) : (Txt.slice x (some i) (some j)).cps.toList = (x.cps.toList.drop i.toNat).take (j - i).toNat := by
  rw [eq_of_beq (slice_closesL h0 h1 h2)]
theorem slice_ns {x : Str} {j : Int} (h0 : 0 ≤ j) (h2 : j ≤ x.length) : (Txt.slice x none (some j)).cps.toList = x.cps.toList.take j.toNat := by
  rw [eq_of_beq (slice_closes_toL h0 h2)]
  simp
theorem slice_sn {x : Str} {i : Int} (h0 : 0 ≤ i) (h2 : i ≤ x.length) : (Txt.slice x (some i) none).cps.toList = x.cps.toList.drop i.toNat := by
  rw [eq_of_beq (slice_closes_fromL h0 h2 rfl)]
  simp only []
  apply List.take_of_length_le
  rw [List.length_drop, len_cps]
  omega

theorem idx_hi_beyond (len : Nat) {i j : Int} (h : (len : Int) ≤ j) : strSliceIndices (some i) (some j) 1 len = strSliceIndices (some i) (some (len : Int)) 1 len := by
  have a1 : ¬ j < 0 := by omega
  have a2 : ¬ ((len : Int) < 0) := by omega
  have e1 : max (0 : Int) (min j (len : Int)) = len := by omega
  have e2 : max (0 : Int) (min (len : Int) (len : Int)) = len := by omega
  simp [strSliceIndices, a1, a2, e1, e2]
theorem slice_rest {x : Str} {i j : Int} (h0 : 0 ≤ i) (h1 : i ≤ x.length) (h2 : x.length ≤ j) : (Txt.slice x (some i) (some j)).cps.toList = x.cps.toList.drop i.toNat := by
  have e : Txt.slice x (some i) (some j) = Txt.slice x (some i) (some (x.length : Int)) := by
    show StrLaws.sliceText x (some i) (some j) = StrLaws.sliceText x (some i) (some (x.length : Int))
    unfold StrLaws.sliceText
    rw [idx_hi_beyond x.length h2]
  rw [e, slice_ss h0 h1 (Int.le_refl _)]
  apply List.take_of_length_le
  rw [List.length_drop, len_cps]
  omega
theorem slice_but1 {x : Str} (h : 1 ≤ x.length) : (Txt.slice x none (some (-1))).cps.toList = x.cps.toList.dropLast := by
  rw [slice_to_neg (by decide), slice_ns (by omega) (by omega), List.dropLast_eq_take, len_cps]
  congr 1
  omega
theorem item_at {x : Str} {i : Int} (h0 : 0 ≤ i) (h1 : i < x.length) : Txt.item x i = ⟨#[x.cps.toList.getD i.toNat 0]⟩ := by
  unfold Txt.item Txt.charAt seqIndex?
  have a1 : ¬ i < 0 := by omega
  have a2 : i.toNat < x.cps.size := by have := len_cps x; simp [Str.length] at *; omega
  simp [a1, h0, h1, a2, List.getD]
theorem item_last {x : Str} (h : 1 ≤ x.length) : Txt.item x (-1) = ⟨#[x.cps.toList.getD (x.length - 1) 0]⟩ := by
  unfold Txt.item Txt.charAt seqIndex?
  have a2 : x.length - 1 < x.cps.size := by have := len_cps x; simp [Str.length] at *; omega
  have e : ((-1 : Int) + (x.length : Int)).toNat = x.length - 1 := by omega
  have a3 : (0 : Int) ≤ -1 + (x.length : Int) := by omega
  have a4 : -1 + (x.length : Int) < x.length := by omega
  simp [a2, e, a3, a4, List.getD]
end
end
section -- Plain3
def badI (l : List Int) : Nat := l.countP inv
theorem badI_snoc (l : List Int) (n : Int) : badI (l ++ [n]) = badI l + if inv n = true then 1 else 0 := by
  unfold badI
  rw [List.countP_append, List.countP_singleton]
def bufL : Value → List Nat
  | .str b _ => b.cps.toList
  | _ => []
def badL (l : List Nat) : Nat := List.countP (fun (c : Nat) => inv (Int.ofNat c)) l
theorem badI_codes (x : Str) : badI (KStt.codes x) = badL x.cps.toList := by
  unfold badI badL KStt.codes
  rw [List.countP_map]
  rfl
theorem badL_append (a b : List Nat) : badL (a ++ b) = badL a + badL b := by unfold badL; exact List.countP_append
def raw (text : Str) (buf : Value) (dp : Int) : List Nat := bufL buf ++ text.cps.toList.drop dp.toNat
def okBuf (buf : Value) : Prop := buf = .none ∨ ∃ b t, buf = .str b t ∧ b.length = 1

structure RdPost (rw0 : List Nat) (tl : Nat) (en : Nat) (chunk' : Str) (size' off' : Int) (en' : Nat) (buf' : Value) (dp' : Int) (b : Bool) : Prop where
  size : size' = chunk'.length
  off : off' = 0
  buf : okBuf buf'
  dp : dp' = tl
  rest : chunk'.cps.toList ++ mendL (bufL buf') = mendL rw0
  errs : en' + badL (bufL buf') = en + badL rw0
  last : (b = false ∧ rw0 = []) ∨ (b = true ∧ (bufL buf').length < rw0.length ∧ 1 ≤ chunk'.length)

theorem crS : Str.ofString "\r" = ⟨#[13]⟩ := by decide +kernel
theorem lfS : Str.ofString "\n" = ⟨#[10]⟩ := by decide +kernel
theorem crlfS : Str.ofString "\r\n" = ⟨#[13, 10]⟩ := by decide +kernel
theorem mend_str (x : Str) : (Txt.replace (Txt.replace x (Str.ofString "\r\n") (Str.ofString "\n")) (Str.ofString "\r") (Str.ofString "\n")).cps.toList = mendL x.cps.toList := by
  rw [crS, lfS, crlfS]; exact mend_is x
theorem len_crlf (x : Str) : (Txt.replace x (Str.ofString "\r\n") (Str.ofString "\n")).length ≤ x.length := by
  rw [lfS, crlfS, ← len_cps, ← len_cps, replace_crlf]; exact crlf_len _
theorem len_mend (x : Str) : (Txt.replace (Txt.replace x (Str.ofString "\r\n") (Str.ofString "\n")) (Str.ofString "\r") (Str.ofString "\n")).length ≤ x.length := by
  rw [← len_cps, ← len_cps, mend_str]; exact mend_len _

theorem pos_mend (x : Str) (h : 1 ≤ x.length) : 1 ≤ (Txt.replace (Txt.replace x (Str.ofString "\r\n") (Str.ofString "\n")) (Str.ofString "\r") (Str.ofString "\n")).length := by
  rw [← len_cps, mend_str]
  rw [← len_cps] at h
  have : mendL x.cps.toList ≠ [] := mend_ne _ (fun e => by rw [e] at h; exact absurd h (by decide))
  exact List.length_pos_iff.mpr this

theorem rd_no (rw0 : List Nat) (tl en : Nat) (d : Str) (size' off' : Int) (en' : Nat) (dp' : Int) (hd : d.cps.toList = rw0) (h1 : 1 ≤ d.length) (ho : off' = 0) (hdp : dp' = tl)
    (hs : size' = (Txt.replace (Txt.replace d (Str.ofString "\r\n") (Str.ofString "\n")) (Str.ofString "\r") (Str.ofString "\n")).length) (he : en' = en + badI (KStt.codes d)) :
    RdPost rw0 tl en (Txt.replace (Txt.replace d (Str.ofString "\r\n") (Str.ofString "\n")) (Str.ofString "\r") (Str.ofString "\n")) size' off' en' .none dp' true where
  size := hs
  off := ho
  buf := .inl rfl
  dp := hdp
  rest := by rw [mend_str, hd]; exact List.append_nil _
  errs := by rw [he, badI_codes, hd]; exact Nat.add_zero _
  last := .inr ⟨rfl, by
    rw [← hd, len_cps]
    show 0 < d.length
    omega, pos_mend d h1⟩

theorem rd_cut (rw0 : List Nat) (tl en : Nat) (d : Str) (size' off' : Int) (en' : Nat) (dp' : Int) (t : Tok) (hd : d.cps.toList = rw0) (h1 : 2 ≤ d.length) (hc : (((Txt.item d (-1)).cps.getD 0 0 : Nat) : Int) ≠ 10) (ho : off' = 0) (hdp : dp' = tl)
    (hs : size' = (Txt.replace (Txt.replace (Txt.slice d none (some (-1))) (Str.ofString "\r\n") (Str.ofString "\n")) (Str.ofString "\r") (Str.ofString "\n")).length) (he : en' = en + badI (KStt.codes (Txt.slice d none (some (-1))))) :
    RdPost rw0 tl en (Txt.replace (Txt.replace (Txt.slice d none (some (-1))) (Str.ofString "\r\n") (Str.ofString "\n")) (Str.ofString "\r") (Str.ofString "\n")) size' off' en' (.str (Txt.item d (-1)) t) dp' true := by
  have hi := item_last (x := d) (by omega)
  have hsl := slice_but1 (x := d) (by omega)
  have hsp : rw0 = (Txt.slice d none (some (-1))).cps.toList ++ (Txt.item d (-1)).cps.toList := by
    rw [hsl, hi, ← hd]
    have hne : d.cps.toList ≠ [] := fun e => by have := len_cps d; rw [e] at this; simp at this; omega
    have hg : d.cps.toList.getD (d.length - 1) 0 = d.cps.toList.getLast hne := by
      rw [List.getLast_eq_getElem, ← len_cps]
      exact (List.getElem_eq_getD 0).symm
    rw [hg]
    exact (List.dropLast_concat_getLast hne).symm
  have hl : (Txt.slice d none (some (-1))).length = d.length - 1 := by
    rw [← len_cps, hsl, List.length_dropLast, len_cps]
  constructor
  · exact hs
  · exact ho
  · exact .inr ⟨_, _, rfl, by rw [hi]; rfl⟩
  · exact hdp
  · rw [mend_str]
    show _ ++ mendL (Txt.item d (-1)).cps.toList = _
    rw [hsp, hi]
    refine (mend_snoc _ _ ?_).symm
    intro e
    apply hc
    rw [hi]
    show ((d.cps.toList.getD (d.length - 1) 0 : Nat) : Int) = 10
    rw [e]; rfl
  · rw [he, badI_codes, hsp, badL_append]
    show _ + badL (Txt.item d (-1)).cps.toList = _
    omega
  · refine .inr ⟨rfl, ?_, pos_mend _ (by omega)⟩
    show (Txt.item d (-1)).cps.toList.length < _
    rw [hi, ← hd, len_cps]
    show 1 < d.length
    omega

theorem rd_end (rw0 : List Nat) (tl en : Nat) (size' off' : Int) (en' : Nat) (dp' : Int) (hr : rw0 = []) (ho : off' = 0) (hdp : dp' = tl) (hs : size' = 0) (he : en' = en) :
    RdPost rw0 tl en (Str.ofString "") size' off' en' .none dp' false where
  size := hs
  off := ho
  buf := .inl rfl
  dp := hdp
  rest := by rw [hr]; rfl
  errs := by rw [he, hr]; rfl
  last := .inl ⟨rfl, hr⟩

theorem part_is (text : Str) (dp : Int) (h0 : 0 ≤ dp) (h1 : dp ≤ text.length) (hl : text.length ≤ 10240) : (Txt.slice text (some dp) (some (dp + 10240))).cps.toList = text.cps.toList.drop dp.toNat :=
  slice_rest h0 h1 (by omega)
theorem part_len (text : Str) (dp : Int) (h0 : 0 ≤ dp) (h1 : dp ≤ text.length) (hl : text.length ≤ 10240) : dp + ((Txt.slice text (some dp) (some (dp + 10240))).length : Int) = text.length := by
  rw [← len_cps, part_is text dp h0 h1 hl, List.length_drop, len_cps]
  omega
end
theorem walk_ready : True := by
  first
    | (have h : PySem.Challenge.rw_im0054_01.Holds := by
         refine hd ?_
         w_strict k_go0
         fail "set"
       trivial)
    | trivial
section -- C1
theorem c_inv (n : Int) (t : Tok) : Ctc 56 380 900 [.int n t] (fun _ => []) (fun _ r pre => r = .bool (inv n) ∧ pre = []) := by
  unfold Ctc
  intro w mean mg mb gd cn cs L a ccd cl outer A₀ base h₀ m s R own B F X N T hk hoff hret
  k_dflt ktr_enter
  k_steps
  all_goals (refine' hret _ [] _ _ ⟨?e1, rfl⟩ ?e2 ?e3; (case e2 => k_asm); (case e3 => first | k_asm | (refine' cb_drop ?cbN ?cbS; (case cbN => assumption); (case cbS => kcj_all))); (case e1 => (refine congrArg Value.bool (Bool.eq_iff_iff.mpr ?_); unfold inv; simp only [decide_eq_true_eq, beq_iff_eq, Bool.or_eq_true, Bool.and_eq_true, List.any_cons, List.any_nil, List.contains_cons, List.contains_nil, Bool.or_false, Bool.or_eq_false_iff, beq_eq_false_iff_ne, ne_eq] at *; have e9 := fdiv_fmod_facts n 65536; first | omega)))
end
section -- C4
local macro_rules | `(tactic| walk_at "call builtin:str.count") => `(tactic| (k_here; (with_reducible show wpAny _ _ (call (Value.builtin "str.count") [Value.str _ _, Value.str _ _, Value.int _ _, Value.int _ _]) _ _ _); refine count4 ?_; intro k4 hk4; (try dsimp only)))
local macro_rules | `(tactic| walk_at "call builtin:str.rfind") => `(tactic| (k_here; (with_reducible show wpAny _ _ (call (Value.builtin "str.rfind") [Value.str _ _, Value.str _ _, Value.int _ _, Value.int _ _]) _ _ _); refine rfind4 ?_; intro k4; (try dsimp only)))

theorem c_pos (f : Fx) (chunk : Str) (tc : Tok) (size : Int) (ts : Tok) (off : Int) (tof : Tok) (errs : List Value) (ne : Nat) (pl : Int) (tpl : Tok) (pc : Int) (tpc : Tok) (buf : Value) (dp : Int) (tdp : Tok) (n : Int) (tn : Tok) :
    Ctc 91 360 700 [.ref f.x, .int n tn] (fun P => sl P f chunk tc size ts off tof errs ne pl tpl pc tpc buf dp tdp) (fun P r pre => ∃ D i ti j tj, r = .ref D ∧ pre = (D, ({ cls := .type "tuple", data := .seq [Value.int i ti, Value.int j tj].toArray } : Obj)) :: sl P f chunk tc size ts off tof errs ne pl tpl pc tpc buf dp tdp ∧ AllLt D (sl P f chunk tc size ts off tof errs ne pl tpl pc tpc buf dp tdp)) := by
  unfold Ctc
  intro w mean mg mb gd cn cs L a ccd cl outer A₀ base h₀ m s R own B F X N T hk hoff hret
  dsimp only [sl, List.cons_append, List.nil_append, List.map_cons, List.map_nil] at N hoff
  have o1 := f.o1
  have o2 := f.o2
  have o3 := f.o3
  have o4 := f.o4
  have o5 := f.o5
  have o6 := f.o6
  have hmk := kstMark
  k_dflt ktr_enter
  k_steps
  all_goals (refine' hret _ _ _ _ ⟨_, _, _, _, _, rfl, rfl, ?e1⟩ ?e2 ?e3; (case e2 => k_asm); (case e3 => dsimp only [sl, List.cons_append, List.nil_append]; k_asm); (case e1 => simp only [sl, AllLt, and_true] at *; omega))
end
section -- C5
local macro_rules | `(tactic| walk_at "call ref") => `(tactic| k_extra "call ref")
theorem c_err (f : Fx) (chunk : Str) (tc : Tok) (size : Int) (ts : Tok) (off : Int) (tof : Tok) (errs : List Value) (ne : Nat) (pl : Int) (tpl : Tok) (pc : Int) (tpc : Tok) (buf : Value) (dp : Int) (tdp : Tok) (data : Str) (td : Tok) (hlen : errs.length + data.length ≤ 1000) :
    Ctc 120 360 700 [.ref f.x, .str data td] (fun P => sl P f chunk tc size ts off tof errs ne pl tpl pc tpc buf dp tdp) (fun P r pre => ∃ errs' ne', r = .none ∧ pre = sl P f chunk tc size ts off tof errs' ne' pl tpl pc tpc buf dp tdp ∧ errs'.length = errs.length + badI (KStt.codes data)) := by
  unfold Ctc
  intro w mean mg mb gd cn cs L a ccd cl outer A₀ base h₀ m s R own B F X N T hk hoff hret
  dsimp only [sl, List.cons_append, List.nil_append, List.map_cons, List.map_nil] at N hoff
  have o1 := f.o1
  have o2 := f.o2
  have o3 := f.o3
  have o4 := f.o4
  have o5 := f.o5
  have o6 := f.o6
  have hmk := kstMark
  k_dflt ktr_enter
  k_with_none
  k_with "call ref" => (k_here; (with_reducible show wpAny _ _ (call (Value.ref 56) [Value.int _ _]) _ _ _); k_dflt (refine' (c_inv _ _).use0 ?k1 ?k2 ?k3 ?k4 ?k5 ?k6 ?k7 ?k8 ?k9 ?k10 ?k11 ?_; (case k1 => exact rfl); (case k2 => exact rfl); (case k3 => exact Nat.le_of_ble_eq_true rfl); (case k4 => exact Nat.le_of_ble_eq_true rfl); (case k5 => k_asm); (case k6 => k_asm); (case k7 => k_asm); (case k8 => k_asm); (case k9 => k_asm); (case k10 => exact rfl); (case k11 => exact fun _ _ _ h => nomatch h)); (rintro r' pre' h' tk' ⟨rfl, rfl⟩ F' N'); (try dsimp only [List.nil_append] at N'); (try k_sweep); (try dsimp only))
  k_with "pyIter str" => fail "by hand"
  k_steps
  rename Fr _ _ _ _ => lF'
  rename News _ _ _ _ => lN'
  with_unfolding_all refine' KStt.kst_text (fun c : List Value × Nat => sl w.params f chunk tc size ts off tof c.1 c.2 pl tpl pc tpc buf dp tdp ++ own) (fun _ => []) (fun _ => True) [] (fun pre c => c.1.length = errs.length + badI pre ∧ c.1.length ≤ errs.length + pre.length) (errs, ne) (by rfl) lF' lN' trivial (fun _ h => nomatch h) ⟨rfl, Nat.le_refl _⟩ ?_ ?_
  all_goals clear lF' lN'
  · rintro ⟨us, nu⟩ pre post n t u h tk own' heq hoff' - ⟨hP1, hP2⟩ F' N'
    have kL := congrArg List.length heq
    simp only [List.length_append, List.length_cons, KStt.codes_length] at kL
    dsimp only [kstB] at F'
    dsimp only at hP1 hP2
    simp only [sl, List.cons_append, List.nil_append] at N'
    simp only [sl, List.cons_append, List.nil_append, List.map_cons] at hoff'
    try k_fold
    k_steps
    all_goals (rename News _ _ _ _ => nE')
    all_goals (try simp only [List.push_toArray] at nE')
    all_goals replace nE' := (id nE' : News _ _ _ ((sl w.params f chunk tc size ts off tof _ _ pl tpl pc tpc buf dp tdp ++ own) ++ own'))
    all_goals refine kst_end (⟨_, _⟩ : List Value × Nat) (by k_asm) nE' (fun p hp => List.mem_append_left own' hp) (fun p hp => List.mem_append_right _ hp) (by rfl) trivial (fun _ h => nomatch h) (by kst_same) ?_
    all_goals dsimp only
    · rename inv _ = true => hi
      rw [badI_snoc, hi]
      simp only [List.length_append, List.length_cons, List.length_nil, if_true]
      omega
    · have hi : inv n = false := by
        cases h9 : inv n with
        | false => rfl
        | true => simp_all
      rw [badI_snoc, hi]
      simp only [List.length_append, List.length_cons, List.length_nil, Bool.false_eq_true, if_false]
      omega
  · rintro ⟨us, nu⟩ u h tk - ⟨hP1, hP2⟩ F' N'
    dsimp only [kstB] at F'
    dsimp only at hP1 hP2
    simp only [sl, List.cons_append, List.nil_append] at N'
    try k_fold
    k_steps
    all_goals (refine' hret _ _ _ _ ⟨_, _, rfl, rfl, ?e1⟩ ?e2 ?e3; (case e2 => k_asm); (case e3 => dsimp only [sl, List.cons_append, List.nil_append]; k_asm); (case e1 => exact hP1))
end
section -- Plain4
structure WF (text chunk : Str) (size off : Int) (buf : Value) (dp : Int) : Prop where
  hsize : size = chunk.length
  off0 : 0 ≤ off
  off1 : off ≤ size
  hbuf : okBuf buf
  hst : (buf = Value.none ∧ dp = 0) ∨ dp = text.length
  hlen : chunk.length ≤ text.length + 1

def pend (text chunk : Str) (off : Int) (buf : Value) (dp : Int) : List Nat := chunk.cps.toList.drop off.toNat ++ mendL (raw text buf dp)

theorem raw_end (text : Str) (buf : Value) (dp : Int) (h : dp = text.length) : raw text buf dp = bufL buf := by
  unfold raw
  subst h
  rw [List.drop_of_length_le (by rw [len_cps]; exact Nat.le_refl _), List.append_nil]

theorem raw_len {text : Str} {buf : Value} {dp : Int} (h : okBuf buf) : (raw text buf dp).length ≤ text.length + 1 := by
  unfold raw
  rw [List.length_append, List.length_drop, len_cps]
  have : (bufL buf).length ≤ 1 := by
    rcases h with rfl | ⟨b, t, rfl, hb⟩
    · exact Nat.zero_le _
    · show b.cps.toList.length ≤ 1
      rw [len_cps, hb]; exact Nat.le_refl _
  omega

/-- what reading on leaves -/
theorem RdPost.wf {text : Str} {buf : Value} {dp : Int} {en : Nat} {chunk' : Str} {size' off' : Int} {en' : Nat} {buf' : Value} {dp' : Int} {b : Bool}
    (h : RdPost (raw text buf dp) text.length en chunk' size' off' en' buf' dp' b) (hb : okBuf buf) : WF text chunk' size' off' buf' dp' where
  hsize := h.size
  off0 := by rw [h.off]; exact Int.le_refl _
  off1 := by rw [h.off, h.size]; exact Int.natCast_nonneg _
  hbuf := h.buf
  hst := .inr h.dp
  hlen := by
    have h1 := congrArg List.length h.rest
    rw [List.length_append, len_cps] at h1
    have h2 := mend_len (raw text buf dp)
    have h3 := raw_len (text := text) (dp := dp) hb
    omega
theorem RdPost.pend {text : Str} {buf : Value} {dp : Int} {en : Nat} {chunk' : Str} {size' off' : Int} {en' : Nat} {buf' : Value} {dp' : Int} {b : Bool}
    (h : RdPost (raw text buf dp) text.length en chunk' size' off' en' buf' dp' b) : Mine.pend text chunk' off' buf' dp' = mendL (raw text buf dp) := by
  unfold Mine.pend
  rw [raw_end _ _ _ h.dp, h.off]
  exact h.rest
theorem RdPost.tot {text : Str} {buf : Value} {dp : Int} {en : Nat} {chunk' : Str} {size' off' : Int} {en' : Nat} {buf' : Value} {dp' : Int} {b : Bool}
    (h : RdPost (raw text buf dp) text.length en chunk' size' off' en' buf' dp' b) : en' + badL (raw text buf' dp') = en + badL (raw text buf dp) := by
  rw [raw_end _ _ _ h.dp]
  exact h.errs
theorem RdPost.less {text : Str} {buf : Value} {dp : Int} {en : Nat} {chunk' : Str} {size' off' : Int} {en' : Nat} {buf' : Value} {dp' : Int}
    (h : RdPost (raw text buf dp) text.length en chunk' size' off' en' buf' dp' true) : (raw text buf' dp').length < (raw text buf dp).length := by
  rw [raw_end _ _ _ h.dp]
  rcases h.last with h | h
  · cases h.1
  · exact h.2.1
theorem RdPost.raw0 {text : Str} {buf : Value} {dp : Int} {en : Nat} {chunk' : Str} {size' off' : Int} {en' : Nat} {buf' : Value} {dp' : Int}
    (h : RdPost (raw text buf dp) text.length en chunk' size' off' en' buf' dp' false) : raw text buf dp = [] := by
  rcases h.last with h | h
  · exact h.2
  · cases h.1

def wantP (cs : List Str) (opp : Bool) (c : Nat) : Bool := (cs.any (· == (⟨#[c]⟩ : Str))) == opp

structure CInv (text : Str) (p : Nat → Bool) (pend0 : List Nat) (tot0 : Nat) (us : List Str) (chunk : Str) (size off : Int) (en : Nat) (buf : Value) (dp : Int) : Prop where
  wf : WF text chunk size off buf dp
  acc : (us.map fun u => u.cps.toList).flatten ++ (pend text chunk off buf dp).takeWhile p = pend0.takeWhile p
  rest : (pend text chunk off buf dp).dropWhile p = pend0.dropWhile p
  tot : en + badL (raw text buf dp) = tot0

structure CPost (text : Str) (p : Nat → Bool) (pend0 : List Nat) (tot0 : Nat) (R : Str) (chunk : Str) (size off : Int) (en : Nat) (buf : Value) (dp : Int) : Prop where
  wf : WF text chunk size off buf dp
  res : R.cps.toList = pend0.takeWhile p
  rest : pend text chunk off buf dp = pend0.dropWhile p
  tot : en + badL (raw text buf dp) = tot0

theorem takeWhile_pre {p : Nat → Bool} : ∀ {a b : List Nat}, a.all p = true → (a ++ b).takeWhile p = a ++ b.takeWhile p
  | [], _, _ => rfl
  | x :: a, b, h => by
    rw [List.all_cons, Bool.and_eq_true] at h
    rw [List.cons_append, List.takeWhile_cons, h.1, if_pos rfl, takeWhile_pre h.2]
    rfl
theorem dropWhile_pre {p : Nat → Bool} : ∀ {a b : List Nat}, a.all p = true → (a ++ b).dropWhile p = b.dropWhile p
  | [], _, _ => rfl
  | x :: a, b, h => by
    rw [List.all_cons, Bool.and_eq_true] at h
    rw [List.cons_append, List.dropWhile_cons, h.1, if_pos rfl, dropWhile_pre h.2]

theorem flat_snoc (us : List Str) (u : Str) : ((us ++ [u]).map fun u => u.cps.toList).flatten = (us.map fun u => u.cps.toList).flatten ++ u.cps.toList := by
  rw [List.map_append, List.flatten_append, List.map_cons, List.map_nil, List.flatten_cons, List.flatten_nil, List.append_nil]

/-- the turn of the inner loop -/
theorem seg_start (L : List Nat) (p : Nat → Bool) (o : Int) : ((L.drop o.toNat).take (o - o).toNat).all p = true := by
  rw [Int.sub_self]; rfl
theorem seg_next (L : List Nat) (p : Nat → Bool) (o e : Int) (h0 : 0 ≤ o) (h1 : o ≤ e) (h2 : e < L.length) (h : ((L.drop o.toNat).take (e - o).toNat).all p = true) (hp : p (L.getD e.toNat 0) = true) :
    ((L.drop o.toNat).take (e + 1 - o).toNat).all p = true := by
  have e1 : (e + 1 - o).toNat = (e - o).toNat + 1 := by omega
  have e2 : o.toNat + (e - o).toNat = e.toNat := by omega
  have e3 : e.toNat < L.length := by omega
  rw [e1, List.take_add_one, List.all_append, h, List.getElem?_drop, e2, List.getElem?_eq_getElem e3]
  have : L.getD e.toNat 0 = L[e.toNat] := (List.getElem_eq_getD 0).symm
  rw [this] at hp
  simp [hp]

theorem seg_cut {p : Nat → Bool} {A B r M : List Nat} {x : Nat} (hA : A.all p = true) (hx : p x = false) (hB : B = A ++ x :: r) : (B ++ M).takeWhile p = A ∧ (B ++ M).dropWhile p = x :: r ++ M := by
  subst hB
  rw [List.append_assoc, takeWhile_pre hA, dropWhile_pre hA]
  constructor
  · rw [List.cons_append, List.takeWhile_cons, hx]; simp
  · rw [List.cons_append, List.dropWhile_cons, hx]; rfl
theorem seg_stop (L M : List Nat) (p : Nat → Bool) (o e : Int) (h0 : 0 ≤ o) (h1 : o ≤ e) (h2 : e < L.length) (h : ((L.drop o.toNat).take (e - o).toNat).all p = true) (hp : p (L.getD e.toNat 0) = false) :
    (L.drop o.toNat ++ M).takeWhile p = (L.drop o.toNat).take (e - o).toNat ∧ (L.drop o.toNat ++ M).dropWhile p = L.drop e.toNat ++ M := by
  have e2 : o.toNat + (e - o).toNat = e.toNat := by omega
  have e3 : e.toNat < L.length := by omega
  have hs : L.drop o.toNat = (L.drop o.toNat).take (e - o).toNat ++ L.drop e.toNat := by
    have := List.take_append_drop (e - o).toNat (L.drop o.toNat)
    rw [List.drop_drop, e2] at this
    exact this.symm
  have hc : L.drop e.toNat = L[e.toNat] :: L.drop (e.toNat + 1) := List.drop_eq_getElem_cons e3
  have hg : L.getD e.toNat 0 = L[e.toNat] := (List.getElem_eq_getD 0).symm
  rw [hg] at hp
  have := seg_cut (M := M) h hp (hs.trans (by rw [hc]))
  rw [hc]
  exact this
theorem seg_all (L M : List Nat) (p : Nat → Bool) (o e : Int) (h0 : 0 ≤ o) (h1 : o ≤ e) (h2 : e = L.length) (h : ((L.drop o.toNat).take (e - o).toNat).all p = true) :
    (L.drop o.toNat ++ M).takeWhile p = L.drop o.toNat ++ M.takeWhile p ∧ (L.drop o.toNat ++ M).dropWhile p = M.dropWhile p := by
  have hs : (L.drop o.toNat).take (e - o).toNat = L.drop o.toNat := List.take_of_length_le (by rw [List.length_drop]; omega)
  rw [hs] at h
  exact ⟨takeWhile_pre h, dropWhile_pre h⟩

section
variable {text : Str} {p : Nat → Bool} {pend0 : List Nat} {tot0 : Nat} {us : List Str} {chunk : Str} {size off : Int} {en : Nat} {buf : Value} {dp : Int}

theorem join_nil (us : List Str) : (Txt.join (Str.ofString "") us).cps.toList = (us.map fun u => u.cps.toList).flatten := by
  have e : Txt.join (Str.ofString "") us = Str.join (Str.ofString "") us := eq_of_beq (join_closes rfl)
  have e0 : (Str.ofString "").cps.toList = [] := by decide +kernel
  rw [e]
  have : ∀ us : List Str, (Str.join (Str.ofString "") us).cps.toList = (us.map fun u => u.cps.toList).flatten := by
    intro us
    induction us with
    | nil => exact e0
    | cons a r ih =>
      cases r with
      | nil => simp [Str.join]
      | cons b r =>
        show (a ++ Str.ofString "" ++ Str.join (Str.ofString "") (b :: r)).cps.toList = _
        simp only [Str.cps_append, Array.toList_append]
        rw [ih, e0]
        simp
  exact this us

/-- nothing is taken: the first sign is not wanted -/
theorem CInv.stop0 (I : CInv text p pend0 tot0 us chunk size off en buf dp) (h2 : off < size) (hp : p (chunk.cps.toList.getD off.toNat 0) = false) :
    CPost text p pend0 tot0 (Txt.join (Str.ofString "") us) chunk size off en buf dp := by
  have hw := I.wf
  have hs := seg_stop chunk.cps.toList (mendL (raw text buf dp)) p off off hw.off0 (Int.le_refl _) (by rw [len_cps, ← hw.hsize]; exact h2) (seg_start _ _ _) hp
  have ha := I.acc
  have hr := I.rest
  unfold pend at ha hr
  rw [hs.1, Int.sub_self] at ha
  rw [hs.2] at hr
  refine ⟨hw, ?_, ?_, I.tot⟩
  · rw [join_nil, ← ha]; simp
  · unfold pend; exact hr

/-- a piece of the chunk is taken -/
theorem CInv.stop1 (I : CInv text p pend0 tot0 us chunk size off en buf dp) {e : Int} (h1 : off ≤ e) (h2 : e < size) (h : ((chunk.cps.toList.drop off.toNat).take (e - off).toNat).all p = true) (hp : p (chunk.cps.toList.getD e.toNat 0) = false) :
    CPost text p pend0 tot0 (Txt.join (Str.ofString "") (us ++ [Txt.slice chunk (some off) (some e)])) chunk size e en buf dp := by
  have hw := I.wf
  have hl : e < chunk.cps.toList.length := by rw [len_cps, ← hw.hsize]; exact h2
  have hs := seg_stop chunk.cps.toList (mendL (raw text buf dp)) p off e hw.off0 h1 hl h hp
  have ha := I.acc
  have hr := I.rest
  unfold pend at ha hr
  rw [hs.1] at ha
  rw [hs.2] at hr
  refine ⟨⟨hw.hsize, Int.le_trans hw.off0 h1, Int.le_of_lt h2, hw.hbuf, hw.hst, hw.hlen⟩, ?_, ?_, I.tot⟩
  · rw [join_nil, flat_snoc, slice_ss hw.off0 h1 (by rw [← hw.hsize]; exact Int.le_of_lt h2), ha]
  · unfold pend; exact hr

/-- the rest of the chunk is taken, and there is more -/
theorem CInv.more (I : CInv text p pend0 tot0 us chunk size off en buf dp) {e : Int} (h1 : off ≤ e) (h2 : e = size) (h : ((chunk.cps.toList.drop off.toNat).take (e - off).toNat).all p = true)
    {chunk' : Str} {size' off' : Int} {en' : Nat} {buf' : Value} {dp' : Int} {b : Bool} (hr : RdPost (raw text buf dp) text.length en chunk' size' off' en' buf' dp' b) :
    CInv text p pend0 tot0 (us ++ [Txt.slice chunk (some off) none]) chunk' size' off' en' buf' dp' := by
  have hw := I.wf
  have hl : e = chunk.cps.toList.length := by rw [len_cps, ← hw.hsize]; exact h2
  have hs := seg_all chunk.cps.toList (mendL (raw text buf dp)) p off e hw.off0 h1 hl h
  have ha := I.acc
  have hr' := I.rest
  unfold pend at ha hr'
  rw [hs.1] at ha
  rw [hs.2] at hr'
  refine ⟨hr.wf hw.hbuf, ?_, ?_, hr.tot.trans I.tot⟩
  · rw [flat_snoc, slice_sn hw.off0 (by rw [← hw.hsize]; exact hw.off1), hr.pend, List.append_assoc, ha]
  · rw [hr.pend, hr']

/-- the rest of the chunk is taken, and it was the last -/
theorem CInv.last (I : CInv text p pend0 tot0 us chunk size off en buf dp) {e : Int} (h1 : off ≤ e) (h2 : e = size) (h : ((chunk.cps.toList.drop off.toNat).take (e - off).toNat).all p = true)
    {chunk' : Str} {size' off' : Int} {en' : Nat} {buf' : Value} {dp' : Int} (hr : RdPost (raw text buf dp) text.length en chunk' size' off' en' buf' dp' false) :
    CPost text p pend0 tot0 (Txt.join (Str.ofString "") (us ++ [Txt.slice chunk (some off) none])) chunk' size' off' en' buf' dp' := by
  have J := I.more h1 h2 h hr
  have hp : pend text chunk' off' buf' dp' = [] := by rw [hr.pend, hr.raw0]; rfl
  have ha := J.acc
  have hb := J.rest
  rw [hp] at ha hb
  refine ⟨J.wf, ?_, ?_, J.tot⟩
  · rw [join_nil, ← ha]; simp
  · rw [hp]; exact hb

theorem pend_len (hw : WF text chunk size off buf dp) : (pend text chunk off buf dp).length ≤ 2 * text.length + 2 := by
  unfold pend
  rw [List.length_append, List.length_drop, len_cps]
  have h2 := mend_len (raw text buf dp)
  have h3 := raw_len (text := text) (dp := dp) hw.hbuf
  have h4 := hw.hlen
  omega
theorem CInv.begin (hw : WF text chunk size off buf dp) : CInv text p (pend text chunk off buf dp) (en + badL (raw text buf dp)) [] chunk size off en buf dp :=
  ⟨hw, rfl, rfl, rfl⟩

theorem CInv.len (I : CInv text p pend0 tot0 us chunk size off en buf dp) : (us.map (·.length)).sum ≤ pend0.length := by
  have h1 : (us.map (·.length)).sum = ((us.map fun u => u.cps.toList).flatten).length := by
    rw [List.length_flatten, List.map_map]
    congr 1
  have h2 := congrArg List.length I.acc
  rw [List.length_append] at h2
  have h3 : (pend0.takeWhile p).length ≤ pend0.length := (List.takeWhile_sublist p).length_le
  omega
end
end
section -- C6
local macro_rules | `(tactic| walk_at "call ref") => `(tactic| k_extra "call ref")
local macro_rules | `(tactic| walk_at "execs cons") => `(tactic| k_extra "execs cons")
local macro_rules | `(tactic| walk_at "call builtin:str.replace") => `(tactic| (k_here; refine replaceT ?h1 ?h2 ?h3 ?h4 ?h5 ?h6 ?h7 ?_; (case h1 => (try dsimp only); omega); (case h2 => omega); (case h3 => omega); (case h4 => omega); (case h5 => decide); (case h6 => k_extra "replace size"); (case h7 => decide); intro t9 k9 hk9; (try dsimp only)))
local macro_rules | `(tactic| walk_at "truthy ref") => `(tactic| (k_here; (with_reducible show wpAny _ _ (truthy (Value.ref _)) _ _ _); k_dflt (refine' truthy_method ?k1 ?k2 ?_; (case k1 => k_asm); (case k2 => k_mem); k_whole)))
local macro_rules | `(tactic| walk_at "call builtin:len") => `(tactic| (k_here; (with_reducible show wpAny _ _ (call (Value.builtin "len") [Value.str _ _]) _ _ _); refine lenT ?h1 ?_; (case h1 => k_extra "len size"); (try dsimp only)))
local macro_rules | `(tactic| walk_at "CutEnd") => `(tactic| refine Mark.out ?_)

theorem news_tail {h₀ h : Heap} {L : Addr} {e : Addr × Obj} {l : List (Addr × Obj)} (N : News h₀ L h (e :: l)) : News h₀ L h l := fun p hp => N p (.tail _ hp)

/-- the end of a statement at which a walk is cut -/
structure CutEnd (P : Heap → Prop) (s s' : Shared) : Prop where
  out : ∃ h tk, s' = { s with heap := h, toks := tk } ∧ P h
theorem cut_tk {M : Model} {A : Around} {E : Value → Shared → Prop} {s : Shared} {st : Stmt} {rest : List Stmt} {env : Env} {Q : Flow → Shared → Prop} (P : Heap → Prop) (hn : 1 ≤ s.toks)
    (hhead : wpAny M A (exec st env) (fun f s' => match f with | .next => CutEnd P s s' | f => Q f s') E s)
    (htail : ∀ h tk, 1 ≤ tk → P h → wpAny M A (execs rest env) Q E { s with heap := h, toks := tk }) :
    wpAny M A (execs (st :: rest) env) Q E s := by
  refine wpAny_execs_cons (wpAny_with_toks hn (wpAny_mono hhead (fun f s' x => ?_) (fun _ _ x _ => x)))
  cases f with
  | next =>
    intro hk
    obtain ⟨⟨h, tk, e, hp⟩⟩ := x
    subst e
    exact htail h tk hk hp
  | _ => exact fun _ => x

theorem fr_ps {g h : Heap} {L : Addr} {m : Str → Option Value} {ps : List (Str × Value)} (F : Fr g L h m) (hk : ∀ p ∈ ps, m p.1 = some p.2) : Fr g L h (kstB m ps) := by
  have e : kstB m ps = m := funext fun z => kstB_eq hk (fun _ => rfl)
  rw [e]
  exact F

structure Ms where
  tc : Tok
  ts : Tok
  tof : Tok
  pl : Int
  tpl : Tok
  pc : Int
  tpc : Tok
  buf : Value
  dp : Int
  tdp : Tok
  data : Str
  td : Tok

/-- between two statements of readChunk: the names self and data, and the ledger -/
def Mid (P : Params) (f : Fx) (own : List (Addr × Obj)) (g : Heap) (L : Addr) (errs : List Value) (ne : Nat) (Φ : Ms → Prop) (h : Heap) : Prop :=
  ∃ (u : Str → Option Value) (c : Ms), Φ c ∧ Fr g L h (kstB u [(Str.ofString "self", .ref f.x), (Str.ofString "data", .str c.data c.td)]) ∧
    News g L h (sl P f (Str.ofString "") c.tc 0 c.ts 0 c.tof errs ne c.pl c.tpl c.pc c.tpc c.buf c.dp c.tdp ++ own)

theorem c_read (f : Fx) (chunk : Str) (tc : Tok) (size : Int) (ts : Tok) (off : Int) (tof : Tok) (errs : List Value) (ne : Nat) (pl : Int) (tpl : Tok) (pc : Int) (tpc : Tok) (buf : Value) (dp : Int) (tdp : Tok) (hw : WF f.text chunk size off buf dp) (hlen : f.text.length ≤ 100) (he : errs.length ≤ 500) :
    Ctc 113 340 600 [.ref f.x] (fun P => sl P f chunk tc size ts off tof errs ne pl tpl pc tpc buf dp tdp) (fun P r pre => ∃ chunk' tc' size' ts' off' tof' errs' ne' pl' tpl' pc' tpc' buf' dp' tdp' b, r = .bool b ∧ pre = sl P f chunk' tc' size' ts' off' tof' errs' ne' pl' tpl' pc' tpc' buf' dp' tdp' ∧ RdPost (raw f.text buf dp) f.text.length errs.length chunk' size' off' errs'.length buf' dp' b) := by
  unfold Ctc
  intro w mean mg mb gd cn cs L a ccd cl outer A₀ base h₀ m s R own B F X N T hk hoff hret
  dsimp only [sl, List.cons_append, List.nil_append, List.map_cons, List.map_nil] at N hoff
  have o1 := f.o1
  have o2 := f.o2
  have o3 := f.o3
  have o4 := f.o4
  have o5 := f.o5
  have o6 := f.o6
  have hmk := kstMark
  k_with_none
  k_with "call ref" => (k_here; (with_reducible show wpAny _ _ (call (Value.ref 91) [Value.ref _, Value.int _ _]) _ _ _); k_dflt (refine' (c_pos f _ _ _ _ _ _ _ _ _ _ _ _ _ _ _ _ _).use0 ?k1 ?k2 ?k3 ?k4 ?k5 ?k6 ?k7 ?k8 ?k9 ?k10 ?k11 ?_; (case k1 => exact rfl); (case k2 => exact rfl); (case k3 => exact Nat.le_of_ble_eq_true rfl); (case k4 => exact Nat.le_of_ble_eq_true rfl); (case k5 => k_asm); (case k6 => k_asm); (case k7 => k_asm); (case k8 => k_asm); (case k9 => k_asm); (case k10 => exact rfl); (case k11 => exact hoff)); (rintro r' pre' h' tk' ⟨D, i, ti, j, tj, rfl, rfl, hlt⟩ F' N'); (try simp only [sl, AllLt, and_true] at hlt); (try dsimp only [sl, List.cons_append, List.nil_append] at N'); (try k_sweep); (try dsimp only))
  k_with "execs cons" => (k_here; first | ((with_reducible show wpAny _ _ (execs (Stmt.If (PySem.Expr.Attribute _ _ _) _ _ _ :: _) _) _ _ _); refine Mark.out ?_) | (refine execs_cons_tk ?hn ?_; (case hn => (try dsimp only); omega); (try (rename (@LE.le Nat _ 1 (Shared.toks _)) => a9; clear a9)); intro tk9 htk9; (try dsimp only)))
  (refine' code_def ?k1 ?k2 ?k3 ?k4 ?k5 ?kA ?kF ?kK ?k6 ?k7 ?k8 ?k9 ?kB ?_ ?c2 ?c3 ?c4 ?c5; (case kA => exact rfl); (case kF => exact rfl); (case kK => assumption); (case k1 => k_asm); (case k2 => k_asm); (case k3 => k_asm); (case k4 => k_asm); (case k5 => k_asm); (case k6 => k_is); (case k7 => k_is); (case k8 => ktr_room); (case k9 => first | exact BindsTo.of_eq rfl | exact binds_K (by k_in) rfl (by k_is) rfl rfl rfl); (case c5 => decide); (case kB => exact locs rfl); (case c2 => exact rfl); (case c3 => exact rfl); (case c4 => exact rfl); k_whole; intro g' L' h' FG' F' N' B' X' T'; (try dsimp only); (try k_fold))
  have hd0 := hw.hst
  have hp1 : (Txt.slice f.text (some dp) (some (dp + 10240))).cps.toList = f.text.cps.toList.drop dp.toNat := part_is f.text dp (by omega) (by omega) (by omega)
  have hp2 := part_len f.text dp (by omega) (by omega) (by omega)
  k_steps
  refine ⟨?_⟩
  k_with_none
  have hb0 := hw.hbuf
  refine cut_tk (Mid w.params f own g' L' errs ne (fun c => c.buf = .none ∧ c.dp = f.text.length ∧ c.data.cps.toList = raw f.text buf dp ∧ 1 ≤ c.data.length ∧ c.data.length ≤ 101)) ?hn ?hhead ?htail
  case hn => (try dsimp only); omega
  case hhead =>
    rename (@LE.le Nat _ 1 (Shared.toks _)) => a9
    clear a9
    rcases hb0 with rfl | ⟨b, tb, rfl, hb⟩
    · k_steps
      · refine ⟨?_⟩
        refine' CutEnd.mk ⟨_, _, rfl, _, ⟨_, _, _, _, _, _, _, _, _, _, _, _⟩, ⟨rfl, ?a1, ?a2, ?a3, ?a4⟩, fr_ps (by k_asm) ?a5, ?a6⟩
        case a5 => kst_all
        case a6 => dsimp only [sl, List.cons_append, List.nil_append]; first | k_asm | exact news_tail (by k_asm)
        case a1 => exact hp2
        case a2 => exact hp1
        case a3 => dsimp only; omega
        case a4 => dsimp only; omega
      · refine' hret _ _ _ _ ⟨_, _, _, _, _, _, _, _, _, _, _, _, _, _, _, _, rfl, rfl, ?e1⟩ ?e2 ?e3
        case e2 => k_asm
        case e3 => dsimp only [sl, List.cons_append, List.nil_append]; exact news_tail (by k_asm)
        case e1 => exact rd_end _ _ _ _ _ _ _ (by show List.drop _ _ = []; rw [← hp1]; exact List.eq_nil_of_length_eq_zero (by rw [len_cps]; omega)) rfl hp2 rfl rfl
    · k_steps
      all_goals first
        | (exfalso; omega)
        | skip
      refine ⟨?_⟩
      refine' CutEnd.mk ⟨_, _, rfl, _, ⟨_, _, _, _, _, _, _, _, _, _, _, _⟩, ⟨rfl, ?b1, ?b2, ?b3, ?b4⟩, fr_ps (by k_asm) ?b5, ?b6⟩
      case b5 => kst_all
      case b6 => dsimp only [sl, List.cons_append, List.nil_append]; first | k_asm | exact news_tail (by k_asm)
      case b1 => exact hp2
      case b2 => dsimp only; rw [Str.cps_append, Array.toList_append, hp1]; rfl
      case b3 => dsimp only; omega
      case b4 => dsimp only; omega
  case htail =>
    rename (@LE.le Nat _ 1 (Shared.toks _)) => a9
    clear a9
    rename Fr _ _ _ _ => lF'
    rename News _ _ _ _ => lN'
    clear lF' lN'
    rintro h2 tk2 htk2 ⟨u, ⟨tc2, ts2, tof2, pl2, tpl2, pc2, tpc2, buf2, dp2, tdp2, data2, td2⟩, hΦ, F2, N2⟩
    dsimp only at hΦ F2 N2
    obtain ⟨rfl, rfl, hc1, hc2, hc3⟩ := hΦ
    dsimp only [kstB] at F2
    dsimp only [sl, List.cons_append, List.nil_append] at N2
    refine cut_tk (Mid w.params f own g' L' errs ne (fun c => c.dp = f.text.length ∧ c.data.length ≤ 101 ∧ ((c.buf = .none ∧ c.data = data2) ∨ (∃ t, c.data = Txt.slice data2 none (some (-1)) ∧ c.buf = .str (Txt.item data2 (-1)) t ∧ 2 ≤ data2.length ∧ (((Txt.item data2 (-1)).cps.getD 0 0 : Nat) : Int) ≠ 10)))) ?hn ?hhead ?htail
    case hn => (try dsimp only); omega
    case hhead =>
      k_steps
      all_goals refine ⟨?_⟩
      all_goals (refine' CutEnd.mk ⟨_, _, rfl, _, ⟨_, _, _, _, _, _, _, _, _, _, _, _⟩, ⟨rfl, ?d1, ?d2⟩, fr_ps (by k_asm) ?d3, ?d4⟩; (case d3 => kst_all); (case d4 => dsimp only [sl, List.cons_append, List.nil_append]; first | k_asm | exact news_tail (by k_asm)); (case d1 => dsimp only; first | assumption | omega); (case d2 => dsimp only; first | (with_reducible exact .inl ⟨rfl, rfl⟩) | ((with_reducible refine .inr ⟨_, rfl, rfl, ?_, ?_⟩) <;> omega)))
    case htail =>
      rename Fr _ _ _ _ => lF'
      rename News _ _ _ _ => lN'
      clear lF' lN'
      rintro h3 tk3 htk3 ⟨u3, ⟨tc3, ts3, tof3, pl3, tpl3, pc3, tpc3, buf3, dp3, tdp3, data3, td3⟩, hΦ, F3, N3⟩
      dsimp only at hΦ F3 N3
      obtain ⟨rfl, hc4, hc5⟩ := hΦ
      dsimp only [kstB] at F3
      dsimp only [sl, List.cons_append, List.nil_append] at N3
      k_with "call ref" => (k_here; (with_reducible show wpAny _ _ (call (Value.ref f.q) [Value.str _ _]) _ _ _); k_dflt (refine' (c_err f _ _ _ _ _ _ _ _ _ _ _ _ _ _ _ _ _ ?kl).meth0 ?kq ?k1 ?k2 ?k3 ?k4 ?k5 ?k6 ?k7 ?k8 ?k9 ?k10 ?k11 ?_; (case k8 => k_asm); (case kq => k_mem); (case k1 => exact rfl); (case k2 => exact rfl); (case k3 => exact Nat.le_of_ble_eq_true rfl); (case k4 => exact Nat.le_of_ble_eq_true rfl); (case k5 => k_asm); (case k6 => k_asm); (case k7 => k_asm);  (case k9 => k_asm); (case k10 => exact rfl); (case k11 => exact hoff); (case kl => omega)); (rintro r' pre' h' tk' ⟨errs', ne', rfl, rfl, hlt⟩ F' N'); (try dsimp only [sl, List.cons_append, List.nil_append] at N'); (try k_sweep); (try dsimp only))
      k_with "execs cons" => (k_here; (first | (with_reducible show wpAny _ _ (execs (Stmt.If (PySem.Expr.Attribute _ _ _) _ _ _ :: _) _) _ _ _) | (with_reducible show wpAny _ _ (execs (Stmt.Assign [PySem.Expr.Name _ _] _ _ :: _) _) _ _ _)); refine execs_cons_tk ?hn ?_; (case hn => (try dsimp only); omega); intro tk9 htk9; (try dsimp only))
      k_with "len size" => (refine Nat.le_trans (len_mend _) ?_; omega)
      k_with "replace size" => first | omega | (refine Nat.le_trans (len_crlf _) ?_; omega)
      k_steps
      refine' hret _ _ _ _ ⟨_, _, _, _, _, _, _, _, _, _, _, _, _, _, _, _, rfl, rfl, ?e1⟩ ?e2 ?e3
      case e2 => k_asm
      case e3 => dsimp only [sl, List.cons_append, List.nil_append]; first | k_asm | exact news_tail (by k_asm)
      case e1 =>
        rcases hc5 with ⟨rfl, rfl⟩ | ⟨t, rfl, rfl, hc6, hc7⟩
        · with_reducible exact rd_no _ _ _ _ _ _ _ _ hc1 hc2 rfl rfl rfl (by assumption)
        · with_reducible exact rd_cut _ _ _ _ _ _ _ _ _ hc1 hc6 hc7 rfl rfl rfl (by assumption)
end
section -- C8
local macro_rules | `(tactic| walk_at "call ref") => `(tactic| k_extra "call ref")
local macro_rules | `(tactic| walk_at "exec While") => `(tactic| (k_here; refine Mark.out ?_))
local macro_rules | `(tactic| walk_at "call builtin:str.join") => `(tactic| (k_here; (with_reducible show wpAny _ _ (call (Value.builtin "str.join") [Value.str _ _, Value.ref _]) _ _ _); refine' join_listW ?j1 ?j2 ?j3 ?j4 ?_; (case j1 => exact News.isList (by k_asm) (by k_mem)); (case j2 => k_extra "join strs"); (case j3 => decide); (case j4 => k_extra "join size"); intro t8 k8; (try dsimp only)))
local macro_rules | `(tactic| walk_at "newList") => `(tactic| k_extra "newList")
structure Os where
  chunk : Str
  tc : Tok
  size : Int
  ts : Tok
  off : Int
  tof : Tok
  errs : List Value
  ne : Nat
  pl : Int
  tpl : Tok
  pc : Int
  tpc : Tok
  buf : Value
  dp : Int
  tdp : Tok
  ws : List Value
  us : List Str
  wn : Nat

theorem bind_at {K : Frag} {a : Addr} {s : Shared} {fd fd0 : FuncData} {oc oc0 : Value} {od od0 : Option Addr} {osl osl0 : Array (Option Value)} {args : Args} {binds : List (Str × Value)} (h0 : K.lookup a = some ⟨oc0, od0, .func fd0, osl0⟩) (h1 : K.lookup a = some ⟨oc, od, .func fd, osl⟩)
    (h : BindsTo s fd0 args binds) : BindsTo s fd args binds := by
  have e := h0.symm.trans h1
  injection e with e
  injection e with e1 e2 e3 e4
  injection e3 with e3
  rw [← e3]
  exact h
theorem c_charsG (vs : List Value) (f : Fx) (chunk : Str) (tc : Tok) (size : Int) (ts : Tok) (off : Int) (tof : Tok) (errs : List Value) (ne : Nat) (pl : Int) (tpl : Tok) (pc : Int) (tpc : Tok) (buf : Value) (dp : Int) (tdp : Tok) (ct : Nat) (cv : List Value) (cs : List Str) (opp : Bool)
    (hbind : ∀ (w : World) (s : Shared) (fd : FuncData) (oc : Value) (od : Option Addr) (osl : Array (Option Value)), (hd.heap_39 w.params).lookup 128 = some ⟨oc, od, .func fd, osl⟩ → (hd.heap_39 w.params).In s.heap → BindsTo s fd ⟨vs, []⟩ [(Str.ofString "self", .ref f.x), (Str.ofString "characters", .ref ct), (Str.ofString "opposite", .bool opp)])
    (hcs : StrsAre cv cs) (hct : f.e < ct) (hw : WF f.text chunk size off buf dp) (hlen : f.text.length ≤ 100) (he : errs.length + badL (raw f.text buf dp) ≤ 500) :
    Ctc 128 330 500 vs (fun P => (ct, ({ cls := .type "tuple", data := .seq cv.toArray } : Obj)) :: sl P f chunk tc size ts off tof errs ne pl tpl pc tpc buf dp tdp)
      (fun P r pre => ∃ R tR chunk' tc' size' ts' off' tof' errs' ne' pl' tpl' pc' tpc' buf' dp' tdp', r = .str R tR ∧ pre = (ct, ({ cls := .type "tuple", data := .seq cv.toArray } : Obj)) :: sl P f chunk' tc' size' ts' off' tof' errs' ne' pl' tpl' pc' tpc' buf' dp' tdp' ∧
        CPost f.text (wantP cs opp) (pend f.text chunk off buf dp) (errs.length + badL (raw f.text buf dp)) R chunk' size' off' errs'.length buf' dp') := by
  unfold Ctc
  intro w mean mg mb gd cn cs' L a ccd cl outer A₀ base h₀ m s R own B F X N T hk hoff hret
  dsimp only [sl, List.cons_append, List.nil_append, List.map_cons, List.map_nil] at N hoff
  have o1 := f.o1
  have o2 := f.o2
  have o3 := f.o3
  have o4 := f.o4
  have o5 := f.o5
  have o6 := f.o6
  have hmk := kstMark
  k_with_none
  k_with "newList" => (k_here; k_dflt (refine' newList_K ?k1 ?k2 ?_; (case k1 => k_asm); (case k2 => k_asm); k_whole); intro rvA h2 F2 N2 l1; (try k_lt l1); (try k_sweep))
  (refine' code_def ?k1 ?k2 ?k3 ?k4 ?k5 ?kA ?kF ?kK ?k6 ?k7 ?k8 ?k9 ?kB ?_ ?c2 ?c3 ?c4 ?c5; (case kA => exact rfl); (case kF => exact rfl); (case kK => assumption); (case k1 => k_asm); (case k2 => k_asm); (case k3 => k_asm); (case k4 => k_asm); (case k5 => k_asm); (case k6 => k_is); (case k7 => k_is); (case k8 => ktr_room); (case k9 => exact hbind _ _ _ _ _ _ (by k_is) (by k_in)); (case c5 => decide); (case kB => exact locs rfl); (case c2 => exact rfl); (case c3 => exact rfl); (case c4 => exact rfl); k_whole; intro g' L' h' FG' F' N' B' X' T'; (try dsimp only); (try k_fold))
  k_steps
  refine ⟨?_⟩
  rename Fr _ _ _ _ => lF'
  rename News _ _ _ _ => lN'
  with_unfolding_all refine' ksw_while (fun c : Os => (rvA, listOf c.ws.toArray c.wn) :: (ct, ({ cls := .type "tuple", data := .seq cv.toArray } : Obj)) :: (sl w.params f c.chunk c.tc c.size c.ts c.off c.tof c.errs c.ne c.pl c.tpl c.pc c.tpc c.buf c.dp c.tdp ++ own)) (fun _ => []) (fun c => StrsAre c.ws c.us) [Str.ofString "end"] (fun c => CInv f.text (wantP cs opp) (pend f.text chunk off buf dp) (errs.length + badL (raw f.text buf dp)) c.us c.chunk c.size c.off c.errs.length c.buf c.dp ∧ c.us.length + (raw f.text c.buf c.dp).length ≤ 200) (fun c => (raw f.text c.buf c.dp).length) (⟨chunk, tc, size, ts, off, tof, errs, ne, pl, tpl, pc, tpc, buf, dp, tdp, [], [], 0⟩ : Os) lF' lN' .nil (fun _ h => nomatch h) ⟨CInv.begin hw, by have := raw_len (text := f.text) (dp := dp) hw.hbuf; simp only [List.length_nil]; omega⟩ ?_
  clear lF' lN'
  rintro ⟨chunk1, tc1, size1, ts1, off1, tof1, errs1, ne1, pl1, tpl1, pc1, tpc1, buf1, dp1, tdp1, ws1, us1, wn1⟩ u1 h1 tk1 hS ⟨hI, hB⟩ F1 N1
  dsimp only at hS hI hB
  dsimp only [kstB] at F1
  simp only [sl, List.cons_append, List.nil_append] at N1
  have hw1 := hI.wf
  have hz1 := hw1.hsize
  have ho1 := hw1.off0
  have ho2 := hw1.off1
  have hcl := hw1.hlen
  have hul := hI.len
  have hpl := pend_len hw
  have hrl := raw_len (text := f.text) (dp := dp1) hw1.hbuf
  try k_fold
  k_with "call ref" => (k_here; (try dsimp only [List.append_nil, List.cons_append, List.nil_append]); (with_reducible show wpAny _ _ (call (Value.ref 113) [Value.ref _]) _ _ _); (first | (exfalso; omega) | (refine Mark.out ?_)))
  k_with "join strs" => first | exact hS | (rw [Array.toList_push]; exact StrsAre.append' hS (.cons _ _ .nil))
  k_with "join size" => first | omega | (simp only [List.map_append, List.sum_append, List.map_cons, List.map_nil, List.sum_cons, List.sum_nil, List.length_append, List.length_cons, List.length_nil]; omega)
  k_steps
  refine ⟨?_⟩
  rename Fr _ _ _ _ => lF'
  rename News _ _ _ _ => lN'
  with_unfolding_all refine' ksw_while (fun _ : Int × Tok => (rvA, listOf ws1.toArray wn1) :: (ct, ({ cls := .type "tuple", data := .seq cv.toArray } : Obj)) :: (sl w.params f chunk1 tc1 size1 ts1 off1 tof1 errs1 ne1 pl1 tpl1 pc1 tpc1 buf1 dp1 tdp1 ++ own)) (fun c => [(Str.ofString "end", Value.int c.1 c.2)]) (fun _ => True) [] (fun c => off1 ≤ c.1 ∧ c.1 ≤ size1 ∧ ((chunk1.cps.toList.drop off1.toNat).take (c.1 - off1).toNat).all (wantP cs opp) = true) (fun c => (size1 - c.1).toNat) (off1, tof1) lF' lN' trivial (by kst_all) ⟨Int.le_refl _, ho2, seg_start _ _ _⟩ ?_
  clear lF' lN'
  rintro ⟨en1, ten1⟩ u2 h2 tk2 - ⟨hE1, hE2, hE3⟩ F2 N2
  dsimp only at hE1 hE2 hE3
  dsimp only [kstB] at F2
  simp only [sl, List.cons_append, List.nil_append] at N2
  try k_fold
  k_steps
  all_goals try (exfalso; omega)
  · rename News _ _ _ _ => nE'
    replace nE' := (id nE' : News _ _ _ ((rvA, listOf ws1.toArray wn1) :: (ct, ({ cls := .type "tuple", data := .seq cv.toArray } : Obj)) :: (sl w.params f chunk1 tc1 size1 ts1 off1 tof1 errs1 ne1 pl1 tpl1 pc1 tpc1 buf1 dp1 tdp1 ++ own)))
    refine ksw_end (⟨_, _⟩ : Int × Tok) (by k_asm) nE' (fun p hp => hp) trivial (by kst_all) (by ksw_same) ?_ ?_
    · dsimp only
      rename _ ≠ size1 => hne
      rename (_ == opp) = true => hp
      rw [item_at (by omega) (by omega)] at hp
      exact ⟨by omega, by omega, seg_next _ _ _ _ ho1 hE1 (by rw [len_cps]; omega) hE3 hp⟩
    · dsimp only
      omega
  · rename (_ == opp) = false => hp
    rename _ = off1 => he1
    rw [he1, item_at (by omega) (by omega)] at hp
    refine' hret _ _ _ _ ⟨_, _, _, _, _, _, _, _, _, _, _, _, _, _, _, _, _, rfl, rfl, hI.stop0 (by omega) hp⟩ ?e2 ?e3
    case e2 => k_asm
    case e3 => dsimp only [sl, List.cons_append, List.nil_append]; exact news_tail (by k_asm)
  · rename (_ == opp) = false => hp
    rw [item_at (by omega) (by omega)] at hp
    refine' hret _ _ _ _ ⟨_, _, _, _, _, _, _, _, _, _, _, _, _, _, _, _, _, rfl, rfl, hI.stop1 hE1 (by omega) hE3 hp⟩ ?e2 ?e3
    case e2 => k_asm
    case e3 => dsimp only [sl, List.cons_append, List.nil_append]; exact news_tail (by k_asm)
  · refine ⟨?_⟩
    k_dflt (refine' (c_read f chunk1 tc1 size1 ts1 off1 tof1 errs1 ne1 pl1 tpl1 pc1 tpc1 buf1 dp1 tdp1 hw1 hlen (by have := hI.tot; omega)).use2k ?k1 ?k2 ?k3 ?k4 ?k5 ?k6 ?k7 ?k8 ?k9 ?k10 ?ka ?kb ?k11 ?_)
    case k1 => exact rfl
    case k2 => exact rfl
    case k3 => exact Nat.le_of_ble_eq_true rfl
    case k4 => exact Nat.le_of_ble_eq_true rfl
    case k5 => k_asm
    case k6 => k_asm
    case k7 => k_asm
    case k8 => k_asm
    case k9 => k_asm
    case k10 => exact rfl
    case k11 => exact fun p hp b hb => hoff p hp b (.tail _ hb)
    case ka => (intro b hb; simp only [sl, List.map_cons, List.map_nil, List.mem_cons, List.not_mem_nil, or_false] at hb; rcases hb with rfl | rfl | rfl | rfl | rfl | rfl | rfl <;> k_ne)
    case kb => (intro b hb; simp only [sl, List.map_cons, List.map_nil, List.mem_cons, List.not_mem_nil, or_false] at hb; rcases hb with rfl | rfl | rfl | rfl | rfl | rfl | rfl <;> k_ne)
    rintro r' pre' h' tk' ⟨chunk2, tc2, size2, ts2, off2, tof2, errs2, ne2, pl2, tpl2, pc2, tpc2, buf2, dp2, tdp2, b2, rfl, rfl, hrd⟩ F' N'
    dsimp only [sl, List.cons_append, List.nil_append] at N'
    k_sweep
    try dsimp only
    cases b2
    · k_steps
      refine' hret _ _ _ _ ⟨_, _, _, _, _, _, _, _, _, _, _, _, _, _, _, _, _, rfl, rfl, hI.last hE1 (by omega) hE3 hrd⟩ ?e2 ?e3
      case e2 => k_asm
      case e3 => dsimp only [sl, List.cons_append, List.nil_append]; exact news_tail (by k_asm)
    · k_steps
      rename News _ _ _ _ => nE'
      simp only [List.push_toArray] at nE'
      replace nE' := (id nE' : News _ _ _ ((rvA, listOf (List.toArray _) _) :: (ct, ({ cls := .type "tuple", data := .seq cv.toArray } : Obj)) :: (sl w.params f chunk2 tc2 size2 ts2 off2 tof2 errs2 ne2 pl2 tpl2 pc2 tpc2 buf2 dp2 tdp2 ++ own)))
      refine ksw_end (⟨chunk2, tc2, size2, ts2, off2, tof2, errs2, ne2, pl2, tpl2, pc2, tpc2, buf2, dp2, tdp2, _, _, _⟩ : Os) (by k_asm) nE' (fun p hp => hp) (StrsAre.append' hS (.cons _ _ .nil)) (fun _ h => nomatch h) (by ksw_same) ?_ ?_
      · refine ⟨hI.more hE1 (by omega) hE3 hrd, ?_⟩
        have := hrd.less
        simp only [List.length_append, List.length_cons, List.length_nil]
        omega
      · exact hrd.less
  · refine ⟨?_⟩
    k_dflt (refine' (c_read f chunk1 tc1 size1 ts1 off1 tof1 errs1 ne1 pl1 tpl1 pc1 tpc1 buf1 dp1 tdp1 hw1 hlen (by have := hI.tot; omega)).use2k ?k1 ?k2 ?k3 ?k4 ?k5 ?k6 ?k7 ?k8 ?k9 ?k10 ?ka ?kb ?k11 ?_)
    case k1 => exact rfl
    case k2 => exact rfl
    case k3 => exact Nat.le_of_ble_eq_true rfl
    case k4 => exact Nat.le_of_ble_eq_true rfl
    case k5 => k_asm
    case k6 => k_asm
    case k7 => k_asm
    case k8 => k_asm
    case k9 => k_asm
    case k10 => exact rfl
    case k11 => exact fun p hp b hb => hoff p hp b (.tail _ hb)
    case ka => (intro b hb; simp only [sl, List.map_cons, List.map_nil, List.mem_cons, List.not_mem_nil, or_false] at hb; rcases hb with rfl | rfl | rfl | rfl | rfl | rfl | rfl <;> k_ne)
    case kb => (intro b hb; simp only [sl, List.map_cons, List.map_nil, List.mem_cons, List.not_mem_nil, or_false] at hb; rcases hb with rfl | rfl | rfl | rfl | rfl | rfl | rfl <;> k_ne)
    rintro r' pre' h' tk' ⟨chunk2, tc2, size2, ts2, off2, tof2, errs2, ne2, pl2, tpl2, pc2, tpc2, buf2, dp2, tdp2, b2, rfl, rfl, hrd⟩ F' N'
    dsimp only [sl, List.cons_append, List.nil_append] at N'
    k_sweep
    try dsimp only
    cases b2
    · k_steps
      refine' hret _ _ _ _ ⟨_, _, _, _, _, _, _, _, _, _, _, _, _, _, _, _, _, rfl, rfl, hI.last hE1 (by omega) hE3 hrd⟩ ?e2 ?e3
      case e2 => k_asm
      case e3 => dsimp only [sl, List.cons_append, List.nil_append]; exact news_tail (by k_asm)
    · k_steps
      rename News _ _ _ _ => nE'
      simp only [List.push_toArray] at nE'
      replace nE' := (id nE' : News _ _ _ ((rvA, listOf (List.toArray _) _) :: (ct, ({ cls := .type "tuple", data := .seq cv.toArray } : Obj)) :: (sl w.params f chunk2 tc2 size2 ts2 off2 tof2 errs2 ne2 pl2 tpl2 pc2 tpc2 buf2 dp2 tdp2 ++ own)))
      refine ksw_end (⟨chunk2, tc2, size2, ts2, off2, tof2, errs2, ne2, pl2, tpl2, pc2, tpc2, buf2, dp2, tdp2, _, _, _⟩ : Os) (by k_asm) nE' (fun p hp => hp) (StrsAre.append' hS (.cons _ _ .nil)) (fun _ h => nomatch h) (by ksw_same) ?_ ?_
      · refine ⟨hI.more hE1 (by omega) hE3 hrd, ?_⟩
        have := hrd.less
        simp only [List.length_append, List.length_cons, List.length_nil]
        omega
      · exact hrd.less
theorem c_chars (f : Fx) (chunk : Str) (tc : Tok) (size : Int) (ts : Tok) (off : Int) (tof : Tok) (errs : List Value) (ne : Nat) (pl : Int) (tpl : Tok) (pc : Int) (tpc : Tok) (buf : Value) (dp : Int) (tdp : Tok) (ct : Nat) (cv : List Value) (cs : List Str) (opp : Bool)
    (hcs : StrsAre cv cs) (hct : f.e < ct) (hw : WF f.text chunk size off buf dp) (hlen : f.text.length ≤ 100) (he : errs.length + badL (raw f.text buf dp) ≤ 500) :
    Ctc 128 330 500 [.ref f.x, .ref ct, .bool opp] (fun P => (ct, ({ cls := .type "tuple", data := .seq cv.toArray } : Obj)) :: sl P f chunk tc size ts off tof errs ne pl tpl pc tpc buf dp tdp)
      (fun P r pre => ∃ R tR chunk' tc' size' ts' off' tof' errs' ne' pl' tpl' pc' tpc' buf' dp' tdp', r = .str R tR ∧ pre = (ct, ({ cls := .type "tuple", data := .seq cv.toArray } : Obj)) :: sl P f chunk' tc' size' ts' off' tof' errs' ne' pl' tpl' pc' tpc' buf' dp' tdp' ∧
        CPost f.text (wantP cs opp) (pend f.text chunk off buf dp) (errs.length + badL (raw f.text buf dp)) R chunk' size' off' errs'.length buf' dp') :=
  c_charsG _ f chunk tc size ts off tof errs ne pl tpl pc tpc buf dp tdp ct cv cs opp (by
    intro w s fd oc od osl hl hX
    refine' bind_at ?h0 hl ?_
    case h0 => k_is
    first | exact BindsTo.of_eq rfl | exact binds_K hX rfl (by k_is) rfl rfl rfl) hcs hct hw hlen he
theorem c_charsD (f : Fx) (chunk : Str) (tc : Tok) (size : Int) (ts : Tok) (off : Int) (tof : Tok) (errs : List Value) (ne : Nat) (pl : Int) (tpl : Tok) (pc : Int) (tpc : Tok) (buf : Value) (dp : Int) (tdp : Tok) (ct : Nat) (cv : List Value) (cs : List Str)
    (hcs : StrsAre cv cs) (hct : f.e < ct) (hw : WF f.text chunk size off buf dp) (hlen : f.text.length ≤ 100) (he : errs.length + badL (raw f.text buf dp) ≤ 500) :
    Ctc 128 330 500 [.ref f.x, .ref ct] (fun P => (ct, ({ cls := .type "tuple", data := .seq cv.toArray } : Obj)) :: sl P f chunk tc size ts off tof errs ne pl tpl pc tpc buf dp tdp)
      (fun P r pre => ∃ R tR chunk' tc' size' ts' off' tof' errs' ne' pl' tpl' pc' tpc' buf' dp' tdp', r = .str R tR ∧ pre = (ct, ({ cls := .type "tuple", data := .seq cv.toArray } : Obj)) :: sl P f chunk' tc' size' ts' off' tof' errs' ne' pl' tpl' pc' tpc' buf' dp' tdp' ∧
        CPost f.text (wantP cs false) (pend f.text chunk off buf dp) (errs.length + badL (raw f.text buf dp)) R chunk' size' off' errs'.length buf' dp') :=
  c_charsG _ f chunk tc size ts off tof errs ne pl tpl pc tpc buf dp tdp ct cv cs false (by
    intro w s fd oc od osl hl hX
    refine' bind_at ?h0 hl ?_
    case h0 => k_is
    first | exact BindsTo.of_eq rfl | exact binds_K hX rfl (by k_is) rfl rfl rfl) hcs hct hw hlen he
end
section -- Plain5
structure ChPost (text : Str) (pend0 : List Nat) (tot0 : Nat) (r : Value) (chunk : Str) (size off : Int) (en : Nat) (buf : Value) (dp : Int) : Prop where
  wf : WF text chunk size off buf dp
  tot : en + badL (raw text buf dp) = tot0
  out : (pend0 = [] ∧ r = .none ∧ pend text chunk off buf dp = []) ∨ ∃ c t, r = .str ⟨#[c]⟩ t ∧ pend0 = c :: pend text chunk off buf dp ∧ 1 ≤ off ∧ chunk.cps.toList.getD (off - 1).toNat 0 = c

section
variable {text chunk : Str} {size off : Int} {en : Nat} {buf : Value} {dp : Int}

theorem pend_cons (hw : WF text chunk size off buf dp) (h : off < size) : pend text chunk off buf dp = chunk.cps.toList.getD off.toNat 0 :: pend text chunk (off + 1) buf dp := by
  have h0 := hw.off0
  have hs := hw.hsize
  have hl : off.toNat < chunk.cps.toList.length := by rw [len_cps]; omega
  have hg : chunk.cps.toList.getD off.toNat 0 = chunk.cps.toList[off.toNat] := (List.getElem_eq_getD 0).symm
  have e1 : (off + 1).toNat = off.toNat + 1 := by omega
  unfold pend
  rw [List.drop_eq_getElem_cons hl, hg, e1]
  rfl
theorem pend_at_end (hw : WF text chunk size off buf dp) (h : size ≤ off) : pend text chunk off buf dp = mendL (raw text buf dp) := by
  have hs := hw.hsize
  unfold pend
  rw [List.drop_of_length_le (by rw [len_cps]; omega)]
  rfl

/-- a sign of the chunk at hand -/
theorem ch_here (hw : WF text chunk size off buf dp) (h : off < size) (t : Tok) :
    ChPost text (pend text chunk off buf dp) (en + badL (raw text buf dp)) (.str (Txt.item chunk off) t) chunk size (off + 1) en buf dp := by
  have h0 := hw.off0
  have hs := hw.hsize
  refine ⟨⟨hs, by omega, by omega, hw.hbuf, hw.hst, hw.hlen⟩, rfl, .inr ⟨_, t, ?_, pend_cons hw h, by omega, ?_⟩⟩
  · rw [item_at h0 (by omega)]
  · rw [show off + 1 - 1 = off from by omega]
/-- nothing is left -/
theorem ch_end (hw : WF text chunk size off buf dp) (h : size ≤ off) {chunk' : Str} {size' off' : Int} {en' : Nat} {buf' : Value} {dp' : Int} (hr : RdPost (raw text buf dp) text.length en chunk' size' off' en' buf' dp' false) :
    ChPost text (pend text chunk off buf dp) (en + badL (raw text buf dp)) .none chunk' size' off' en' buf' dp' := by
  refine ⟨hr.wf hw.hbuf, hr.tot, .inl ⟨?_, rfl, ?_⟩⟩
  · rw [pend_at_end hw h, hr.raw0]; rfl
  · rw [hr.pend, hr.raw0]; rfl
theorem rd_pos {rw0 : List Nat} {tl en : Nat} {chunk' : Str} {size' off' : Int} {en' : Nat} {buf' : Value} {dp' : Int} (hr : RdPost rw0 tl en chunk' size' off' en' buf' dp' true) : off' < size' := by
  rw [hr.off, hr.size]
  rcases hr.last with h | h
  · cases h.1
  · have := h.2.2; omega
/-- the first sign of a new chunk -/
theorem ch_new (hw : WF text chunk size off buf dp) (h : size ≤ off) {chunk' : Str} {size' off' : Int} {en' : Nat} {buf' : Value} {dp' : Int} (hr : RdPost (raw text buf dp) text.length en chunk' size' off' en' buf' dp' true) (t : Tok) :
    ChPost text (pend text chunk off buf dp) (en + badL (raw text buf dp)) (.str (Txt.item chunk' off') t) chunk' size' (off' + 1) en' buf' dp' := by
  have := ch_here (en := en') (hr.wf hw.hbuf) (rd_pos hr) t
  rw [hr.pend, hr.tot] at this
  rw [pend_at_end hw h]
  exact this
end
end
section -- C10
local macro_rules | `(tactic| walk_at "call ref") => `(tactic| k_extra "call ref")
local macro_rules | `(tactic| walk_at "subscriptTail") => `(tactic| (k_here; (with_reducible show wpAny _ _ (subscriptTail _ _ (Value.str _ _) (Value.int _ _)) _ _ _); (refine item_str (fitsSsize_of (N := 9223372036854775808) (by omega) (by omega) (Int.le_refl _)) (by omega) (by omega) ?_); intro _))

theorem c_char (f : Fx) (chunk : Str) (tc : Tok) (size : Int) (ts : Tok) (off : Int) (tof : Tok) (errs : List Value) (ne : Nat) (pl : Int) (tpl : Tok) (pc : Int) (tpc : Tok) (buf : Value) (dp : Int) (tdp : Tok)
    (hw : WF f.text chunk size off buf dp) (hlen : f.text.length ≤ 100) (he : errs.length + badL (raw f.text buf dp) ≤ 500) :
    Ctc 105 330 500 [.ref f.x] (fun P => sl P f chunk tc size ts off tof errs ne pl tpl pc tpc buf dp tdp)
      (fun P r pre => ∃ chunk' tc' size' ts' off' tof' errs' ne' pl' tpl' pc' tpc' buf' dp' tdp', pre = sl P f chunk' tc' size' ts' off' tof' errs' ne' pl' tpl' pc' tpc' buf' dp' tdp' ∧
        ChPost f.text (pend f.text chunk off buf dp) (errs.length + badL (raw f.text buf dp)) r chunk' size' off' errs'.length buf' dp') := by
  unfold Ctc
  intro w mean mg mb gd cn cs' L a ccd cl outer A₀ base h₀ m s R own B F X N T hk hoff hret
  dsimp only [sl, List.cons_append, List.nil_append, List.map_cons, List.map_nil] at N hoff
  have o1 := f.o1
  have o2 := f.o2
  have o3 := f.o3
  have o4 := f.o4
  have o5 := f.o5
  have o6 := f.o6
  have hz1 := hw.hsize
  have ho1 := hw.off0
  have ho2 := hw.off1
  have hcl := hw.hlen
  have hmk := kstMark
  k_with_none
  k_with "call ref" => (k_here; (try dsimp only [List.append_nil, List.cons_append, List.nil_append]); (with_reducible show wpAny _ _ (call (Value.ref 113) [Value.ref _]) _ _ _); (first | (exfalso; omega) | (refine Mark.out ?_)))
  (refine' code_def ?k1 ?k2 ?k3 ?k4 ?k5 ?kA ?kF ?kK ?k6 ?k7 ?k8 ?k9 ?kB ?_ ?c2 ?c3 ?c4 ?c5; (case kA => exact rfl); (case kF => exact rfl); (case kK => assumption); (case k1 => k_asm); (case k2 => k_asm); (case k3 => k_asm); (case k4 => k_asm); (case k5 => k_asm); (case k6 => k_is); (case k7 => k_is); (case k8 => ktr_room); (case k9 => first | exact BindsTo.of_eq rfl | exact binds_K (by k_in) rfl (by k_is) rfl rfl rfl); (case c5 => decide); (case kB => exact locs rfl); (case c2 => exact rfl); (case c3 => exact rfl); (case c4 => exact rfl); k_whole; intro g' L' h' FG' F' N' B' X' T'; (try dsimp only); (try k_fold))
  k_steps
  · refine ⟨?_⟩
    k_dflt (refine' (c_read f chunk tc size ts off tof errs ne pl tpl pc tpc buf dp tdp hw hlen (by omega)).use0 ?k1 ?k2 ?k3 ?k4 ?k5 ?k6 ?k7 ?k8 ?k9 ?k10 ?k11 ?_)
    case k1 => exact rfl
    case k2 => exact rfl
    case k3 => exact Nat.le_of_ble_eq_true rfl
    case k4 => exact Nat.le_of_ble_eq_true rfl
    case k5 => k_asm
    case k6 => k_asm
    case k7 => k_asm
    case k8 => k_asm
    case k9 => k_asm
    case k10 => exact rfl
    case k11 => exact hoff
    rintro r' pre' h' tk' ⟨chunk2, tc2, size2, ts2, off2, tof2, errs2, ne2, pl2, tpl2, pc2, tpc2, buf2, dp2, tdp2, b2, rfl, rfl, hrd⟩ F' N'
    dsimp only [sl, List.cons_append, List.nil_append] at N'
    k_sweep
    try dsimp only
    cases b2
    · k_steps
      refine' hret _ _ _ _ ⟨_, _, _, _, _, _, _, _, _, _, _, _, _, _, _, rfl, ch_end hw (by omega) hrd⟩ ?e2 ?e3
      case e2 => k_asm
      case e3 => dsimp only [sl, List.cons_append, List.nil_append]; k_asm
    · have hp1 := rd_pos hrd
      have hp2 := hrd.off
      have hp3 := hrd.size
      k_steps
      refine' hret _ _ _ _ ⟨_, _, _, _, _, _, _, _, _, _, _, _, _, _, _, rfl, ch_new hw (by omega) hrd _⟩ ?e2 ?e3
      case e2 => k_asm
      case e3 => dsimp only [sl, List.cons_append, List.nil_append]; k_asm
  · refine' hret _ _ _ _ ⟨_, _, _, _, _, _, _, _, _, _, _, _, _, _, _, rfl, ch_here hw (by omega) _⟩ ?e2 ?e3
    case e2 => k_asm
    case e3 => dsimp only [sl, List.cons_append, List.nil_append]; k_asm

theorem c_unget (f : Fx) (chunk : Str) (tc : Tok) (size : Int) (ts : Tok) (off : Int) (tof : Tok) (errs : List Value) (ne : Nat) (pl : Int) (tpl : Tok) (pc : Int) (tpc : Tok) (buf : Value) (dp : Int) (tdp : Tok) (c : Nat) (t : Tok)
    (hs : size = chunk.length) (hcl : chunk.length ≤ 1000) (h1 : 1 ≤ off) (h2 : off ≤ size) (hc : chunk.cps.toList.getD (off - 1).toNat 0 = c) :
    Ctc 135 330 500 [.ref f.x, .str ⟨#[c]⟩ t] (fun P => sl P f chunk tc size ts off tof errs ne pl tpl pc tpc buf dp tdp)
      (fun P r pre => ∃ tof', pre = sl P f chunk tc size ts (off - 1) tof' errs ne pl tpl pc tpc buf dp tdp ∧ r = .none) := by
  unfold Ctc
  intro w mean mg mb gd cn cs' L a ccd cl outer A₀ base h₀ m s R own B F X N T hk hoff hret
  dsimp only [sl, List.cons_append, List.nil_append, List.map_cons, List.map_nil] at N hoff
  have o1 := f.o1
  have o2 := f.o2
  have o3 := f.o3
  have o4 := f.o4
  have o5 := f.o5
  have o6 := f.o6
  have hmk := kstMark
  k_with_none
  (refine' code_def ?k1 ?k2 ?k3 ?k4 ?k5 ?kA ?kF ?kK ?k6 ?k7 ?k8 ?k9 ?kB ?_ ?c2 ?c3 ?c4 ?c5; (case kA => exact rfl); (case kF => exact rfl); (case kK => assumption); (case k1 => k_asm); (case k2 => k_asm); (case k3 => k_asm); (case k4 => k_asm); (case k5 => k_asm); (case k6 => k_is); (case k7 => k_is); (case k8 => ktr_room); (case k9 => first | exact BindsTo.of_eq rfl | exact binds_K (by k_in) rfl (by k_is) rfl rfl rfl); (case c5 => decide); (case kB => exact locs rfl); (case c2 => exact rfl); (case c3 => exact rfl); (case c4 => exact rfl); k_whole; intro g' L' h' FG' F' N' B' X' T'; (try dsimp only); (try k_fold))
  k_steps
  all_goals try (exfalso; omega)
  · refine' hret _ _ _ _ ⟨_, rfl, rfl⟩ ?e2 ?e3
    case e2 => k_asm
    case e3 => dsimp only [sl, List.cons_append, List.nil_append]; k_asm
  · exfalso
    rename (_ == _) = false => hq
    rw [item_at (by omega) (by omega), hc] at hq
    simp at hq
end
section -- Plain6
def sg (k : Int) : Str := List.getD [Str.ofString "a", Str.ofString "b", Str.ofString "<", Str.ofString " ", Str.ofString "\r", Str.ofString "\n", Str.ofString "&", Str.ofString "\x01", Str.ofString "\ufdd0", Str.ofString "é"] (k.fmod 10).toNat Str.empty
def isSign (c : Nat) : Bool := [97, 98, 60, 32, 13, 10, 38, 1, 64976, 233].contains c
theorem sg_all : ∀ i : Nat, i < 10 → (List.getD [Str.ofString "a", Str.ofString "b", Str.ofString "<", Str.ofString " ", Str.ofString "\r", Str.ofString "\n", Str.ofString "&", Str.ofString "\x01", Str.ofString "\ufdd0", Str.ofString "é"] i Str.empty).length = 1 ∧
    (List.getD [Str.ofString "a", Str.ofString "b", Str.ofString "<", Str.ofString " ", Str.ofString "\r", Str.ofString "\n", Str.ofString "&", Str.ofString "\x01", Str.ofString "\ufdd0", Str.ofString "é"] i Str.empty).cps.toList.all isSign = true := by decide +kernel
theorem sg_ok (k : Int) : (sg k).length = 1 ∧ (sg k).cps.toList.all isSign = true := by
  refine sg_all _ ?_
  have h1 := Int.fmod_nonneg_of_pos k (b := 10) (by decide)
  have h2 := Int.fmod_lt_of_pos k (b := 10) (by decide)
  omega
theorem text_is (l : List Int) : (Txt.join (Str.ofString "") (l.map sg)).cps.toList = (l.map fun k => (sg k).cps.toList).flatten := by
  rw [join_nil, List.map_map]; rfl
theorem text_len (l : List Int) : (Txt.join (Str.ofString "") (l.map sg)).length = l.length := by
  rw [← len_cps, text_is]
  induction l with
  | nil => rfl
  | cons k r ih =>
    rw [List.map_cons, List.flatten_cons, List.length_append, ih, len_cps, (sg_ok k).1, List.length_cons]
    omega
theorem text_sign (l : List Int) : (Txt.join (Str.ofString "") (l.map sg)).cps.toList.all isSign = true := by
  rw [text_is]
  induction l with
  | nil => rfl
  | cons k r ih =>
    rw [List.map_cons, List.flatten_cons, List.all_append, ih, (sg_ok k).2]
    rfl
theorem text_size (l : List Int) : ((l.map sg).map (·.length)).sum + (l.map sg).length = 2 * l.length := by
  induction l with
  | nil => rfl
  | cons k r ih =>
    simp only [List.map_cons, List.sum_cons, List.length_cons, (sg_ok k).1] at ih ⊢
    omega
theorem sign_inv : ∀ c : Nat, isSign c = true → inv (Int.ofNat c) = (c == 1 || c == 64976) := by
  intro c h
  have : c = 97 ∨ c = 98 ∨ c = 60 ∨ c = 32 ∨ c = 13 ∨ c = 10 ∨ c = 38 ∨ c = 1 ∨ c = 64976 ∨ c = 233 := by
    simpa [isSign] using h
  rcases this with rfl | rfl | rfl | rfl | rfl | rfl | rfl | rfl | rfl | rfl <;> decide +kernel
theorem badL_sign (l : List Nat) (h : l.all isSign = true) : badL l = l.countP fun c => c == 1 || c == 64976 := by
  unfold badL
  refine List.countP_congr fun c hc => ?_
  have := List.all_eq_true.mp h c hc
  rw [sign_inv c this]
end
section -- C11
theorem own_off {own : List (Addr × Obj)} {P : Params} {f : Fx} {chunk : Str} {tc : Tok} {size : Int} {ts : Tok} {off : Int} {tof : Tok} {errs : List Value} {ne : Nat} {pl : Int} {tpl : Tok} {pc : Int} {tpc : Tok} {buf : Value} {dp : Int} {tdp : Tok}
    (h : AllLt f.dx own) : OwnOff own ((sl P f chunk tc size ts off tof errs ne pl tpl pc tpc buf dp tdp).map (·.1)) := by
  intro p hp b hb
  have hlt : @LT.lt Nat _ p.1 f.dx := tb_ltOf h p hp
  have o1 := f.o1
  have o2 := f.o2
  have o3 := f.o3
  have o4 := f.o4
  have o5 := f.o5
  have o6 := f.o6
  simp only [sl, List.map_cons, List.map_nil, List.mem_cons, List.not_mem_nil, or_false] at hb
  rcases hb with rfl | rfl | rfl | rfl | rfl | rfl | rfl <;> (refine neN ?_; omega)

theorem c_new (text : Str) (t : Tok) (w : World) (mean : ExcName → Option Value) (mg mb : Str → Option Value) (gd : Option (List Code)) (cn : Str) (cs : Scope) (L a : Addr) (ccd : Value) (cl : List (Str × Addr)) (outer : List Env) (A₀ : Around)
    (base h₀ : Heap) (m : Str → Option Value) (s : Shared) (Q E : Value → Shared → Prop) (own : List (Addr × Obj))
    (B : Below A₀ base outer h₀) (F : Fr h₀ L s.heap m) (X : (hd.heap_39 w.params).In h₀) (N : News h₀ L s.heap own) (T : Top hd.view_39 loose0 mean mg mb h₀) (hk : cs.kind = .function)
    (hret : ∀ (f : Fx) tc ts tof ne tpl tpc tdp h' tk', f.text = text → AllLt f.dx own → Fr h₀ L h' m → News h₀ L h' (sl w.params f (Str.ofString "") tc 0 ts 0 tof [] ne 0 tpl 0 tpc .none 0 tdp ++ own) → Q (.ref f.x) { s with heap := h', toks := tk' }) :
    wpAny (model PySem.Challenge.rw_im0054_01.row.prog w) (ktrTop 330 500 gd cn cs L a ccd cl outer) (call (.ref 138) [.str text t]) Q E s := by
  have hmk := kstMark
  k_with_none
  k_dflt (refine' call_cls ?k1 ?k2 ?k3 ?k4 ?k5 ?k6 ?_; (case k1 => k_asm); (case k2 => k_asm); (case k3 => k_asm); (case k4 => k_is); (case k5 => k_is); (case k6 => k_is); k_whole; intro x' d' h' F' N' l1 l2; (try k_lt l1); (try k_lt2 l2); (try k_sweep); ktr_enter)
  k_steps
  rename News _ _ _ _ => nE'
  k_dflt (refine' hret ⟨x', d', _, _, _, _, _, _, _, _, _, _, _, _, _, _, _, _, _, _, text, t, ?p1, ?p2, ?p3, ?p4, ?p5, ?p6⟩ _ _ _ _ _ _ _ _ _ rfl ?al ?fr nE')
  case fr => k_asm
  case al => exact allLt_of l1
  all_goals omega

theorem c_new_use {text : Str} {t : Tok} {w : World} {mean : ExcName → Option Value} {mg mb : Str → Option Value} {A : Around} {cn : Str} {cs : Scope} {L a : Addr} {ccd : Value} {cl : List (Str × Addr)} {outer : List Env} {A₀ : Around}
    {base h₀ : Heap} {m : Str → Option Value} {s : Shared} {Q E : Value → Shared → Prop} {own : List (Addr × Obj)}
    (hh : A.handled = none) (hf : A.frames = some (envX cn cs L a ccd cl :: outer)) (hd' : A.depth ≤ 330) (hu : A.units ≤ 500)
    (B : Below A₀ base outer h₀) (F : Fr h₀ L s.heap m) (X : (hd.heap_39 w.params).In h₀) (N : News h₀ L s.heap own) (T : Top hd.view_39 loose0 mean mg mb h₀) (hk : cs.kind = .function)
    (hret : ∀ (f : Fx) tc ts tof ne tpl tpc tdp h' tk', f.text = text → AllLt f.dx own → Fr h₀ L h' m → News h₀ L h' (sl w.params f (Str.ofString "") tc 0 ts 0 tof [] ne 0 tpl 0 tpc .none 0 tdp ++ own) → Q (.ref f.x) { s with heap := h', toks := tk' }) :
    wpAny (model PySem.Challenge.rw_im0054_01.row.prog w) A (call (.ref 138) [.str text t]) Q E s :=
  wp_weak (A' := ktrTop 330 500 A.guards cn cs L a ccd cl outer) hh hd' hf rfl hu (c_new text t w mean mg mb A.guards cn cs L a ccd cl outer A₀ base h₀ m s Q E own B F X N T hk hret)
end
section -- Plain7
structure LInv (text md chunk : Str) (size off : Int) (en : Nat) (buf : Value) (dp : Int) (place : Int) (fresh : Value) : Prop where
  wf : WF text chunk size off buf dp
  p0 : 0 ≤ place
  p1 : place ≤ md.length
  rest : pend text chunk off buf dp = md.cps.toList.drop place.toNat
  tot : en + badL (raw text buf dp) = badL text.cps.toList
  fre : fresh = Value.none ∨ ∃ c t, fresh = Value.str ⟨#[c]⟩ t ∧ 1 ≤ place ∧ md.cps.toList.getD (place - 1).toNat 0 = c ∧ 1 ≤ off ∧ chunk.cps.toList.getD (off - 1).toNat 0 = c

section
variable {text md chunk chunk' : Str} {size off size' off' : Int} {en en' : Nat} {buf buf' : Value} {dp dp' : Int} {place : Int} {fresh : Value}

theorem LInv.start (hm : md.cps.toList = mendL text.cps.toList) : LInv text md (Str.ofString "") 0 0 0 .none 0 0 .none := by
  have e0 : (Str.ofString "").length = 0 := by decide +kernel
  have e1 : (Str.ofString "").cps.toList = [] := by decide +kernel
  refine ⟨⟨by rw [e0]; rfl, Int.le_refl _, Int.le_refl _, .inl rfl, .inl ⟨rfl, rfl⟩, by rw [e0]; exact Nat.zero_le _⟩, Int.le_refl _, Int.natCast_nonneg _, ?_, ?_, .inl rfl⟩
  · unfold pend
    rw [e1, hm]
    rfl
  · exact Nat.zero_add _

theorem LInv.same (I : LInv text md chunk size off en buf dp place fresh) : en + badL (raw text buf dp) = badL text.cps.toList := I.tot

/-- a sign is read -/
theorem LInv.char1 (I : LInv text md chunk size off en buf dp place fresh) (h : place < md.length) {r : Value} (C : ChPost text (pend text chunk off buf dp) (en + badL (raw text buf dp)) r chunk' size' off' en' buf' dp') :
    ∃ t, r = .str (Txt.item md place) t ∧ ∀ t', LInv text md chunk' size' off' en' buf' dp' (place + 1) (.str (Txt.item md place) t') := by
  have h0 := I.p0
  have hl : place.toNat < md.cps.toList.length := by rw [len_cps]; omega
  have hg : md.cps.toList.getD place.toNat 0 = md.cps.toList[place.toNat] := (List.getElem_eq_getD 0).symm
  have hd : md.cps.toList.drop place.toNat = md.cps.toList.getD place.toNat 0 :: md.cps.toList.drop (place + 1).toNat := by
    rw [List.drop_eq_getElem_cons hl, hg, show (place + 1).toNat = place.toNat + 1 from by omega]
  have hi := item_at (x := md) h0 h
  rcases C.out with ⟨h1, _, _⟩ | ⟨c, t, hr, h1, h2, h3⟩
  · rw [I.rest, hd] at h1; cases h1
  · rw [I.rest, hd] at h1
    injection h1 with e1 e2
    refine ⟨t, by rw [hr, hi, e1], fun t' => ⟨C.wf, by omega, by omega, e2.symm, C.tot.trans I.tot, .inr ⟨c, t', by rw [hi, e1], by omega, ?_, h2, h3⟩⟩⟩
    rw [show place + 1 - 1 = place from by omega, e1]
/-- there is none -/
theorem LInv.char0 (I : LInv text md chunk size off en buf dp place fresh) (h : ¬ place < md.length) {r : Value} (C : ChPost text (pend text chunk off buf dp) (en + badL (raw text buf dp)) r chunk' size' off' en' buf' dp') :
    r = .none ∧ LInv text md chunk' size' off' en' buf' dp' place .none := by
  have h0 := I.p0
  have h1 := I.p1
  have hd : md.cps.toList.drop place.toNat = [] := List.drop_of_length_le (by rw [len_cps]; omega)
  rcases C.out with ⟨_, hr, h2⟩ | ⟨c, t, hr, h1, h2, h3⟩
  · exact ⟨hr, C.wf, h0, h1, by rw [h2, hd], C.tot.trans I.tot, .inl rfl⟩
  · rw [I.rest, hd] at h1; cases h1

/-- signs are read up to one that is not wanted -/
theorem LInv.until1 {p : Nat → Bool} (I : LInv text md chunk size off en buf dp place fresh) {e : Int} (h1 : place ≤ e) (h2 : e < md.length) (h : ((md.cps.toList.drop place.toNat).take (e - place).toNat).all p = true) (hp : p (md.cps.toList.getD e.toNat 0) = false)
    {R : Str} (C : CPost text p (pend text chunk off buf dp) (en + badL (raw text buf dp)) R chunk' size' off' en' buf' dp') :
    R = Txt.slice md (some place) (some e) ∧ LInv text md chunk' size' off' en' buf' dp' e .none := by
  have hs := seg_stop md.cps.toList [] p place e I.p0 h1 (by rw [len_cps]; exact h2) h hp
  simp only [List.append_nil] at hs
  have hr := C.res
  have hq := C.rest
  rw [I.rest, hs.1] at hr
  rw [I.rest, hs.2] at hq
  refine ⟨?_, C.wf, Int.le_trans I.p0 h1, Int.le_of_lt h2, hq, C.tot.trans I.tot, .inl rfl⟩
  refine Str.ext' (Array.toList_inj.mp ?_)
  rw [hr, slice_ss I.p0 h1 (Int.le_of_lt h2)]
/-- signs are read up to the end -/
theorem LInv.until0 {p : Nat → Bool} (I : LInv text md chunk size off en buf dp place fresh) {e : Int} (h1 : place ≤ e) (h2 : e = md.length) (h : ((md.cps.toList.drop place.toNat).take (e - place).toNat).all p = true)
    {R : Str} (C : CPost text p (pend text chunk off buf dp) (en + badL (raw text buf dp)) R chunk' size' off' en' buf' dp') :
    R = Txt.slice md (some place) (some e) ∧ LInv text md chunk' size' off' en' buf' dp' e .none := by
  have hs := seg_all md.cps.toList [] p place e I.p0 h1 (by rw [len_cps]; exact h2) h
  simp only [List.append_nil, List.takeWhile_nil, List.dropWhile_nil] at hs
  have hr := C.res
  have hq := C.rest
  rw [I.rest, hs.1] at hr
  rw [I.rest, hs.2] at hq
  have hE : md.cps.toList.drop e.toNat = [] := List.drop_of_length_le (by rw [len_cps]; omega)
  refine ⟨?_, C.wf, Int.le_trans I.p0 h1, Int.le_of_eq h2, by rw [hq, hE], C.tot.trans I.tot, .inl rfl⟩
  refine Str.ext' (Array.toList_inj.mp ?_)
  rw [hr, slice_ss I.p0 h1 (Int.le_of_eq h2)]
  exact (List.take_of_length_le (by rw [List.length_drop, len_cps]; omega)).symm

/-- a sign is put back -/
theorem LInv.back {c : Nat} {t : Tok} (I : LInv text md chunk size off en buf dp place (.str ⟨#[c]⟩ t)) : 1 ≤ place ∧ 1 ≤ off ∧ chunk.cps.toList.getD (off - 1).toNat 0 = c ∧ LInv text md chunk size (off - 1) en buf dp (place - 1) .none := by
  rcases I.fre with h | ⟨c', t', h, h1, h2, h3, h4⟩
  · cases h
  · injection h with e1 _
    injection e1 with e1
    have e2 : c = c' := by simpa using e1
    subst e2
    have hw := I.wf
    have hp1 := I.p1
    have hw' : WF text chunk size (off - 1) buf dp := ⟨hw.hsize, by omega, by have := hw.off1; omega, hw.hbuf, hw.hst, hw.hlen⟩
    have hc := pend_cons hw' (by have := hw.off1; omega)
    rw [h4, show off - 1 + 1 = off from by omega, I.rest] at hc
    have hl : (place - 1).toNat < md.cps.toList.length := by rw [len_cps]; omega
    have hg : md.cps.toList.getD (place - 1).toNat 0 = md.cps.toList[(place - 1).toNat] := (List.getElem_eq_getD 0).symm
    refine ⟨h1, h3, h4, hw', by omega, by omega, ?_, I.tot, .inl rfl⟩
    rw [hc, List.drop_eq_getElem_cons hl, ← hg, h2, show place.toNat = (place - 1).toNat + 1 from by omega]

theorem all_want (l : List Nat) : l.takeWhile (wantP [] false) = l ∧ l.dropWhile (wantP [] false) = [] := by
  induction l with
  | nil => exact ⟨rfl, rfl⟩
  | cons a r ih =>
    have : wantP [] false a = true := rfl
    rw [List.takeWhile_cons, List.dropWhile_cons, this]
    exact ⟨congrArg _ ih.1, ih.2⟩
/-- the rest is read -/
theorem LInv.final (I : LInv text md chunk size off en buf dp place fresh) {R : Str} (C : CPost text (wantP [] false) (pend text chunk off buf dp) (en + badL (raw text buf dp)) R chunk' size' off' en' buf' dp') :
    R = Txt.slice md (some place) none ∧ LInv text md chunk' size' off' en' buf' dp' md.length .none := by
  have ha := all_want (pend text chunk off buf dp)
  have hr := C.res
  have hq := C.rest
  rw [ha.1, I.rest] at hr
  rw [ha.2] at hq
  refine ⟨?_, C.wf, Int.natCast_nonneg _, Int.le_refl _, ?_, C.tot.trans I.tot, .inl rfl⟩
  · refine Str.ext' (Array.toList_inj.mp ?_)
    rw [hr, slice_sn I.p0 I.p1]
  · rw [hq]
    exact (List.drop_of_length_le (by rw [len_cps]; exact Nat.le_of_eq (Int.toNat_natCast _).symm)).symm
theorem LInv.errs (I : LInv text md chunk size off en buf dp md.length .none) : en = badL text.cps.toList := by
  have h := I.rest
  rw [List.drop_of_length_le (by rw [len_cps]; exact Nat.le_of_eq (Int.toNat_natCast _).symm)] at h
  unfold pend at h
  have h2 := (List.append_eq_nil_iff.mp h).2
  have h3 : raw text buf dp = [] := by
    cases hq : raw text buf dp with
    | nil => rfl
    | cons a r => exact absurd h2 (by rw [hq]; exact mend_ne _ (List.cons_ne_nil _ _))
  have := I.tot
  rw [h3] at this
  exact this
end
theorem badL_le (l : List Nat) : badL l ≤ l.length := List.countP_le_length
end
section -- S1
theorem sign_eq (c k : Nat) (s : Str) (h : s = ⟨#[k]⟩) : ((⟨#[c]⟩ : Str) == s) = (c == k) := by
  subst h
  rw [Bool.eq_iff_iff, beq_iff_eq, beq_iff_eq]
  constructor
  · intro h
    injection h with h
    simpa using h
  · rintro rfl
    rfl
theorem signs_bad (x : Str) (h : x.cps.toList.all isSign = true) (p : Str → Bool) (hp : ∀ c : Nat, p ⟨#[c]⟩ = (c == 1 || c == 64976)) : ((signs x).filter p).length = badL x.cps.toList := by
  rw [badL_sign _ h, ← List.countP_eq_length_filter]
  unfold signs
  rw [List.countP_map]
  exact List.countP_congr fun c _ => by rw [Function.comp_apply, hp]
theorem filt_len (x : Str) (h : x.cps.toList.all isSign = true) {ys : List Value} {p : Str → Bool} (hc : CarriedAll ys (((signs x).filter p).map PyData.str)) (hp : ∀ c : Nat, p ⟨#[c]⟩ = (c == 1 || c == 64976)) : ys.toArray.size = badL x.cps.toList := by
  rw [List.size_toArray, hc.length_eq, List.length_map, signs_bad x h p hp]
end
section -- law
local macro_rules | `(tactic| walk_at "CompSrc") => `(tactic| k_extra "CompSrc")
local macro_rules | `(tactic| walk_at "call ref") => `(tactic| k_extra "call ref")
local macro_rules | `(tactic| walk_at "call builtin:len") => `(tactic| k_extra "call builtin:len")
local macro_rules | `(tactic| walk_at "newTuple") => `(tactic| (k_here; k_dflt (refine' kup_newTuple ?F ?N ?_ ?z; (case F => k_asm); (case N => k_asm); (case z => kmk_size)); intro D' h' F' N' l1; (try k_lt l1); (try k_sweep)))
local macro_rules | `(tactic| walk_at "KswEnd") => `(tactic| refine Mark.out ?_)
local macro_rules | `(tactic| walk_at "InvEndN") => `(tactic| refine Mark.out ?_)
local macro_rules | `(tactic| walk_at "exec While") => `(tactic| (k_here; refine Mark.out ?_))
local macro_rules | `(tactic| walk_at "exec For") => `(tactic| (k_here; refine Mark.out ?_))
local macro_rules | `(tactic| walk_at "exec For Name Subscript cons nil") => `(tactic| (k_here; refine Mark.out ?_))
local macro_rules | `(tactic| walk_at "call builtin:str.join") => `(tactic| (k_here; (with_reducible show wpAny _ _ (call (Value.builtin "str.join") [Value.str _ _, Value.ref _]) _ _ _); refine Mark.out ?_))
local macro_rules | `(tactic| walk_at "execs cons") => `(tactic| k_extra "execs cons")
local macro_rules | `(tactic| walk_at "call builtin:str.replace") => `(tactic| (k_here; refine replaceT ?h1 ?h2 ?h3 ?h4 ?h5 ?h6 ?h7 ?_; (case h1 => (try dsimp only); omega); (case h2 => omega); (case h3 => omega); (case h4 => omega); (case h5 => decide); (case h6 => k_extra "replace size"); (case h7 => decide); intro t9 k9 hk9; (try dsimp only)))

theorem news_drop2 {h₀ h : Heap} {L : Addr} {a b : Addr × Obj} {l : List (Addr × Obj)} (N : News h₀ L h (a :: b :: l)) : News h₀ L h (a :: l) := fun p hp => N p ((List.mem_cons.mp hp).elim (fun e => e ▸ .head _) (fun h => .tail _ (.tail _ h)))
theorem off_cons {own : List (Addr × Obj)} {a : Addr} {l : List Addr} (h : ∀ p ∈ own, p.1 ≠ a) (k : OwnOff own l) : OwnOff own (a :: l) := fun p hp b hb => (List.mem_cons.mp hb).elim (fun e => e ▸ h p hp) (fun hb => k p hp b hb)
structure Ls where
  chunk : Str
  tc : Tok
  size : Int
  ts : Tok
  off : Int
  tof : Tok
  errs : List Value
  ne : Nat
  pl : Int
  tpl : Tok
  pc : Int
  tpc : Tok
  buf : Value
  dp : Int
  tdp : Tok
  place : Int
  tplace : Tok
  fresh : Value
theorem pack {h₀ h : Heap} {L : Addr} {P : Params} {f : Fx} {chunk : Str} {tc : Tok} {size : Int} {ts : Tok} {off : Int} {tof : Tok} {errs : List Value} {ne : Nat} {pl : Int} {tpl : Tok} {pc : Int} {tpc : Tok} {buf : Value} {dp : Int} {tdp : Tok} {D : Addr × Obj} {own : List (Addr × Obj)}
    (N : News h₀ L h (D :: (sl P f chunk tc size ts off tof errs ne pl tpl pc tpc buf dp tdp ++ own))) (hD : @LT.lt Nat _ f.e D.1) (hA : AllLt f.dx own) :
    ∃ own2, News h₀ L h (sl P f chunk tc size ts off tof errs ne pl tpl pc tpc buf dp tdp ++ own2) ∧ D ∈ own2 ∧ OwnOff own2 [f.e, f.y, f.dy, f.nl, f.q, f.x, f.dx] := by
  refine ⟨D :: own, fun p hp => N p ?_, .head _, ?_⟩
  · rcases List.mem_append.mp hp with hp | hp
    · exact .tail _ (List.mem_append_left _ hp)
    · rcases List.mem_cons.mp hp with rfl | hp
      · exact .head _
      · exact .tail _ (List.mem_append_right _ hp)
  · intro p hp
    rcases List.mem_cons.mp hp with rfl | hp
    · have o1 := f.o1
      have o2 := f.o2
      have o3 := f.o3
      have o4 := f.o4
      have o5 := f.o5
      have o6 := f.o6
      intro b hb
      simp only [List.mem_cons, List.not_mem_nil, or_false] at hb
      rcases hb with rfl | rfl | rfl | rfl | rfl | rfl | rfl <;> (refine neN ?_; omega)
    · exact own_off (P := P) (chunk := chunk) (tc := tc) (size := size) (ts := ts) (off := off) (tof := tof) (errs := errs) (ne := ne) (pl := pl) (tpl := tpl) (pc := pc) (tpc := tpc) (buf := buf) (dp := dp) (tdp := tdp) hA p hp

theorem law : PySem.Challenge.rw_im0054_01.Holds := hd (by
  w_strict k_go0
  rename List Int => ns
  rename World => w
  all_goals try k_fold
  k_with_none
  k_with "CompSrc" => (k_here; refine Mark.out ?_)
  k_with "replace size" => first | omega | (refine Nat.le_trans (len_crlf _) ?_; omega)
  k_with "call ref" => (k_here; (with_reducible show wpAny _ _ (call (Value.ref 138) [Value.str _ _]) _ _ _); k_dflt (refine' c_new_use ?k1 ?k2 ?k3 ?k4 ?k5 ?k6 ?k7 ?k8 ?k9 ?k10 ?_; (case k1 => exact rfl); (case k2 => exact rfl); (case k3 => exact Nat.le_of_ble_eq_true rfl); (case k4 => exact Nat.le_of_ble_eq_true rfl); (case k5 => k_asm); (case k6 => k_asm); (case k7 => k_asm); (case k8 => k_asm); (case k9 => k_asm); (case k10 => exact rfl)); (intro fx tc0 ts0 tof0 ne0 tpl0 tpc0 tdp0 hS9 tkS9 hfx hAll FS9 NS9); (try dsimp only [sl, List.cons_append, List.nil_append] at NS9); (try k_sweep); (try dsimp only))
  k_with "call ref" => (k_here; (try dsimp only [List.append_nil, List.cons_append, List.nil_append]); (with_reducible show wpAny _ _ (call (Value.ref 105) [Value.ref _]) _ _ _); (first | (exfalso; omega) | (refine Mark.out ?_)))
  k_with "call ref" => (k_here; (try dsimp only [List.append_nil, List.cons_append, List.nil_append]); (with_reducible show wpAny _ _ (call (Value.ref 128) [Value.ref _, Value.ref _]) _ _ _); (first | (exfalso; omega) | (refine Mark.out ?_)))
  k_with "call ref" => (k_here; (try dsimp only [List.append_nil, List.cons_append, List.nil_append]); (with_reducible show wpAny _ _ (call (Value.ref 128) [Value.ref _, Value.ref _, Value.bool _]) _ _ _); (first | (exfalso; omega) | (refine Mark.out ?_)))
  k_with "call ref" => (k_here; (try dsimp only [List.append_nil, List.cons_append, List.nil_append]); (with_reducible show wpAny _ _ (call (Value.ref 135) [Value.ref _, Value.str _ _]) _ _ _); (first | (exfalso; omega) | (refine Mark.out ?_)))
  k_with "pyIter ref" => (k_here; refine Mark.out ?_)
  k_with "execs cons" => (k_here; refine execs_cons_tk ?hn ?_; (case hn => (try dsimp only); omega); (try (rename (@LE.le Nat _ 1 (Shared.toks _)) => a9; clear a9)); intro tk9 htk9; (try dsimp only))
  k_steps
  refine ⟨?_⟩
  k_dflt (refine LCg.CompSrc.ledger (by rfl) (by k_asm) (by k_asm) (by k_mem) (by kcf_size) ?_)
  intro g'
  refine' kct_list (fun k => sg k) (by first | assumption | l_ints) (fun k' t' I' oI' C' oC' D' m' ys' h' tk' E' hk' hC' hx' F' N' off' ne' => ?_) ?_
  · intro hMk
    try (simp only [LCg.Off3, and_true] at off')
    try k_fold
    k_steps
    exact kct_el rfl (by with_unfolding_all rfl) (by with_unfolding_all rfl)
  · unfold KPfDone
    intro ys hc hl
    have hS := CarriedAll.strsOf (f := fun k => sg k) hc
    try dsimp only
    k_steps
    refine ⟨?_⟩
    refine join_listW (News.isList (by k_asm) (by k_mem)) hS (by decide) ?_ ?_
    · have h2 := List.length_take_le 30 ns
      refine Nat.le_trans (Nat.le_of_eq (text_size (ns.take 30))) ?_
      omega
    intro t8 k8
    have hT1 := text_len (ns.take 30)
    have hT2 := text_sign (ns.take 30)
    have hT3 := List.length_take_le 30 ns
    generalize Txt.join (Str.ofString "") ((ns.take 30).map sg) = text at hT1 hT2 ⊢
    k_steps
    refine ⟨?_⟩
    rename Fr _ _ _ _ => lF'
    with_unfolding_all refine' For_invVF lF' rfl rfl ?_
    k_steps
    refine ⟨?_⟩
    try clear lF'
    have hM := mend_str text
    have hM2 := len_mend text
    rename Fr _ _ _ _ => lF'
    rename News _ _ _ _ => lN'
    generalize Txt.replace (Txt.replace text (Str.ofString "\r\n") (Str.ofString "\n")) (Str.ofString "\r") (Str.ofString "\n") = md at hM hM2 lF' ⊢
    obtain ⟨own2, hN2, hD2, hO2⟩ := pack lN' (by omega) hAll
    clear lN'
    have hmk := kstMark
    rename IntsAre _ (List.take 30 ns) => hI9
    k_with_none
    k_with "call ref" => (k_here; (try dsimp only [List.append_nil, List.cons_append, List.nil_append]); (with_reducible show wpAny _ _ (call (Value.ref 105) [Value.ref _]) _ _ _); (first | (exfalso; omega) | (refine Mark.out ?_)))
    k_with "call ref" => (k_here; (try dsimp only [List.append_nil, List.cons_append, List.nil_append]); (with_reducible show wpAny _ _ (call (Value.ref 128) [Value.ref _, Value.ref _]) _ _ _); (first | (exfalso; omega) | (refine Mark.out ?_)))
    k_with "call ref" => (k_here; (try dsimp only [List.append_nil, List.cons_append, List.nil_append]); (with_reducible show wpAny _ _ (call (Value.ref 128) [Value.ref _, Value.ref _, Value.bool _]) _ _ _); (first | (exfalso; omega) | (refine Mark.out ?_)))
    k_with "call ref" => (k_here; (try dsimp only [List.append_nil, List.cons_append, List.nil_append]); (with_reducible show wpAny _ _ (call (Value.ref 135) [Value.ref _, Value.str _ _]) _ _ _); (first | (exfalso; omega) | (refine Mark.out ?_)))
    with_unfolding_all refine' kst_listL (fun c : Ls => sl w.params fx c.chunk c.tc c.size c.ts c.off c.tof c.errs c.ne c.pl c.tpl c.pc c.tpc c.buf c.dp c.tdp ++ own2) (fun c => [(Str.ofString "place", .int c.place c.tplace), (Str.ofString "fresh", c.fresh)]) (fun _ => True) [Str.ofString "deed", Str.ofString "due", Str.ofString "end"] (fun _ c => LInv fx.text md c.chunk c.size c.off c.errs.length c.buf c.dp c.place c.fresh) ⟨Str.ofString "", tc0, 0, ts0, 0, tof0, [], ne0, 0, tpl0, 0, tpc0, .none, 0, tdp0, 0, _, .none⟩ (by rfl) (fun c => List.mem_append_right _ hD2) hI9 lF' hN2 trivial (by kst_all) (by rw [hfx]; exact LInv.start hM) ?_ ?_
    all_goals clear lF'
    · rintro ⟨chunk1, tc1, size1, ts1, off1, tof1, errs1, ne1, pl1, tpl1, pc1, tpc1, buf1, dp1, tdp1, place1, tplace1, fresh1⟩ pre post n tn u h tk own3 heq hmem hoff - hL F1 N1
      dsimp only at hL
      dsimp only [kstB] at F1
      simp only [sl, List.cons_append, List.nil_append] at N1
      simp only [sl, List.cons_append, List.nil_append, List.map_cons, List.map_append] at hoff
      have hw1 := hL.wf
      have hz1 := hw1.hsize
      have hq1 := hL.p0
      have hq2 := hL.p1
      have hbd := badL_le fx.text.cps.toList
      rw [len_cps, hfx] at hbd
      have htt := hL.tot
      rw [hfx] at htt
      have hlen : fx.text.length ≤ 100 := by rw [hfx]; omega
      have hen : errs1.length + badL (raw fx.text buf1 dp1) ≤ 500 := by rw [hfx]; omega
      have hO4 : OwnOff (own2 ++ own3) [fx.e, fx.y, fx.dy, fx.nl, fx.q, fx.x, fx.dx] := fun p hp b hb => (List.mem_append.mp hp).elim (fun hp => hO2 p hp b hb) (fun hp => hoff p hp b (List.mem_append_left (bs := List.map (fun (x : Addr × Obj) => x.1) own2) (as := [fx.e, fx.y, fx.dy, fx.nl, fx.q, fx.x, fx.dx]) hb))
      try k_fold
      k_steps
      · refine ⟨?_⟩
        k_dflt (refine' (c_char fx chunk1 tc1 size1 ts1 off1 tof1 errs1 ne1 pl1 tpl1 pc1 tpc1 buf1 dp1 tdp1 hw1 hlen hen).use0 (own := own2 ++ own3) ?k1 ?k2 ?k3 ?k4 ?k5 ?k6 ?k7 ?k8 ?k9 ?k10 ?k11 ?_)
        case k8 => k_asm
        case k1 => exact rfl
        case k2 => exact rfl
        case k3 => exact Nat.le_of_ble_eq_true rfl
        case k4 => exact Nat.le_of_ble_eq_true rfl
        case k5 => k_asm
        case k6 => k_asm
        case k7 => k_asm
        case k9 => k_asm
        case k10 => exact rfl
        case k11 => exact hO4
        rintro r' pre' h2 tk2 ⟨chunk2, tc2, size2, ts2, off2, tof2, errs2, ne2, pl2, tpl2, pc2, tpc2, buf2, dp2, tdp2, rfl, hch⟩ F2 N2
        dsimp only [sl, List.cons_append, List.nil_append] at N2
        k_sweep
        try dsimp only
        obtain ⟨t2, rfl, hL2⟩ := hL.char1 (by omega) hch
        k_steps
        all_goals first
          | (exfalso; rename (_ != _) = true => hq; simp at hq; done)
          | (exfalso; rename ¬ (_ = _) => hq; exact hq rfl)
          | skip
        refine ⟨?_⟩
        rename News _ _ _ _ => nE'
        first
          | replace nE' := (id nE' : News _ _ _ ((sl w.params fx chunk2 tc2 size2 ts2 off2 tof2 errs2 ne2 pl2 tpl2 pc2 tpc2 buf2 dp2 tdp2 ++ own2) ++ own3))
          | replace nE' := (news_tail (id nE') : News _ _ _ ((sl w.params fx chunk2 tc2 size2 ts2 off2 tof2 errs2 ne2 pl2 tpl2 pc2 tpc2 buf2 dp2 tdp2 ++ own2) ++ own3))
          | replace nE' := (news_tail (news_tail (id nE')) : News _ _ _ ((sl w.params fx chunk2 tc2 size2 ts2 off2 tof2 errs2 ne2 pl2 tpl2 pc2 tpc2 buf2 dp2 tdp2 ++ own2) ++ own3))
        refine kst_end (⟨chunk2, tc2, size2, ts2, off2, tof2, errs2, ne2, pl2, tpl2, pc2, tpc2, buf2, dp2, tdp2, _, _, _⟩ : Ls) (by k_asm) nE' (fun p hp => List.mem_append_left own3 hp) (fun p hp => List.mem_append_right _ hp) (by rfl) trivial (by kst_all) (by kst_same) ?_
        exact hL2 _
      · refine ⟨?_⟩
        k_dflt (refine' (c_char fx chunk1 tc1 size1 ts1 off1 tof1 errs1 ne1 pl1 tpl1 pc1 tpc1 buf1 dp1 tdp1 hw1 hlen hen).use0 (own := own2 ++ own3) ?k1 ?k2 ?k3 ?k4 ?k5 ?k6 ?k7 ?k8 ?k9 ?k10 ?k11 ?_)
        case k8 => k_asm
        case k1 => exact rfl
        case k2 => exact rfl
        case k3 => exact Nat.le_of_ble_eq_true rfl
        case k4 => exact Nat.le_of_ble_eq_true rfl
        case k5 => k_asm
        case k6 => k_asm
        case k7 => k_asm
        case k9 => k_asm
        case k10 => exact rfl
        case k11 => exact hO4
        rintro r' pre' h2 tk2 ⟨chunk2, tc2, size2, ts2, off2, tof2, errs2, ne2, pl2, tpl2, pc2, tpc2, buf2, dp2, tdp2, rfl, hch⟩ F2 N2
        dsimp only [sl, List.cons_append, List.nil_append] at N2
        k_sweep
        try dsimp only
        obtain ⟨rfl, hL2⟩ := hL.char0 (by omega) hch
        k_steps
        refine ⟨?_⟩
        rename News _ _ _ _ => nE'
        first
          | replace nE' := (id nE' : News _ _ _ ((sl w.params fx chunk2 tc2 size2 ts2 off2 tof2 errs2 ne2 pl2 tpl2 pc2 tpc2 buf2 dp2 tdp2 ++ own2) ++ own3))
          | replace nE' := (news_tail (id nE') : News _ _ _ ((sl w.params fx chunk2 tc2 size2 ts2 off2 tof2 errs2 ne2 pl2 tpl2 pc2 tpc2 buf2 dp2 tdp2 ++ own2) ++ own3))
          | replace nE' := (news_tail (news_tail (id nE')) : News _ _ _ ((sl w.params fx chunk2 tc2 size2 ts2 off2 tof2 errs2 ne2 pl2 tpl2 pc2 tpc2 buf2 dp2 tdp2 ++ own2) ++ own3))
        refine kst_end (⟨chunk2, tc2, size2, ts2, off2, tof2, errs2, ne2, pl2, tpl2, pc2, tpc2, buf2, dp2, tdp2, _, _, _⟩ : Ls) (by k_asm) nE' (fun p hp => List.mem_append_left own3 hp) (fun p hp => List.mem_append_right _ hp) (by rfl) trivial (by kst_all) (by kst_same) ?_
        dsimp only; rw [Int.add_zero]; exact hL2
      · refine ⟨?_⟩
        k_dflt (refine' (c_char fx chunk1 tc1 size1 ts1 off1 tof1 errs1 ne1 pl1 tpl1 pc1 tpc1 buf1 dp1 tdp1 hw1 hlen hen).use0 (own := own2 ++ own3) ?k1 ?k2 ?k3 ?k4 ?k5 ?k6 ?k7 ?k8 ?k9 ?k10 ?k11 ?_)
        case k8 => k_asm
        case k1 => exact rfl
        case k2 => exact rfl
        case k3 => exact Nat.le_of_ble_eq_true rfl
        case k4 => exact Nat.le_of_ble_eq_true rfl
        case k5 => k_asm
        case k6 => k_asm
        case k7 => k_asm
        case k9 => k_asm
        case k10 => exact rfl
        case k11 => exact hO4
        rintro r' pre' h2 tk2 ⟨chunk2, tc2, size2, ts2, off2, tof2, errs2, ne2, pl2, tpl2, pc2, tpc2, buf2, dp2, tdp2, rfl, hch⟩ F2 N2
        dsimp only [sl, List.cons_append, List.nil_append] at N2
        k_sweep
        try dsimp only
        obtain ⟨rfl, hL2⟩ := hL.char0 (by omega) hch
        k_steps
        refine ⟨?_⟩
        rename News _ _ _ _ => nE'
        first
          | replace nE' := (id nE' : News _ _ _ ((sl w.params fx chunk2 tc2 size2 ts2 off2 tof2 errs2 ne2 pl2 tpl2 pc2 tpc2 buf2 dp2 tdp2 ++ own2) ++ own3))
          | replace nE' := (news_tail (id nE') : News _ _ _ ((sl w.params fx chunk2 tc2 size2 ts2 off2 tof2 errs2 ne2 pl2 tpl2 pc2 tpc2 buf2 dp2 tdp2 ++ own2) ++ own3))
          | replace nE' := (news_tail (news_tail (id nE')) : News _ _ _ ((sl w.params fx chunk2 tc2 size2 ts2 off2 tof2 errs2 ne2 pl2 tpl2 pc2 tpc2 buf2 dp2 tdp2 ++ own2) ++ own3))
        refine kst_end (⟨chunk2, tc2, size2, ts2, off2, tof2, errs2, ne2, pl2, tpl2, pc2, tpc2, buf2, dp2, tdp2, _, _, _⟩ : Ls) (by k_asm) nE' (fun p hp => List.mem_append_left own3 hp) (fun p hp => List.mem_append_right _ hp) (by rfl) trivial (by kst_all) (by kst_same) ?_
        dsimp only; rw [Int.add_zero]; exact hL2
      · refine ⟨?_⟩
        rename Fr _ _ _ _ => lF'
        rename News _ _ _ _ => lN'
        with_unfolding_all refine' ksw_while (fun _ : Int × Tok => sl w.params fx chunk1 tc1 size1 ts1 off1 tof1 errs1 ne1 pl1 tpl1 pc1 tpc1 buf1 dp1 tdp1 ++ (own2 ++ own3)) (fun c => [(Str.ofString "end", Value.int c.1 c.2)]) (fun _ => True) [] (fun c => place1 ≤ c.1 ∧ c.1 ≤ md.length ∧ ((md.cps.toList.drop place1.toNat).take (c.1 - place1).toNat).all (wantP [Str.ofString "<", Str.ofString "&"] false) = true) (fun c => (md.length - c.1).toNat) (place1, tplace1) lF' lN' trivial (by kst_all) ⟨Int.le_refl _, hq2, seg_start _ _ _⟩ ?_
        clear lF' lN'
        rintro ⟨en1, ten1⟩ u2 h2 tk2 - ⟨hE1, hE2, hE3⟩ F2 N2
        dsimp only at hE1 hE2 hE3
        dsimp only [kstB] at F2
        simp only [sl, List.cons_append, List.nil_append] at N2
        try k_fold
        k_steps
        · rename (List.any _ _ = _) => hp
          rw [item_at (by omega) (by omega)] at hp
          refine ⟨?_⟩
          rename News _ _ _ _ => nE'
          first | replace nE' := (news_drop2 nE' : News _ _ _ (_ :: (sl w.params fx chunk1 tc1 size1 ts1 off1 tof1 errs1 ne1 pl1 tpl1 pc1 tpc1 buf1 dp1 tdp1 ++ (own2 ++ own3)))) | skip
          k_dflt (refine' (c_charsD fx chunk1 tc1 size1 ts1 off1 tof1 errs1 ne1 pl1 tpl1 pc1 tpc1 buf1 dp1 tdp1 _ _ [Str.ofString "<", Str.ofString "&"]  (.cons _ _ (.cons _ _ .nil)) ?hct hw1 hlen hen).use0 (own := own2 ++ own3) ?k1 ?k2 ?k3 ?k4 ?k5 ?k6 ?k7 ?k8 ?k9 ?k10 ?k11 ?_)
          case k8 => exact nE'
          case k1 => exact rfl
          case k2 => exact rfl
          case k3 => exact Nat.le_of_ble_eq_true rfl
          case k4 => exact Nat.le_of_ble_eq_true rfl
          case k5 => k_asm
          case k6 => k_asm
          case k7 => k_asm
          case k9 => k_asm
          case k10 => exact rfl
          case hct => omega
          case k11 => exact off_cons (tbn_neAll (by tbn_find)) hO4
          rintro r' pre' h3 tk3 ⟨R, tR, chunk2, tc2, size2, ts2, off2, tof2, errs2, ne2, pl2, tpl2, pc2, tpc2, buf2, dp2, tdp2, rfl, rfl, hC⟩ F3 N3
          dsimp only [sl, List.cons_append, List.nil_append] at N3
          k_sweep
          try dsimp only
          obtain ⟨rfl, hL2⟩ := hL.until1 hE1 (by omega) hE3 (by show ((_ : Bool) == _) = _; rw [hp]; rfl) hC
          k_steps
          all_goals first
            | (exfalso; rename (_ != _) = true => hq; simp at hq; done)
            | (exfalso; rename ¬ (_ = _) => hq; exact hq rfl)
            | skip
          refine ⟨?_⟩
          rename News _ _ _ _ => nE'
          first
            | replace nE' := (id nE' : News _ _ _ ((sl w.params fx chunk2 tc2 size2 ts2 off2 tof2 errs2 ne2 pl2 tpl2 pc2 tpc2 buf2 dp2 tdp2 ++ own2) ++ own3))
            | replace nE' := (news_tail (id nE') : News _ _ _ ((sl w.params fx chunk2 tc2 size2 ts2 off2 tof2 errs2 ne2 pl2 tpl2 pc2 tpc2 buf2 dp2 tdp2 ++ own2) ++ own3))
            | replace nE' := (news_tail (news_tail (id nE')) : News _ _ _ ((sl w.params fx chunk2 tc2 size2 ts2 off2 tof2 errs2 ne2 pl2 tpl2 pc2 tpc2 buf2 dp2 tdp2 ++ own2) ++ own3))
            | replace nE' := (news_tail (news_tail (news_tail (id nE'))) : News _ _ _ ((sl w.params fx chunk2 tc2 size2 ts2 off2 tof2 errs2 ne2 pl2 tpl2 pc2 tpc2 buf2 dp2 tdp2 ++ own2) ++ own3))
            | replace nE' := (news_tail (news_tail (news_tail (news_tail (id nE')))) : News _ _ _ ((sl w.params fx chunk2 tc2 size2 ts2 off2 tof2 errs2 ne2 pl2 tpl2 pc2 tpc2 buf2 dp2 tdp2 ++ own2) ++ own3))
          refine kst_end (⟨chunk2, tc2, size2, ts2, off2, tof2, errs2, ne2, pl2, tpl2, pc2, tpc2, buf2, dp2, tdp2, _, _, _⟩ : Ls) (by k_asm) nE' (fun p hp => List.mem_append_left own3 hp) (fun p hp => List.mem_append_right _ hp) (by rfl) trivial (by kst_all) (by kst_same) ?_
          exact hL2
        · refine ⟨?_⟩
          rename News _ _ _ _ => nE'
          first
            | replace nE' := (id nE' : News _ _ _ (sl w.params fx chunk1 tc1 size1 ts1 off1 tof1 errs1 ne1 pl1 tpl1 pc1 tpc1 buf1 dp1 tdp1 ++ (own2 ++ own3)))
            | replace nE' := (news_tail (id nE') : News _ _ _ (sl w.params fx chunk1 tc1 size1 ts1 off1 tof1 errs1 ne1 pl1 tpl1 pc1 tpc1 buf1 dp1 tdp1 ++ (own2 ++ own3)))
            | replace nE' := (news_tail (news_tail (id nE')) : News _ _ _ (sl w.params fx chunk1 tc1 size1 ts1 off1 tof1 errs1 ne1 pl1 tpl1 pc1 tpc1 buf1 dp1 tdp1 ++ (own2 ++ own3)))
            | replace nE' := (news_tail (news_tail (news_tail (id nE'))) : News _ _ _ (sl w.params fx chunk1 tc1 size1 ts1 off1 tof1 errs1 ne1 pl1 tpl1 pc1 tpc1 buf1 dp1 tdp1 ++ (own2 ++ own3)))
          refine ksw_end (⟨_, _⟩ : Int × Tok) (by k_asm) nE' (fun p hp => hp) trivial (by kst_all) (by ksw_same) ?_ ?_
          · dsimp only
            rename (List.any _ _ = _) => hp
            rw [item_at (by omega) (by omega)] at hp
            exact ⟨by omega, by omega, seg_next _ _ _ _ hq1 hE1 (by rw [len_cps]; omega) hE3 (by show ((_ : Bool) == _) = _; rw [hp]; rfl)⟩
          · dsimp only
            omega
        · refine ⟨?_⟩
          rename News _ _ _ _ => nE'
          first | replace nE' := (news_drop2 nE' : News _ _ _ (_ :: (sl w.params fx chunk1 tc1 size1 ts1 off1 tof1 errs1 ne1 pl1 tpl1 pc1 tpc1 buf1 dp1 tdp1 ++ (own2 ++ own3)))) | skip
          k_dflt (refine' (c_charsD fx chunk1 tc1 size1 ts1 off1 tof1 errs1 ne1 pl1 tpl1 pc1 tpc1 buf1 dp1 tdp1 _ _ [Str.ofString "<", Str.ofString "&"]  (.cons _ _ (.cons _ _ .nil)) ?hct hw1 hlen hen).use0 (own := own2 ++ own3) ?k1 ?k2 ?k3 ?k4 ?k5 ?k6 ?k7 ?k8 ?k9 ?k10 ?k11 ?_)
          case k8 => exact nE'
          case k1 => exact rfl
          case k2 => exact rfl
          case k3 => exact Nat.le_of_ble_eq_true rfl
          case k4 => exact Nat.le_of_ble_eq_true rfl
          case k5 => k_asm
          case k6 => k_asm
          case k7 => k_asm
          case k9 => k_asm
          case k10 => exact rfl
          case hct => omega
          case k11 => exact off_cons (tbn_neAll (by tbn_find)) hO4
          rintro r' pre' h3 tk3 ⟨R, tR, chunk2, tc2, size2, ts2, off2, tof2, errs2, ne2, pl2, tpl2, pc2, tpc2, buf2, dp2, tdp2, rfl, rfl, hC⟩ F3 N3
          dsimp only [sl, List.cons_append, List.nil_append] at N3
          k_sweep
          try dsimp only
          obtain ⟨rfl, hL2⟩ := hL.until0 hE1 (by omega) hE3 hC
          k_steps
          all_goals first
            | (exfalso; rename (_ != _) = true => hq; simp at hq; done)
            | (exfalso; rename ¬ (_ = _) => hq; exact hq rfl)
            | skip
          refine ⟨?_⟩
          rename News _ _ _ _ => nE'
          first
            | replace nE' := (id nE' : News _ _ _ ((sl w.params fx chunk2 tc2 size2 ts2 off2 tof2 errs2 ne2 pl2 tpl2 pc2 tpc2 buf2 dp2 tdp2 ++ own2) ++ own3))
            | replace nE' := (news_tail (id nE') : News _ _ _ ((sl w.params fx chunk2 tc2 size2 ts2 off2 tof2 errs2 ne2 pl2 tpl2 pc2 tpc2 buf2 dp2 tdp2 ++ own2) ++ own3))
            | replace nE' := (news_tail (news_tail (id nE')) : News _ _ _ ((sl w.params fx chunk2 tc2 size2 ts2 off2 tof2 errs2 ne2 pl2 tpl2 pc2 tpc2 buf2 dp2 tdp2 ++ own2) ++ own3))
            | replace nE' := (news_tail (news_tail (news_tail (id nE'))) : News _ _ _ ((sl w.params fx chunk2 tc2 size2 ts2 off2 tof2 errs2 ne2 pl2 tpl2 pc2 tpc2 buf2 dp2 tdp2 ++ own2) ++ own3))
            | replace nE' := (news_tail (news_tail (news_tail (news_tail (id nE')))) : News _ _ _ ((sl w.params fx chunk2 tc2 size2 ts2 off2 tof2 errs2 ne2 pl2 tpl2 pc2 tpc2 buf2 dp2 tdp2 ++ own2) ++ own3))
          refine kst_end (⟨chunk2, tc2, size2, ts2, off2, tof2, errs2, ne2, pl2, tpl2, pc2, tpc2, buf2, dp2, tdp2, _, _, _⟩ : Ls) (by k_asm) nE' (fun p hp => List.mem_append_left own3 hp) (fun p hp => List.mem_append_right _ hp) (by rfl) trivial (by kst_all) (by kst_same) ?_
          exact hL2
      · refine ⟨?_⟩
        rename Fr _ _ _ _ => lF'
        rename News _ _ _ _ => lN'
        with_unfolding_all refine' ksw_while (fun _ : Int × Tok => sl w.params fx chunk1 tc1 size1 ts1 off1 tof1 errs1 ne1 pl1 tpl1 pc1 tpc1 buf1 dp1 tdp1 ++ (own2 ++ own3)) (fun c => [(Str.ofString "end", Value.int c.1 c.2)]) (fun _ => True) [] (fun c => place1 ≤ c.1 ∧ c.1 ≤ md.length ∧ ((md.cps.toList.drop place1.toNat).take (c.1 - place1).toNat).all (wantP [Str.ofString " ", Str.ofString "\n", Str.ofString "a"] true) = true) (fun c => (md.length - c.1).toNat) (place1, tplace1) lF' lN' trivial (by kst_all) ⟨Int.le_refl _, hq2, seg_start _ _ _⟩ ?_
        clear lF' lN'
        rintro ⟨en1, ten1⟩ u2 h2 tk2 - ⟨hE1, hE2, hE3⟩ F2 N2
        dsimp only at hE1 hE2 hE3
        dsimp only [kstB] at F2
        simp only [sl, List.cons_append, List.nil_append] at N2
        try k_fold
        k_steps
        · refine ⟨?_⟩
          rename News _ _ _ _ => nE'
          first
            | replace nE' := (id nE' : News _ _ _ (sl w.params fx chunk1 tc1 size1 ts1 off1 tof1 errs1 ne1 pl1 tpl1 pc1 tpc1 buf1 dp1 tdp1 ++ (own2 ++ own3)))
            | replace nE' := (news_tail (id nE') : News _ _ _ (sl w.params fx chunk1 tc1 size1 ts1 off1 tof1 errs1 ne1 pl1 tpl1 pc1 tpc1 buf1 dp1 tdp1 ++ (own2 ++ own3)))
            | replace nE' := (news_tail (news_tail (id nE')) : News _ _ _ (sl w.params fx chunk1 tc1 size1 ts1 off1 tof1 errs1 ne1 pl1 tpl1 pc1 tpc1 buf1 dp1 tdp1 ++ (own2 ++ own3)))
            | replace nE' := (news_tail (news_tail (news_tail (id nE'))) : News _ _ _ (sl w.params fx chunk1 tc1 size1 ts1 off1 tof1 errs1 ne1 pl1 tpl1 pc1 tpc1 buf1 dp1 tdp1 ++ (own2 ++ own3)))
          refine ksw_end (⟨_, _⟩ : Int × Tok) (by k_asm) nE' (fun p hp => hp) trivial (by kst_all) (by ksw_same) ?_ ?_
          · dsimp only
            rename (List.any _ _ = _) => hp
            rw [item_at (by omega) (by omega)] at hp
            exact ⟨by omega, by omega, seg_next _ _ _ _ hq1 hE1 (by rw [len_cps]; omega) hE3 (by show ((_ : Bool) == _) = _; rw [hp]; rfl)⟩
          · dsimp only
            omega
        · rename (List.any _ _ = _) => hp
          rw [item_at (by omega) (by omega)] at hp
          refine ⟨?_⟩
          rename News _ _ _ _ => nE'
          first | replace nE' := (news_drop2 nE' : News _ _ _ (_ :: (sl w.params fx chunk1 tc1 size1 ts1 off1 tof1 errs1 ne1 pl1 tpl1 pc1 tpc1 buf1 dp1 tdp1 ++ (own2 ++ own3)))) | skip
          k_dflt (refine' (c_chars fx chunk1 tc1 size1 ts1 off1 tof1 errs1 ne1 pl1 tpl1 pc1 tpc1 buf1 dp1 tdp1 _ _ [Str.ofString " ", Str.ofString "\n", Str.ofString "a"] true (.cons _ _ (.cons _ _ (.cons _ _ .nil))) ?hct hw1 hlen hen).use0 (own := own2 ++ own3) ?k1 ?k2 ?k3 ?k4 ?k5 ?k6 ?k7 ?k8 ?k9 ?k10 ?k11 ?_)
          case k8 => exact nE'
          case k1 => exact rfl
          case k2 => exact rfl
          case k3 => exact Nat.le_of_ble_eq_true rfl
          case k4 => exact Nat.le_of_ble_eq_true rfl
          case k5 => k_asm
          case k6 => k_asm
          case k7 => k_asm
          case k9 => k_asm
          case k10 => exact rfl
          case hct => omega
          case k11 => exact off_cons (tbn_neAll (by tbn_find)) hO4
          rintro r' pre' h3 tk3 ⟨R, tR, chunk2, tc2, size2, ts2, off2, tof2, errs2, ne2, pl2, tpl2, pc2, tpc2, buf2, dp2, tdp2, rfl, rfl, hC⟩ F3 N3
          dsimp only [sl, List.cons_append, List.nil_append] at N3
          k_sweep
          try dsimp only
          obtain ⟨rfl, hL2⟩ := hL.until1 hE1 (by omega) hE3 (by show ((_ : Bool) == _) = _; rw [hp]; rfl) hC
          k_steps
          all_goals first
            | (exfalso; rename (_ != _) = true => hq; simp at hq; done)
            | (exfalso; rename ¬ (_ = _) => hq; exact hq rfl)
            | skip
          refine ⟨?_⟩
          rename News _ _ _ _ => nE'
          first
            | replace nE' := (id nE' : News _ _ _ ((sl w.params fx chunk2 tc2 size2 ts2 off2 tof2 errs2 ne2 pl2 tpl2 pc2 tpc2 buf2 dp2 tdp2 ++ own2) ++ own3))
            | replace nE' := (news_tail (id nE') : News _ _ _ ((sl w.params fx chunk2 tc2 size2 ts2 off2 tof2 errs2 ne2 pl2 tpl2 pc2 tpc2 buf2 dp2 tdp2 ++ own2) ++ own3))
            | replace nE' := (news_tail (news_tail (id nE')) : News _ _ _ ((sl w.params fx chunk2 tc2 size2 ts2 off2 tof2 errs2 ne2 pl2 tpl2 pc2 tpc2 buf2 dp2 tdp2 ++ own2) ++ own3))
            | replace nE' := (news_tail (news_tail (news_tail (id nE'))) : News _ _ _ ((sl w.params fx chunk2 tc2 size2 ts2 off2 tof2 errs2 ne2 pl2 tpl2 pc2 tpc2 buf2 dp2 tdp2 ++ own2) ++ own3))
            | replace nE' := (news_tail (news_tail (news_tail (news_tail (id nE')))) : News _ _ _ ((sl w.params fx chunk2 tc2 size2 ts2 off2 tof2 errs2 ne2 pl2 tpl2 pc2 tpc2 buf2 dp2 tdp2 ++ own2) ++ own3))
          refine kst_end (⟨chunk2, tc2, size2, ts2, off2, tof2, errs2, ne2, pl2, tpl2, pc2, tpc2, buf2, dp2, tdp2, _, _, _⟩ : Ls) (by k_asm) nE' (fun p hp => List.mem_append_left own3 hp) (fun p hp => List.mem_append_right _ hp) (by rfl) trivial (by kst_all) (by kst_same) ?_
          exact hL2
        · refine ⟨?_⟩
          rename News _ _ _ _ => nE'
          first | replace nE' := (news_drop2 nE' : News _ _ _ (_ :: (sl w.params fx chunk1 tc1 size1 ts1 off1 tof1 errs1 ne1 pl1 tpl1 pc1 tpc1 buf1 dp1 tdp1 ++ (own2 ++ own3)))) | skip
          k_dflt (refine' (c_chars fx chunk1 tc1 size1 ts1 off1 tof1 errs1 ne1 pl1 tpl1 pc1 tpc1 buf1 dp1 tdp1 _ _ [Str.ofString " ", Str.ofString "\n", Str.ofString "a"] true (.cons _ _ (.cons _ _ (.cons _ _ .nil))) ?hct hw1 hlen hen).use0 (own := own2 ++ own3) ?k1 ?k2 ?k3 ?k4 ?k5 ?k6 ?k7 ?k8 ?k9 ?k10 ?k11 ?_)
          case k8 => exact nE'
          case k1 => exact rfl
          case k2 => exact rfl
          case k3 => exact Nat.le_of_ble_eq_true rfl
          case k4 => exact Nat.le_of_ble_eq_true rfl
          case k5 => k_asm
          case k6 => k_asm
          case k7 => k_asm
          case k9 => k_asm
          case k10 => exact rfl
          case hct => omega
          case k11 => exact off_cons (tbn_neAll (by tbn_find)) hO4
          rintro r' pre' h3 tk3 ⟨R, tR, chunk2, tc2, size2, ts2, off2, tof2, errs2, ne2, pl2, tpl2, pc2, tpc2, buf2, dp2, tdp2, rfl, rfl, hC⟩ F3 N3
          dsimp only [sl, List.cons_append, List.nil_append] at N3
          k_sweep
          try dsimp only
          obtain ⟨rfl, hL2⟩ := hL.until0 hE1 (by omega) hE3 hC
          k_steps
          all_goals first
            | (exfalso; rename (_ != _) = true => hq; simp at hq; done)
            | (exfalso; rename ¬ (_ = _) => hq; exact hq rfl)
            | skip
          refine ⟨?_⟩
          rename News _ _ _ _ => nE'
          first
            | replace nE' := (id nE' : News _ _ _ ((sl w.params fx chunk2 tc2 size2 ts2 off2 tof2 errs2 ne2 pl2 tpl2 pc2 tpc2 buf2 dp2 tdp2 ++ own2) ++ own3))
            | replace nE' := (news_tail (id nE') : News _ _ _ ((sl w.params fx chunk2 tc2 size2 ts2 off2 tof2 errs2 ne2 pl2 tpl2 pc2 tpc2 buf2 dp2 tdp2 ++ own2) ++ own3))
            | replace nE' := (news_tail (news_tail (id nE')) : News _ _ _ ((sl w.params fx chunk2 tc2 size2 ts2 off2 tof2 errs2 ne2 pl2 tpl2 pc2 tpc2 buf2 dp2 tdp2 ++ own2) ++ own3))
            | replace nE' := (news_tail (news_tail (news_tail (id nE'))) : News _ _ _ ((sl w.params fx chunk2 tc2 size2 ts2 off2 tof2 errs2 ne2 pl2 tpl2 pc2 tpc2 buf2 dp2 tdp2 ++ own2) ++ own3))
            | replace nE' := (news_tail (news_tail (news_tail (news_tail (id nE')))) : News _ _ _ ((sl w.params fx chunk2 tc2 size2 ts2 off2 tof2 errs2 ne2 pl2 tpl2 pc2 tpc2 buf2 dp2 tdp2 ++ own2) ++ own3))
          refine kst_end (⟨chunk2, tc2, size2, ts2, off2, tof2, errs2, ne2, pl2, tpl2, pc2, tpc2, buf2, dp2, tdp2, _, _, _⟩ : Ls) (by k_asm) nE' (fun p hp => List.mem_append_left own3 hp) (fun p hp => List.mem_append_right _ hp) (by rfl) trivial (by kst_all) (by kst_same) ?_
          exact hL2
      · rcases hL.fre with hf | ⟨c, t, hf, -⟩
        · subst hf
          k_steps
          refine ⟨?_⟩
          rename News _ _ _ _ => nE'
          first
            | replace nE' := (id nE' : News _ _ _ ((sl w.params fx chunk1 tc1 size1 ts1 off1 tof1 errs1 ne1 pl1 tpl1 pc1 tpc1 buf1 dp1 tdp1 ++ own2) ++ own3))
            | replace nE' := (news_tail (id nE') : News _ _ _ ((sl w.params fx chunk1 tc1 size1 ts1 off1 tof1 errs1 ne1 pl1 tpl1 pc1 tpc1 buf1 dp1 tdp1 ++ own2) ++ own3))
            | replace nE' := (news_tail (news_tail (id nE')) : News _ _ _ ((sl w.params fx chunk1 tc1 size1 ts1 off1 tof1 errs1 ne1 pl1 tpl1 pc1 tpc1 buf1 dp1 tdp1 ++ own2) ++ own3))
            | replace nE' := (news_tail (news_tail (news_tail (id nE'))) : News _ _ _ ((sl w.params fx chunk1 tc1 size1 ts1 off1 tof1 errs1 ne1 pl1 tpl1 pc1 tpc1 buf1 dp1 tdp1 ++ own2) ++ own3))
            | replace nE' := (news_tail (news_tail (news_tail (news_tail (id nE')))) : News _ _ _ ((sl w.params fx chunk1 tc1 size1 ts1 off1 tof1 errs1 ne1 pl1 tpl1 pc1 tpc1 buf1 dp1 tdp1 ++ own2) ++ own3))
          refine kst_end (⟨chunk1, tc1, size1, ts1, off1, tof1, errs1, ne1, pl1, tpl1, pc1, tpc1, buf1, dp1, tdp1, _, _, _⟩ : Ls) (by k_asm) nE' (fun p hp => List.mem_append_left own3 hp) (fun p hp => List.mem_append_right _ hp) (by rfl) trivial (by kst_all) (by kst_same) ?_
          exact hL
        · subst hf
          obtain ⟨hb1, hb2, hb3, hL2⟩ := hL.back
          have hcl := hw1.hlen
          k_steps
          refine ⟨?_⟩
          k_dflt (refine' (c_unget fx chunk1 tc1 size1 ts1 off1 tof1 errs1 ne1 pl1 tpl1 pc1 tpc1 buf1 dp1 tdp1 c t hz1 (by omega) hb2 hw1.off1 hb3).use0 (own := own2 ++ own3) ?k1 ?k2 ?k3 ?k4 ?k5 ?k6 ?k7 ?k8 ?k9 ?k10 ?k11 ?_)
          case k8 => k_asm
          case k1 => exact rfl
          case k2 => exact rfl
          case k3 => exact Nat.le_of_ble_eq_true rfl
          case k4 => exact Nat.le_of_ble_eq_true rfl
          case k5 => k_asm
          case k6 => k_asm
          case k7 => k_asm
          case k9 => k_asm
          case k10 => exact rfl
          case k11 => exact hO4
          rintro r' pre' h2 tk2 ⟨tof2, rfl, rfl⟩ F2 N2
          dsimp only [sl, List.cons_append, List.nil_append] at N2
          k_sweep
          try dsimp only
          k_steps
          refine ⟨?_⟩
          rename News _ _ _ _ => nE'
          first
            | replace nE' := (id nE' : News _ _ _ ((sl w.params fx chunk1 tc1 size1 ts1 (off1 - 1) tof2 errs1 ne1 pl1 tpl1 pc1 tpc1 buf1 dp1 tdp1 ++ own2) ++ own3))
            | replace nE' := (news_tail (id nE') : News _ _ _ ((sl w.params fx chunk1 tc1 size1 ts1 (off1 - 1) tof2 errs1 ne1 pl1 tpl1 pc1 tpc1 buf1 dp1 tdp1 ++ own2) ++ own3))
            | replace nE' := (news_tail (news_tail (id nE')) : News _ _ _ ((sl w.params fx chunk1 tc1 size1 ts1 (off1 - 1) tof2 errs1 ne1 pl1 tpl1 pc1 tpc1 buf1 dp1 tdp1 ++ own2) ++ own3))
            | replace nE' := (news_tail (news_tail (news_tail (id nE'))) : News _ _ _ ((sl w.params fx chunk1 tc1 size1 ts1 (off1 - 1) tof2 errs1 ne1 pl1 tpl1 pc1 tpc1 buf1 dp1 tdp1 ++ own2) ++ own3))
            | replace nE' := (news_tail (news_tail (news_tail (news_tail (id nE')))) : News _ _ _ ((sl w.params fx chunk1 tc1 size1 ts1 (off1 - 1) tof2 errs1 ne1 pl1 tpl1 pc1 tpc1 buf1 dp1 tdp1 ++ own2) ++ own3))
          refine kst_end (⟨chunk1, tc1, size1, ts1, (off1 - 1), tof2, errs1, ne1, pl1, tpl1, pc1, tpc1, buf1, dp1, tdp1, _, _, _⟩ : Ls) (by k_asm) nE' (fun p hp => List.mem_append_left own3 hp) (fun p hp => List.mem_append_right _ hp) (by rfl) trivial (by kst_all) (by kst_same) ?_
          exact hL2
    · rintro ⟨chunk1, tc1, size1, ts1, off1, tof1, errs1, ne1, pl1, tpl1, pc1, tpc1, buf1, dp1, tdp1, place1, tplace1, fresh1⟩ u h tk - hL F1 N1
      dsimp only at hL
      dsimp only [kstB] at F1
      simp only [sl, List.cons_append, List.nil_append] at N1
      have hw1 := hL.wf
      have hz1 := hw1.hsize
      have hq1 := hL.p0
      have hq2 := hL.p1
      have hbd := badL_le fx.text.cps.toList
      rw [len_cps, hfx] at hbd
      have htt := hL.tot
      rw [hfx] at htt
      have hlen : fx.text.length ≤ 100 := by rw [hfx]; omega
      have hen : errs1.length + badL (raw fx.text buf1 dp1) ≤ 500 := by rw [hfx]; omega
      try k_fold
      k_steps
      refine ⟨?_⟩
      k_dflt (refine' (c_charsD fx chunk1 tc1 size1 ts1 off1 tof1 errs1 ne1 pl1 tpl1 pc1 tpc1 buf1 dp1 tdp1 _ _ [] .nil ?hct hw1 hlen hen).use0 (own := own2) ?k1 ?k2 ?k3 ?k4 ?k5 ?k6 ?k7 ?k8 ?k9 ?k10 ?k11 ?_)
      case k8 => k_asm
      case k1 => exact rfl
      case k2 => exact rfl
      case k3 => exact Nat.le_of_ble_eq_true rfl
      case k4 => exact Nat.le_of_ble_eq_true rfl
      case k5 => k_asm
      case k6 => k_asm
      case k7 => k_asm
      case k9 => k_asm
      case k10 => exact rfl
      case hct => omega
      case k11 => exact off_cons (tbn_neAll (by tbn_find)) hO2
      rintro r' pre' h3 tk3 ⟨R, tR, chunk2, tc2, size2, ts2, off2, tof2, errs2, ne2, pl2, tpl2, pc2, tpc2, buf2, dp2, tdp2, rfl, rfl, hC⟩ F3 N3
      dsimp only [sl, List.cons_append, List.nil_append] at N3
      k_sweep
      try dsimp only
      obtain ⟨rfl, hL2⟩ := hL.final hC
      have hw2 := hL2.wf
      have ht2 := hL2.tot
      rw [hfx] at ht2
      have hen2 : errs2.length + badL (raw fx.text buf2 dp2) ≤ 500 := by rw [hfx]; omega
      k_steps
      all_goals try (exfalso; rename (_ != _) = true => hq; simp at hq; done)
      all_goals try (exfalso; rename ¬ (_ = _) => hq; exact hq rfl)
      refine ⟨?_⟩
      rename News _ _ _ _ => nE'
      first
        | replace nE' := (news_tail (id nE') : News _ _ _ (sl w.params fx chunk2 tc2 size2 ts2 off2 tof2 errs2 ne2 pl2 tpl2 pc2 tpc2 buf2 dp2 tdp2 ++ own2))
        | replace nE' := (news_tail (news_tail (id nE')) : News _ _ _ (sl w.params fx chunk2 tc2 size2 ts2 off2 tof2 errs2 ne2 pl2 tpl2 pc2 tpc2 buf2 dp2 tdp2 ++ own2))
        | replace nE' := (news_tail (news_tail (news_tail (id nE'))) : News _ _ _ (sl w.params fx chunk2 tc2 size2 ts2 off2 tof2 errs2 ne2 pl2 tpl2 pc2 tpc2 buf2 dp2 tdp2 ++ own2))
      k_dflt (refine' (c_char fx chunk2 tc2 size2 ts2 off2 tof2 errs2 ne2 pl2 tpl2 pc2 tpc2 buf2 dp2 tdp2 hw2 hlen hen2).use0 (own := own2) ?k1 ?k2 ?k3 ?k4 ?k5 ?k6 ?k7 ?k8 ?k9 ?k10 ?k11 ?_)
      case k8 => exact nE'
      case k1 => exact rfl
      case k2 => exact rfl
      case k3 => exact Nat.le_of_ble_eq_true rfl
      case k4 => exact Nat.le_of_ble_eq_true rfl
      case k5 => k_asm
      case k6 => k_asm
      case k7 => k_asm
      case k9 => k_asm
      case k10 => exact rfl
      case k11 => exact hO2
      rintro r'' pre'' h4 tk4 ⟨chunk3, tc3, size3, ts3, off3, tof3, errs3, ne3, pl3, tpl3, pc3, tpc3, buf3, dp3, tdp3, rfl, hch⟩ F4 N4
      obtain ⟨rfl, hL3⟩ := hL2.char0 (by omega) hch
      have hE3 := hL3.errs
      rw [hfx] at hE3
      dsimp only [sl, List.cons_append, List.nil_append] at N4
      k_sweep
      try dsimp only
      k_with_none
      k_with "call builtin:len" => (k_here; (with_reducible show wpAny _ _ (call (Value.builtin "len") [Value.ref _]) _ _ _); refine Mark.out ?_)
      k_steps
      refine ⟨?_⟩
      refine kst_len (by k_asm) (by first | k_mem | exact List.mem_append_left _ (by k_mem)) rfl (by omega) ?_
      try dsimp only
      k_steps
      refine ⟨?_⟩
      rename CarriedAll _ (List.map PyData.str (List.filter _ _)) => hc9
      rename Heap.IsList _ _ _ => hl9
      have hz9 := filt_len text hT2 hc9 (by
        intro c
        try dsimp only
        rw [sign_eq c 1 _ (by decide +kernel), sign_eq c 64976 _ (by decide +kernel)]
        cases (c == 1) <;> cases (c == 64976) <;> rfl)
      rw [← hE3] at hz9
      refine len_list hl9 (by rw [hz9]; omega) ?_
      rw [hz9]
      try dsimp only
      k_steps
      done)
end
end Mine
set_option maxRecDepth 100000 in
set_option maxHeartbeats 8000000 in
theorem PySem.Challenge.cw_im0054_01_holds : PySem.Challenge.rw_im0054_01.Holds := by
  exact Mine.law
