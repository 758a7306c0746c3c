import PyProof.Rows.All
import Wide.All
import OpenK.AllK
import Wide.FinOn
import PySem.Challenge.RW_xh0049_01

open PySem PySem.W PyProof.Rows PySem.Calls
set_option Elab.async false
set_option maxRecDepth 100000
set_option maxHeartbeats 8000000
namespace Mine
theorem endAt_through {t : Thread} {f : Flow} (h : endAt 0 t = some f) : through t = true := by
  obtain ⟨cur, code, pos, stack⟩ := t
  unfold endAt at h
  unfold through
  cases stack with
  | nil =>
    cases cur with
    | pure x => cases x with
      | done f => rfl
      | again c => simp at h
    | _ => simp at h
  | cons a r => simp at h
theorem endAt_not {t : Thread} (h : endAt 0 t = none) : through t = false := by
  obtain ⟨cur, code, pos, stack⟩ := t
  unfold endAt at h
  unfold through
  cases stack with
  | nil =>
    cases cur with
    | pure x => cases x with
      | done f => simp at h
      | again c => rfl
    | _ => rfl
  | cons a r => rfl
theorem segRun_top {tb : String → Option Builtin} {p : Program} {w : World} {n₀ : Nat} {ann : Option Value} : ∀ {n : Nat} {s : Shared} {t : Thread} {r : Flow × Shared × Code × Pos}, segRun tb p w n₀ ann 0 n s t = some r → topRun tb p w n₀ ann n s t = some r.2.1
  | 0, _, _, _, h => by cases h
  | n + 1, s, t, r, h => by
    unfold segRun at h
    unfold topRun
    cases he : endAt 0 t with
    | some f => rw [he] at h; rw [endAt_through he]; cases h; rfl
    | none =>
      rw [he] at h; rw [endAt_not he]
      cases hk : stepOk n₀ ann t with
      | false => rw [hk] at h; cases h
      | true =>
        rw [hk] at h
        cases hs : step (denote tb) p w s t with
        | halt o s' => rw [hs] at h; cases h
        | go s' t' => rw [hs] at h; exact segRun_top h
noncomputable def RunAt {α : Type} (p q : Program) (loose : List Str) (Xt : Shared → Bool) (Yf : Shared → α) (Ya : World → α) (g0 : Bool) (T₀ : Params → BT) (H₀ : Params → Heap) (gs₀ : Array GenState) (d₀ : Drawn) (k₀ m₀ : Nat) (life : Life) (ann : Option Value) (M : Nat) (row : String) (b : Bool) : Prop :=
    ∀ (w : World) (os : OsState), (segRunT treeTable p (w.withFollow row b) m₀ ann 0 M ⟨T₀ (w.withFollow row b).params, m₀, life, gs₀, d₀, k₀, os⟩ (topStub p)).map (fun r =>
        (staticsOk (importedModules p.main.body) (H₀ (w.withFollow row b).params) r.2.1.abs.heap && namesBound p r.2.1.abs.heap && gensDone r.2.1.abs && laidKept (H₀ (w.withFollow row b).params) r.2.1.abs.heap,
         openSeen q loose (importedModules p.main.body) Xt g0 r.2.1.abs, Yf r.2.1.abs)) = some (true, openGood q loose, Ya (w.withFollow row b))
theorem LeftO.of_tree {p q : Program} {loose : List Str} {Xt : Shared → Bool} {α : Type} {Yf : Shared → α} {Ya : World → α} {N : Nat} {g0 : Bool} {T₀ : Params → BT} {H₀ : Params → Heap} {gs₀ : Array GenState} {d₀ : Drawn} {k₀ : Nat} {m₀ : Nat} {life : Life} {ann : Option Value} {M : Nat} (row : String)
    (open_ : ∀ w : World, (fencedOpening treeTable p w N).map (fun s => (s.heap, s.gens, s.drawn, s.toks)) = some (H₀ w.params, gs₀, d₀, k₀))
    (size : ∀ w : World, ((H₀ w.params).isNs mainGlobals && gs₀.size == 0, (H₀ w.params).objs.size, (H₀ w.params).nsMap mainGlobals "__annotations__") = (true, m₀, ann))
    (tree : ∀ P : Params, absHeap (T₀ P) m₀ life = H₀ P) (le : Nat.ble M N = true)
    (run : ∀ b : Bool, RunAt p q loose Xt Yf Ya g0 T₀ H₀ gs₀ d₀ k₀ m₀ life ann M row b) : LeftO p q loose Xt Yf Ya N g0 := by
  have key : ∀ w : World, (∀ os : OsState, (segRunT treeTable p w m₀ ann 0 M ⟨T₀ w.params, m₀, life, gs₀, d₀, k₀, os⟩ (topStub p)).map (fun r =>
        (staticsOk (importedModules p.main.body) (H₀ w.params) r.2.1.abs.heap && namesBound p r.2.1.abs.heap && gensDone r.2.1.abs && laidKept (H₀ w.params) r.2.1.abs.heap,
         openSeen q loose (importedModules p.main.body) Xt g0 r.2.1.abs, Yf r.2.1.abs)) = some (true, openGood q loose, Ya w)) →
      (openEnds treeTable p w N).map (fun s => (openSeen q loose (importedModules p.main.body) Xt g0 s, Yf s)) = some (openGood q loose, Ya w) := by
    intro w hr
    obtain ⟨⟨h, gs, d, k, os⟩, e, e'⟩ := Option.map_eq_some_iff.mp (open_ w)
    obtain ⟨rfl, rfl, rfl, rfl⟩ : h = H₀ w.params ∧ gs = gs₀ ∧ d = d₀ ∧ k = k₀ := by simpa using e'
    obtain ⟨z1, z2, z3⟩ : _ ∧ _ ∧ _ := by simpa only [Prod.mk.injEq] using size w
    obtain ⟨⟨f, s', c, pz⟩, r1, r2⟩ := Option.map_eq_some_iff.mp (hr os)
    obtain ⟨l1, l2, l3⟩ : _ ∧ _ ∧ _ := by simpa only [Prod.mk.injEq] using r2
    have r := topRun_mono (N - M) _ _ _ _ (segRun_top (segRun_of r1))
    rw [show M + (N - M) = N by have := Nat.le_of_ble_eq_true le; omega] at r
    have hs : (⟨T₀ w.params, m₀, life, gs, d, k, os⟩ : SharedT).abs = ⟨H₀ w.params, gs, d, k, os⟩ := by
      show Shared.mk _ _ _ _ _ = _
      rw [tree]
    rw [hs] at r
    have t : topFrom treeTable p w N ⟨H₀ w.params, gs, d, k, os⟩ = some s'.abs := by
      unfold topFrom
      dsimp only
      rw [z1, z2, z3, r]
      show (match staticsOk (importedModules p.main.body) (H₀ w.params) s'.abs.heap && namesBound p s'.abs.heap && gensDone s'.abs && laidKept (H₀ w.params) s'.abs.heap with | true => _ | false => _) = _
      rw [l1]
    unfold openEnds
    rw [e]
    show (topFrom treeTable p w N _).map _ = _
    rw [t]
    exact congrArg some (Prod.ext l2 l3)
  intro w
  have e := World.withFollow_self w row
  have := key (w.withFollow row (w.params.followText row)) (run _ w)
  rwa [e] at this
structure Fd where
  a : Arguments
  b : List Stmt
  c : Scope
abbrev Fd.of {n : Str} {a : Arguments} {b : List Stmt} {d : List PySem.Expr} {r : Option PySem.Expr} {tp : List TypeParam} {sc : Scope} {ts : Option Scope} {bi : Str} {p : Pos} (o : Option Stmt) (_ : o = some (Stmt.FunctionDef n a b d r tp sc ts bi p)) : Fd := ⟨a, b, sc⟩
def clsBody : Option Stmt → List Stmt
  | some (.ClassDef _ _ _ b _ _ _ _ _ _ _) => b
  | _ => []
noncomputable abbrev hd.f21 : Fd := Fd.of (PySem.Challenge.pw_xh0049_01.main.body[0]?) rfl
noncomputable abbrev hd.f35 : Fd := Fd.of ((clsBody (PySem.Challenge.pw_xh0049_01.main.body[2]?))[0]?) rfl
noncomputable abbrev hd.f42 : Fd := Fd.of ((clsBody (PySem.Challenge.pw_xh0049_01.main.body[2]?))[1]?) rfl
noncomputable abbrev hd.f56 : Fd := Fd.of (PySem.Challenge.pw_xh0049_01.main.body[3]?) rfl
noncomputable abbrev hd.f63 : Fd := Fd.of (PySem.Challenge.pw_xh0049_01.main.body[4]?) rfl
noncomputable abbrev hd.f95 : Fd := Fd.of (PySem.Challenge.pw_xh0049_01.main.body[8]?) rfl
noncomputable abbrev hd.f112 : Fd := Fd.of ((clsBody (PySem.Challenge.pw_xh0049_01.main.body[10]?))[1]?) rfl
noncomputable abbrev hd.f119 : Fd := Fd.of ((clsBody (PySem.Challenge.pw_xh0049_01.main.body[10]?))[2]?) rfl
noncomputable abbrev hd.f126 : Fd := Fd.of ((clsBody (PySem.Challenge.pw_xh0049_01.main.body[10]?))[3]?) rfl
noncomputable abbrev hd.f133 : Fd := Fd.of ((clsBody (PySem.Challenge.pw_xh0049_01.main.body[10]?))[4]?) rfl
noncomputable abbrev hd.f140 : Fd := Fd.of ((clsBody (PySem.Challenge.pw_xh0049_01.main.body[10]?))[5]?) rfl
noncomputable abbrev hd.f147 : Fd := Fd.of ((clsBody (PySem.Challenge.pw_xh0049_01.main.body[10]?))[6]?) rfl
noncomputable abbrev hd.f154 : Fd := Fd.of ((clsBody (PySem.Challenge.pw_xh0049_01.main.body[10]?))[7]?) rfl
noncomputable abbrev hd.f176 : Fd := Fd.of ((clsBody (PySem.Challenge.pw_xh0049_01.main.body[12]?))[0]?) rfl
noncomputable abbrev hd.f183 : Fd := Fd.of ((clsBody (PySem.Challenge.pw_xh0049_01.main.body[12]?))[1]?) rfl
noncomputable abbrev hd.f190 : Fd := Fd.of ((clsBody (PySem.Challenge.pw_xh0049_01.main.body[12]?))[2]?) rfl
noncomputable abbrev hd.f197 : Fd := Fd.of ((clsBody (PySem.Challenge.pw_xh0049_01.main.body[12]?))[3]?) rfl
noncomputable abbrev hd.f204 : Fd := Fd.of ((clsBody (PySem.Challenge.pw_xh0049_01.main.body[12]?))[4]?) rfl
noncomputable abbrev hd.f211 : Fd := Fd.of ((clsBody (PySem.Challenge.pw_xh0049_01.main.body[12]?))[5]?) rfl
noncomputable abbrev hd.f218 : Fd := Fd.of ((clsBody (PySem.Challenge.pw_xh0049_01.main.body[12]?))[6]?) rfl
noncomputable abbrev hd.f225 : Fd := Fd.of ((clsBody (PySem.Challenge.pw_xh0049_01.main.body[12]?))[7]?) rfl
noncomputable abbrev hd.f232 : Fd := Fd.of ((clsBody (PySem.Challenge.pw_xh0049_01.main.body[12]?))[8]?) rfl
noncomputable abbrev hd.f246 : Fd := Fd.of (PySem.Challenge.pw_xh0049_01.main.body[13]?) rfl
noncomputable abbrev hd.f253 : Fd := Fd.of (PySem.Challenge.pw_xh0049_01.main.body[14]?) rfl
noncomputable abbrev hd.f260 : Fd := Fd.of (PySem.Challenge.pw_xh0049_01.main.body[15]?) rfl
noncomputable abbrev hd.f267 : Fd := Fd.of (PySem.Challenge.pw_xh0049_01.main.body[16]?) rfl
noncomputable abbrev hd.f274 : Fd := Fd.of (PySem.Challenge.pw_xh0049_01.main.body[17]?) rfl
noncomputable abbrev hd.f281 : Fd := Fd.of (PySem.Challenge.pw_xh0049_01.main.body[18]?) rfl
noncomputable abbrev hd.f288 : Fd := Fd.of (PySem.Challenge.pw_xh0049_01.main.body[20]?) rfl
noncomputable abbrev hd.f293 : Fd := Fd.of (PySem.Challenge.pw_xh0049_01.main.body[21]?) rfl
noncomputable abbrev hd.f300 : Fd := Fd.of (PySem.Challenge.pw_xh0049_01.main.body[22]?) rfl
noncomputable abbrev hd.f307 : Fd := Fd.of (PySem.Challenge.pw_xh0049_01.main.body[23]?) rfl
noncomputable abbrev hd.f314 : Fd := Fd.of (PySem.Challenge.pw_xh0049_01.main.body[24]?) rfl
noncomputable abbrev hd.f321 : Fd := Fd.of (PySem.Challenge.pw_xh0049_01.main.body[25]?) rfl
noncomputable abbrev hd.f326 : Fd := Fd.of (PySem.Challenge.pw_xh0049_01.main.body[26]?) rfl
noncomputable abbrev hd.f331 : Fd := Fd.of (PySem.Challenge.pw_xh0049_01.main.body[27]?) rfl
noncomputable def hd.heap_39 : Params → Frag := fun P =>
  (nat_lit 2, (⟨.none, none, (.dict #[⟨(PyData.keyHash P (Str.ofString "type.__subclasses__.Exception.0")), (.str (Str.ofString "type.__subclasses__.Exception.0") 276), (.int 73 0)⟩, ⟨(PyData.keyHash P (Str.ofString "type.__subclasses__.Exception.n")), (.str (Str.ofString "type.__subclasses__.Exception.n") 277), (.int 1 0)⟩] 2), #[]⟩ : Obj)) ::
  (nat_lit 3, (⟨(.type "dict"), none, (.dict #[⟨(PyData.keyHash P (Str.ofString "__name__")), (.str (Str.ofString "__name__") 165), (.str (Str.ofString "law_xh0049_01") 544)⟩, ⟨(PyData.keyHash P (Str.ofString "__doc__")), (.str (Str.ofString "__doc__") 166), .none⟩, ⟨(PyData.keyHash P (Str.ofString "__package__")), (.str (Str.ofString "__package__") 167), .none⟩, ⟨(PyData.keyHash P (Str.ofString "__loader__")), (.str (Str.ofString "__loader__") 168), (.builtin "__main__.__loader__#opaque")⟩, ⟨(PyData.keyHash P (Str.ofString "__spec__")), (.str (Str.ofString "__spec__") 169), .none⟩, ⟨(PyData.keyHash P (Str.ofString "__annotations__")), (.str (Str.ofString "__annotations__") 170), (.ref 6)⟩, ⟨(PyData.keyHash P (Str.ofString "__builtins__")), (.str (Str.ofString "__builtins__") 171), (.ref 4)⟩, ⟨(PyData.keyHash P (Str.ofString "__file__")), (.str (Str.ofString "__file__") 173), (.str (Str.ofString "/claim/cut.py") 172)⟩, ⟨(PyData.keyHash P (Str.ofString "__cached__")), (.str (Str.ofString "__cached__") 174), .none⟩, ⟨(PyData.keyHash P (Str.ofString "_wall")), (.str (Str.ofString "_wall") 193), (.ref 21)⟩, ⟨(PyData.keyHash P (Str.ofString "TupleComp")), (.str (Str.ofString "TupleComp") 237), (.ref 45)⟩, ⟨(PyData.keyHash P (Str.ofString "add_callers")), (.str (Str.ofString "add_callers") 248), (.ref 56)⟩, ⟨(PyData.keyHash P (Str.ofString "count_calls")), (.str (Str.ofString "count_calls") 257), (.ref 63)⟩, ⟨(PyData.keyHash P (Str.ofString "Error")), (.str (Str.ofString "Error") 279), (.ref 73)⟩, ⟨(PyData.keyHash P (Str.ofString "error_reply")), (.str (Str.ofString "error_reply") 295), (.ref 86)⟩, ⟨(PyData.keyHash P (Str.ofString "parse257")), (.str (Str.ofString "parse257") 306), (.ref 95)⟩, ⟨(PyData.keyHash P (Str.ofString "Whitespace")), (.str (Str.ofString "Whitespace") 408), (.ref 157)⟩, ⟨(PyData.keyHash P (Str.ofString "QName")), (.str (Str.ofString "QName") 501), (.ref 235)⟩, ⟨(PyData.keyHash P (Str.ofString "_raise_serialization_error")), (.str (Str.ofString "_raise_serialization_error") 508), (.ref 246)⟩, ⟨(PyData.keyHash P (Str.ofString "_escape_cdata")), (.str (Str.ofString "_escape_cdata") 515), (.ref 253)⟩, ⟨(PyData.keyHash P (Str.ofString "_escape_attrib")), (.str (Str.ofString "_escape_attrib") 522), (.ref 260)⟩, ⟨(PyData.keyHash P (Str.ofString "_escape_attrib_html")), (.str (Str.ofString "_escape_attrib_html") 529), (.ref 267)⟩, ⟨(PyData.keyHash P (Str.ofString "_escape_cdata_c14n")), (.str (Str.ofString "_escape_cdata_c14n") 536), (.ref 274)⟩, ⟨(PyData.keyHash P (Str.ofString "_escape_attrib_c14n")), (.str (Str.ofString "_escape_attrib_c14n") 543), (.ref 281)⟩, ⟨(PyData.keyHash P (Str.ofString "_law_written")), (.str (Str.ofString "_law_written") 553), (.ref 288)⟩, ⟨(PyData.keyHash P (Str.ofString "_law_spelled")), (.str (Str.ofString "_law_spelled") 559), (.ref 293)⟩, ⟨(PyData.keyHash P (Str.ofString "_law_plain")), (.str (Str.ofString "_law_plain") 571), (.ref 300)⟩, ⟨(PyData.keyHash P (Str.ofString "_law_by_rows")), (.str (Str.ofString "_law_by_rows") 583), (.ref 307)⟩, ⟨(PyData.keyHash P (Str.ofString "_law_by_leads")), (.str (Str.ofString "_law_by_leads") 595), (.ref 314)⟩, ⟨(PyData.keyHash P (Str.ofString "_law_by_names")), (.str (Str.ofString "_law_by_names") 607), (.ref 321)⟩, ⟨(PyData.keyHash P (Str.ofString "_law_ways")), (.str (Str.ofString "_law_ways") 613), (.ref 326)⟩, ⟨(PyData.keyHash P (Str.ofString "law")), (.str (Str.ofString "law") 619), (.ref 331)⟩] 32), #[]⟩ : Obj)) ::
  (nat_lit 15, (⟨(.type "tuple"), none, (.seq #[] 0), #[]⟩ : Obj)) ::
  (nat_lit 17, (⟨(.type "tuple"), none, (.seq #[(.str (Str.ofString "k") 190)] 0), #[]⟩ : Obj)) ::
  (nat_lit 18, (⟨(.type "tuple"), none, (.seq #[] 0), #[]⟩ : Obj)) ::
  (nat_lit 20, (⟨(.type "code"), none, (.fields #[(.str (Str.ofString "_wall") 187), (.str (Str.ofString "_wall") 188), (.str (Str.ofString "/claim/cut.py") 189), (.int 1 0), (.int 1 0), (.int 0 0), (.int 0 0), (.int 3 0), (.ref 15), (.bool true), (.int 181 0), (.ref 16), .none, (.ref 17), (.ref 18), (.ref 19), (.int 191 0), (.int 1 0), (.str (Str.ofString "/claim/cut.py") 192)]), #[]⟩ : Obj)) ::
  (nat_lit 21, (⟨(.type "function"), none, (.func ⟨(Str.ofString "_wall"), (Str.ofString "_wall"), hd.f21.a, .stmts hd.f21.b, hd.f21.c, 3, [], .none, .none, .none, (.str (Str.ofString "__main__") 164), none, (.ref 20), .none, 0⟩), #[]⟩ : Obj)) ::
  (nat_lit 29, (⟨(.type "tuple"), none, (.seq #[] 0), #[]⟩ : Obj)) ::
  (nat_lit 31, (⟨(.type "tuple"), none, (.seq #[(.str (Str.ofString "self") 211), (.str (Str.ofString "comp_select_list") 212)] 0), #[]⟩ : Obj)) ::
  (nat_lit 32, (⟨(.type "tuple"), none, (.seq #[] 0), #[]⟩ : Obj)) ::
  (nat_lit 34, (⟨(.type "code"), none, (.fields #[(.str (Str.ofString "__init__") 208), (.str (Str.ofString "TupleComp.__init__") 209), (.str (Str.ofString "/claim/cut.py") 210), (.int 7 0), (.int 2 0), (.int 0 0), (.int 0 0), (.int 3 0), (.ref 29), (.bool true), (.int 181 0), (.ref 30), .none, (.ref 31), (.ref 32), (.ref 33), (.int 213 0), (.int 7 0), (.str (Str.ofString "/claim/cut.py") 214)]), #[]⟩ : Obj)) ::
  (nat_lit 35, (⟨(.type "function"), none, (.func ⟨(Str.ofString "__init__"), (Str.ofString "TupleComp.__init__"), hd.f35.a, .stmts hd.f35.b, hd.f35.c, 3, [], .none, .none, .none, (.str (Str.ofString "cpy313.pstats") 194), none, (.ref 34), .none, 0⟩), #[]⟩ : Obj)) ::
  (nat_lit 36, (⟨(.type "tuple"), none, (.seq #[] 0), #[]⟩ : Obj)) ::
  (nat_lit 38, (⟨(.type "tuple"), none, (.seq #[(.str (Str.ofString "self") 219), (.str (Str.ofString "left") 220), (.str (Str.ofString "right") 221), (.str (Str.ofString "index") 222), (.str (Str.ofString "direction") 223), (.str (Str.ofString "l") 224), (.str (Str.ofString "r") 225)] 0), #[]⟩ : Obj)) ::
  (nat_lit 39, (⟨(.type "tuple"), none, (.seq #[] 0), #[]⟩ : Obj)) ::
  (nat_lit 41, (⟨(.type "code"), none, (.fields #[(.str (Str.ofString "compare") 216), (.str (Str.ofString "TupleComp.compare") 217), (.str (Str.ofString "/claim/cut.py") 218), (.int 10 0), (.int 3 0), (.int 0 0), (.int 0 0), (.int 3 0), (.ref 36), (.bool true), (.int 181 0), (.ref 37), .none, (.ref 38), (.ref 39), (.ref 40), (.int 226 0), (.int 10 0), (.str (Str.ofString "/claim/cut.py") 227)]), #[]⟩ : Obj)) ::
  (nat_lit 42, (⟨(.type "function"), none, (.func ⟨(Str.ofString "compare"), (Str.ofString "TupleComp.compare"), hd.f42.a, .stmts hd.f42.b, hd.f42.c, 3, [], .none, .none, .none, (.str (Str.ofString "cpy313.pstats") 194), none, (.ref 41), .none, 0⟩), #[]⟩ : Obj)) ::
  (nat_lit 43, (⟨(.type "tuple"), none, (.seq #[(.str (Str.ofString "comp_select_list") 229)] 0), #[]⟩ : Obj)) ::
  (nat_lit 44, (⟨(.type "dict"), none, (.dict #[⟨(PyData.keyHash P (Str.ofString "__module__")), (.str (Str.ofString "__module__") 203), (.str (Str.ofString "cpy313.pstats") 194)⟩, ⟨(PyData.keyHash P (Str.ofString "__firstlineno__")), (.str (Str.ofString "__firstlineno__") 207), (.int 5 206)⟩, ⟨(PyData.keyHash P (Str.ofString "__init__")), (.str (Str.ofString "__init__") 215), (.ref 35)⟩, ⟨(PyData.keyHash P (Str.ofString "compare")), (.str (Str.ofString "compare") 228), (.ref 42)⟩, ⟨(PyData.keyHash P (Str.ofString "__static_attributes__")), (.str (Str.ofString "__static_attributes__") 230), (.ref 43)⟩, ⟨(PyData.keyHash P (Str.ofString "__dict__")), (.str (Str.ofString "__dict__") 232), (.ref 46)⟩, ⟨(PyData.keyHash P (Str.ofString "__weakref__")), (.str (Str.ofString "__weakref__") 234), (.ref 47)⟩, ⟨(PyData.keyHash P (Str.ofString "__doc__")), (.str (Str.ofString "__doc__") 235), .none⟩] 4), #[]⟩ : Obj)) ::
  (nat_lit 45, (⟨(.type "type"), none, (.cls ⟨(Str.ofString "TupleComp"), [(.type "object")], [(.ref 45), (.type "object")], 44, (Str.ofString "TupleComp"), true, [], [], false, none, false⟩), #[none, none, (some (.str (Str.ofString "TupleComp") 196)), (some (.str (Str.ofString "TupleComp") 204)), (some (.builtin "object.__new__")), (some (.bool true))]⟩ : Obj)) ::
  (nat_lit 46, (⟨(.type "getset_descriptor"), none, (.fields #[(.str (Str.ofString "__dict__") 231), (.ref 45), (.builtin "function.__dict__"), (.builtin "function.__dict__#set")]), #[]⟩ : Obj)) ::
  (nat_lit 47, (⟨(.type "getset_descriptor"), none, (.fields #[(.str (Str.ofString "__weakref__") 233), (.ref 45), (.builtin "ExceptionGroup.__weakref__"), .none]), #[]⟩ : Obj)) ::
  (nat_lit 50, (⟨(.type "tuple"), none, (.seq #[] 0), #[]⟩ : Obj)) ::
  (nat_lit 52, (⟨(.type "tuple"), none, (.seq #[(.str (Str.ofString "target") 241), (.str (Str.ofString "source") 242), (.str (Str.ofString "new_callers") 243), (.str (Str.ofString "func") 244), (.str (Str.ofString "caller") 245)] 0), #[]⟩ : Obj)) ::
  (nat_lit 53, (⟨(.type "tuple"), none, (.seq #[] 0), #[]⟩ : Obj)) ::
  (nat_lit 55, (⟨(.type "code"), none, (.fields #[(.str (Str.ofString "add_callers") 238), (.str (Str.ofString "add_callers") 239), (.str (Str.ofString "/claim/cut.py") 240), (.int 19 0), (.int 2 0), (.int 0 0), (.int 0 0), (.int 3 0), (.ref 50), (.bool true), (.int 181 0), (.ref 51), .none, (.ref 52), (.ref 53), (.ref 54), (.int 246 0), (.int 19 0), (.str (Str.ofString "/claim/cut.py") 247)]), #[]⟩ : Obj)) ::
  (nat_lit 56, (⟨(.type "function"), none, (.func ⟨(Str.ofString "add_callers"), (Str.ofString "add_callers"), hd.f56.a, .stmts hd.f56.b, hd.f56.c, 3, [], .none, .none, .none, (.str (Str.ofString "cpy313.pstats") 194), none, (.ref 55), .none, 0⟩), #[]⟩ : Obj)) ::
  (nat_lit 57, (⟨(.type "tuple"), none, (.seq #[] 0), #[]⟩ : Obj)) ::
  (nat_lit 59, (⟨(.type "tuple"), none, (.seq #[(.str (Str.ofString "callers") 252), (.str (Str.ofString "nc") 253), (.str (Str.ofString "calls") 254)] 0), #[]⟩ : Obj)) ::
  (nat_lit 60, (⟨(.type "tuple"), none, (.seq #[] 0), #[]⟩ : Obj)) ::
  (nat_lit 62, (⟨(.type "code"), none, (.fields #[(.str (Str.ofString "count_calls") 249), (.str (Str.ofString "count_calls") 250), (.str (Str.ofString "/claim/cut.py") 251), (.int 32 0), (.int 1 0), (.int 0 0), (.int 0 0), (.int 3 0), (.ref 57), (.bool true), (.int 181 0), (.ref 58), .none, (.ref 59), (.ref 60), (.ref 61), (.int 255 0), (.int 32 0), (.str (Str.ofString "/claim/cut.py") 256)]), #[]⟩ : Obj)) ::
  (nat_lit 63, (⟨(.type "function"), none, (.func ⟨(Str.ofString "count_calls"), (Str.ofString "count_calls"), hd.f63.a, .stmts hd.f63.b, hd.f63.c, 3, [], .none, .none, .none, (.str (Str.ofString "cpy313.pstats") 194), none, (.ref 62), .none, 0⟩), #[]⟩ : Obj)) ::
  (nat_lit 64, (⟨(.type "tuple"), none, (.seq #[(.type "Exception")] 0), #[]⟩ : Obj)) ::
  (nat_lit 71, (⟨(.type "tuple"), none, (.seq #[] 0), #[]⟩ : Obj)) ::
  (nat_lit 72, (⟨(.type "dict"), none, (.dict #[⟨(PyData.keyHash P (Str.ofString "__module__")), (.str (Str.ofString "__module__") 267), (.str (Str.ofString "cpy313.ftplib") 258)⟩, ⟨(PyData.keyHash P (Str.ofString "__firstlineno__")), (.str (Str.ofString "__firstlineno__") 271), (.int 38 270)⟩, ⟨(PyData.keyHash P (Str.ofString "__static_attributes__")), (.str (Str.ofString "__static_attributes__") 272), (.ref 71)⟩, ⟨(PyData.keyHash P (Str.ofString "__weakref__")), (.str (Str.ofString "__weakref__") 274), (.ref 74)⟩, ⟨(PyData.keyHash P (Str.ofString "__doc__")), (.str (Str.ofString "__doc__") 275), .none⟩] 3), #[]⟩ : Obj)) ::
  (nat_lit 73, (⟨(.type "type"), none, (.cls ⟨(Str.ofString "Error"), [(.type "Exception")], [(.ref 73), (.type "Exception"), (.type "BaseException"), (.type "object")], 72, (Str.ofString "Error"), true, [], [(.ref 86)], false, none, false⟩), #[(some (.ref 64)), none, (some (.str (Str.ofString "Error") 260)), (some (.str (Str.ofString "Error") 268)), (some (.builtin "Exception.__new__")), (some (.bool true))]⟩ : Obj)) ::
  (nat_lit 74, (⟨(.type "getset_descriptor"), none, (.fields #[(.str (Str.ofString "__weakref__") 273), (.ref 73), (.builtin "ExceptionGroup.__weakref__"), .none]), #[]⟩ : Obj)) ::
  (nat_lit 77, (⟨(.type "tuple"), none, (.seq #[(.ref 73)] 0), #[]⟩ : Obj)) ::
  (nat_lit 84, (⟨(.type "tuple"), none, (.seq #[] 0), #[]⟩ : Obj)) ::
  (nat_lit 85, (⟨(.type "dict"), none, (.dict #[⟨(PyData.keyHash P (Str.ofString "__module__")), (.str (Str.ofString "__module__") 287), (.str (Str.ofString "cpy313.ftplib") 258)⟩, ⟨(PyData.keyHash P (Str.ofString "__firstlineno__")), (.str (Str.ofString "__firstlineno__") 291), (.int 40 290)⟩, ⟨(PyData.keyHash P (Str.ofString "__static_attributes__")), (.str (Str.ofString "__static_attributes__") 292), (.ref 84)⟩, ⟨(PyData.keyHash P (Str.ofString "__doc__")), (.str (Str.ofString "__doc__") 293), .none⟩] 2), #[]⟩ : Obj)) ::
  (nat_lit 86, (⟨(.type "type"), none, (.cls ⟨(Str.ofString "error_reply"), [(.ref 73)], [(.ref 86), (.ref 73), (.type "Exception"), (.type "BaseException"), (.type "object")], 85, (Str.ofString "error_reply"), true, [], [], false, none, false⟩), #[(some (.ref 77)), none, (some (.str (Str.ofString "error_reply") 280)), (some (.str (Str.ofString "error_reply") 288)), (some (.builtin "Exception.__new__")), (some (.bool true))]⟩ : Obj)) ::
  (nat_lit 89, (⟨(.type "tuple"), none, (.seq #[] 0), #[]⟩ : Obj)) ::
  (nat_lit 91, (⟨(.type "tuple"), none, (.seq #[(.str (Str.ofString "resp") 299), (.str (Str.ofString "dirname") 300), (.str (Str.ofString "i") 301), (.str (Str.ofString "n") 302), (.str (Str.ofString "c") 303)] 0), #[]⟩ : Obj)) ::
  (nat_lit 92, (⟨(.type "tuple"), none, (.seq #[] 0), #[]⟩ : Obj)) ::
  (nat_lit 94, (⟨(.type "code"), none, (.fields #[(.str (Str.ofString "parse257") 296), (.str (Str.ofString "parse257") 297), (.str (Str.ofString "/claim/cut.py") 298), (.int 42 0), (.int 1 0), (.int 0 0), (.int 0 0), (.int 3 0), (.ref 89), (.bool true), (.int 181 0), (.ref 90), .none, (.ref 91), (.ref 92), (.ref 93), (.int 304 0), (.int 42 0), (.str (Str.ofString "/claim/cut.py") 305)]), #[]⟩ : Obj)) ::
  (nat_lit 95, (⟨(.type "function"), none, (.func ⟨(Str.ofString "parse257"), (Str.ofString "parse257"), hd.f95.a, .stmts hd.f95.b, hd.f95.c, 3, [], .none, .none, .none, (.str (Str.ofString "cpy313.ftplib") 258), none, (.ref 94), .none, 0⟩), #[]⟩ : Obj)) ::
  (nat_lit 106, (⟨(.type "tuple"), none, (.seq #[] 0), #[]⟩ : Obj)) ::
  (nat_lit 108, (⟨(.type "tuple"), none, (.seq #[(.str (Str.ofString "self") 329), (.str (Str.ofString "ws") 330), (.str (Str.ofString "S") 331), (.str (Str.ofString "T") 332), (.str (Str.ofString "count") 333), (.str (Str.ofString "b") 334), (.str (Str.ofString "n") 335), (.str (Str.ofString "nt") 336), (.str (Str.ofString "ch") 337)] 0), #[]⟩ : Obj)) ::
  (nat_lit 109, (⟨(.type "tuple"), none, (.seq #[] 0), #[]⟩ : Obj)) ::
  (nat_lit 111, (⟨(.type "code"), none, (.fields #[(.str (Str.ofString "__init__") 326), (.str (Str.ofString "Whitespace.__init__") 327), (.str (Str.ofString "/claim/cut.py") 328), (.int 63 0), (.int 2 0), (.int 0 0), (.int 0 0), (.int 3 0), (.ref 106), (.bool true), (.int 181 0), (.ref 107), .none, (.ref 108), (.ref 109), (.ref 110), (.int 338 0), (.int 63 0), (.str (Str.ofString "/claim/cut.py") 339)]), #[]⟩ : Obj)) ::
  (nat_lit 112, (⟨(.type "function"), none, (.func ⟨(Str.ofString "__init__"), (Str.ofString "Whitespace.__init__"), hd.f112.a, .stmts hd.f112.b, hd.f112.c, 3, [], .none, .none, .none, (.str (Str.ofString "cpy313.tabnanny") 307), none, (.ref 111), .none, 0⟩), #[]⟩ : Obj)) ::
  (nat_lit 113, (⟨(.type "tuple"), none, (.seq #[] 0), #[]⟩ : Obj)) ::
  (nat_lit 115, (⟨(.type "tuple"), none, (.seq #[(.str (Str.ofString "self") 344), (.str (Str.ofString "count") 345), (.str (Str.ofString "trailing") 346)] 0), #[]⟩ : Obj)) ::
  (nat_lit 116, (⟨(.type "tuple"), none, (.seq #[] 0), #[]⟩ : Obj)) ::
  (nat_lit 118, (⟨(.type "code"), none, (.fields #[(.str (Str.ofString "longest_run_of_spaces") 341), (.str (Str.ofString "Whitespace.longest_run_of_spaces") 342), (.str (Str.ofString "/claim/cut.py") 343), (.int 86 0), (.int 1 0), (.int 0 0), (.int 0 0), (.int 3 0), (.ref 113), (.bool true), (.int 181 0), (.ref 114), .none, (.ref 115), (.ref 116), (.ref 117), (.int 347 0), (.int 86 0), (.str (Str.ofString "/claim/cut.py") 348)]), #[]⟩ : Obj)) ::
  (nat_lit 119, (⟨(.type "function"), none, (.func ⟨(Str.ofString "longest_run_of_spaces"), (Str.ofString "Whitespace.longest_run_of_spaces"), hd.f119.a, .stmts hd.f119.b, hd.f119.c, 3, [], .none, .none, .none, (.str (Str.ofString "cpy313.tabnanny") 307), none, (.ref 118), .none, 0⟩), #[]⟩ : Obj)) ::
  (nat_lit 120, (⟨(.type "tuple"), none, (.seq #[] 0), #[]⟩ : Obj)) ::
  (nat_lit 122, (⟨(.type "tuple"), none, (.seq #[(.str (Str.ofString "self") 353), (.str (Str.ofString "tabsize") 354), (.str (Str.ofString "count") 355), (.str (Str.ofString "trailing") 356), (.str (Str.ofString "il") 357), (.str (Str.ofString "i") 358)] 0), #[]⟩ : Obj)) ::
  (nat_lit 123, (⟨(.type "tuple"), none, (.seq #[] 0), #[]⟩ : Obj)) ::
  (nat_lit 125, (⟨(.type "code"), none, (.fields #[(.str (Str.ofString "indent_level") 350), (.str (Str.ofString "Whitespace.indent_level") 351), (.str (Str.ofString "/claim/cut.py") 352), (.int 90 0), (.int 2 0), (.int 0 0), (.int 0 0), (.int 3 0), (.ref 120), (.bool true), (.int 181 0), (.ref 121), .none, (.ref 122), (.ref 123), (.ref 124), (.int 359 0), (.int 90 0), (.str (Str.ofString "/claim/cut.py") 360)]), #[]⟩ : Obj)) ::
  (nat_lit 126, (⟨(.type "function"), none, (.func ⟨(Str.ofString "indent_level"), (Str.ofString "Whitespace.indent_level"), hd.f126.a, .stmts hd.f126.b, hd.f126.c, 3, [], .none, .none, .none, (.str (Str.ofString "cpy313.tabnanny") 307), none, (.ref 125), .none, 0⟩), #[]⟩ : Obj)) ::
  (nat_lit 127, (⟨(.type "tuple"), none, (.seq #[] 0), #[]⟩ : Obj)) ::
  (nat_lit 129, (⟨(.type "tuple"), none, (.seq #[(.str (Str.ofString "self") 365), (.str (Str.ofString "other") 366)] 0), #[]⟩ : Obj)) ::
  (nat_lit 130, (⟨(.type "tuple"), none, (.seq #[] 0), #[]⟩ : Obj)) ::
  (nat_lit 132, (⟨(.type "code"), none, (.fields #[(.str (Str.ofString "equal") 362), (.str (Str.ofString "Whitespace.equal") 363), (.str (Str.ofString "/claim/cut.py") 364), (.int 97 0), (.int 2 0), (.int 0 0), (.int 0 0), (.int 3 0), (.ref 127), (.bool true), (.int 181 0), (.ref 128), .none, (.ref 129), (.ref 130), (.ref 131), (.int 367 0), (.int 97 0), (.str (Str.ofString "/claim/cut.py") 368)]), #[]⟩ : Obj)) ::
  (nat_lit 133, (⟨(.type "function"), none, (.func ⟨(Str.ofString "equal"), (Str.ofString "Whitespace.equal"), hd.f133.a, .stmts hd.f133.b, hd.f133.c, 3, [], .none, .none, .none, (.str (Str.ofString "cpy313.tabnanny") 307), none, (.ref 132), .none, 0⟩), #[]⟩ : Obj)) ::
  (nat_lit 134, (⟨(.type "tuple"), none, (.seq #[] 0), #[]⟩ : Obj)) ::
  (nat_lit 136, (⟨(.type "tuple"), none, (.seq #[(.str (Str.ofString "self") 373), (.str (Str.ofString "other") 374)] 0), #[]⟩ : Obj)) ::
  (nat_lit 137, (⟨(.type "tuple"), none, (.seq #[] 0), #[]⟩ : Obj)) ::
  (nat_lit 139, (⟨(.type "code"), none, (.fields #[(.str (Str.ofString "not_equal_witness") 370), (.str (Str.ofString "Whitespace.not_equal_witness") 371), (.str (Str.ofString "/claim/cut.py") 372), (.int 100 0), (.int 2 0), (.int 0 0), (.int 0 0), (.int 3 0), (.ref 134), (.bool true), (.int 181 0), (.ref 135), .none, (.ref 136), (.ref 137), (.ref 138), (.int 375 0), (.int 100 0), (.str (Str.ofString "/claim/cut.py") 376)]), #[]⟩ : Obj)) ::
  (nat_lit 140, (⟨(.type "function"), none, (.func ⟨(Str.ofString "not_equal_witness"), (Str.ofString "Whitespace.not_equal_witness"), hd.f140.a, .stmts hd.f140.b, hd.f140.c, 3, [], .none, .none, .none, (.str (Str.ofString "cpy313.tabnanny") 307), none, (.ref 139), .none, 0⟩), #[]⟩ : Obj)) ::
  (nat_lit 141, (⟨(.type "tuple"), none, (.seq #[] 0), #[]⟩ : Obj)) ::
  (nat_lit 143, (⟨(.type "tuple"), none, (.seq #[(.str (Str.ofString "self") 381), (.str (Str.ofString "other") 382), (.str (Str.ofString "n") 383), (.str (Str.ofString "ts") 384)] 0), #[]⟩ : Obj)) ::
  (nat_lit 144, (⟨(.type "tuple"), none, (.seq #[] 0), #[]⟩ : Obj)) ::
  (nat_lit 146, (⟨(.type "code"), none, (.fields #[(.str (Str.ofString "less") 378), (.str (Str.ofString "Whitespace.less") 379), (.str (Str.ofString "/claim/cut.py") 380), (.int 103 0), (.int 2 0), (.int 0 0), (.int 0 0), (.int 3 0), (.ref 141), (.bool true), (.int 181 0), (.ref 142), .none, (.ref 143), (.ref 144), (.ref 145), (.int 385 0), (.int 103 0), (.str (Str.ofString "/claim/cut.py") 386)]), #[]⟩ : Obj)) ::
  (nat_lit 147, (⟨(.type "function"), none, (.func ⟨(Str.ofString "less"), (Str.ofString "Whitespace.less"), hd.f147.a, .stmts hd.f147.b, hd.f147.c, 3, [], .none, .none, .none, (.str (Str.ofString "cpy313.tabnanny") 307), none, (.ref 146), .none, 0⟩), #[]⟩ : Obj)) ::
  (nat_lit 148, (⟨(.type "tuple"), none, (.seq #[] 0), #[]⟩ : Obj)) ::
  (nat_lit 150, (⟨(.type "tuple"), none, (.seq #[(.str (Str.ofString "self") 391), (.str (Str.ofString "other") 392)] 0), #[]⟩ : Obj)) ::
  (nat_lit 151, (⟨(.type "tuple"), none, (.seq #[] 0), #[]⟩ : Obj)) ::
  (nat_lit 153, (⟨(.type "code"), none, (.fields #[(.str (Str.ofString "not_less_witness") 388), (.str (Str.ofString "Whitespace.not_less_witness") 389), (.str (Str.ofString "/claim/cut.py") 390), (.int 114 0), (.int 2 0), (.int 0 0), (.int 0 0), (.int 3 0), (.ref 148), (.bool true), (.int 181 0), (.ref 149), .none, (.ref 150), (.ref 151), (.ref 152), (.int 393 0), (.int 114 0), (.str (Str.ofString "/claim/cut.py") 394)]), #[]⟩ : Obj)) ::
  (nat_lit 154, (⟨(.type "function"), none, (.func ⟨(Str.ofString "not_less_witness"), (Str.ofString "Whitespace.not_less_witness"), hd.f154.a, .stmts hd.f154.b, hd.f154.c, 3, [], .none, .none, .none, (.str (Str.ofString "cpy313.tabnanny") 307), none, (.ref 153), .none, 0⟩), #[]⟩ : Obj)) ::
  (nat_lit 155, (⟨(.type "tuple"), none, (.seq #[(.str (Str.ofString "is_simple") 396), (.str (Str.ofString "n") 397), (.str (Str.ofString "norm") 398), (.str (Str.ofString "nt") 399), (.str (Str.ofString "raw") 400)] 0), #[]⟩ : Obj)) ::
  (nat_lit 156, (⟨(.type "dict"), none, (.dict #[⟨(PyData.keyHash P (Str.ofString "__module__")), (.str (Str.ofString "__module__") 316), (.str (Str.ofString "cpy313.tabnanny") 307)⟩, ⟨(PyData.keyHash P (Str.ofString "__firstlineno__")), (.str (Str.ofString "__firstlineno__") 320), (.int 60 319)⟩, ⟨(PyData.keyHash P (Str.ofString "S")), (.str (Str.ofString "S") 324), (.str (Str.ofString " ") 322)⟩, ⟨(PyData.keyHash P (Str.ofString "T")), (.str (Str.ofString "T") 325), (.str (Str.ofString "\t") 323)⟩, ⟨(PyData.keyHash P (Str.ofString "__init__")), (.str (Str.ofString "__init__") 340), (.ref 112)⟩, ⟨(PyData.keyHash P (Str.ofString "longest_run_of_spaces")), (.str (Str.ofString "longest_run_of_spaces") 349), (.ref 119)⟩, ⟨(PyData.keyHash P (Str.ofString "indent_level")), (.str (Str.ofString "indent_level") 361), (.ref 126)⟩, ⟨(PyData.keyHash P (Str.ofString "equal")), (.str (Str.ofString "equal") 369), (.ref 133)⟩, ⟨(PyData.keyHash P (Str.ofString "not_equal_witness")), (.str (Str.ofString "not_equal_witness") 377), (.ref 140)⟩, ⟨(PyData.keyHash P (Str.ofString "less")), (.str (Str.ofString "less") 387), (.ref 147)⟩, ⟨(PyData.keyHash P (Str.ofString "not_less_witness")), (.str (Str.ofString "not_less_witness") 395), (.ref 154)⟩, ⟨(PyData.keyHash P (Str.ofString "__static_attributes__")), (.str (Str.ofString "__static_attributes__") 401), (.ref 155)⟩, ⟨(PyData.keyHash P (Str.ofString "__dict__")), (.str (Str.ofString "__dict__") 403), (.ref 158)⟩, ⟨(PyData.keyHash P (Str.ofString "__weakref__")), (.str (Str.ofString "__weakref__") 405), (.ref 159)⟩, ⟨(PyData.keyHash P (Str.ofString "__doc__")), (.str (Str.ofString "__doc__") 406), .none⟩] 4), #[]⟩ : Obj)) ::
  (nat_lit 157, (⟨(.type "type"), none, (.cls ⟨(Str.ofString "Whitespace"), [(.type "object")], [(.ref 157), (.type "object")], 156, (Str.ofString "Whitespace"), true, [], [], false, none, false⟩), #[none, none, (some (.str (Str.ofString "Whitespace") 309)), (some (.str (Str.ofString "Whitespace") 317)), (some (.builtin "object.__new__")), (some (.bool true))]⟩ : Obj)) ::
  (nat_lit 158, (⟨(.type "getset_descriptor"), none, (.fields #[(.str (Str.ofString "__dict__") 402), (.ref 157), (.builtin "function.__dict__"), (.builtin "function.__dict__#set")]), #[]⟩ : Obj)) ::
  (nat_lit 159, (⟨(.type "getset_descriptor"), none, (.fields #[(.str (Str.ofString "__weakref__") 404), (.ref 157), (.builtin "ExceptionGroup.__weakref__"), .none]), #[]⟩ : Obj)) ::
  (nat_lit 169, (⟨(.type "tuple"), none, (.seq #[.none] 0), #[]⟩ : Obj)) ::
  (nat_lit 170, (⟨(.type "tuple"), none, (.seq #[] 0), #[]⟩ : Obj)) ::
  (nat_lit 172, (⟨(.type "tuple"), none, (.seq #[(.str (Str.ofString "self") 426), (.str (Str.ofString "text_or_uri") 427), (.str (Str.ofString "tag") 428)] 0), #[]⟩ : Obj)) ::
  (nat_lit 173, (⟨(.type "tuple"), none, (.seq #[] 0), #[]⟩ : Obj)) ::
  (nat_lit 175, (⟨(.type "code"), none, (.fields #[(.str (Str.ofString "__init__") 423), (.str (Str.ofString "QName.__init__") 424), (.str (Str.ofString "/claim/cut.py") 425), (.int 119 0), (.int 3 0), (.int 0 0), (.int 0 0), (.int 3 0), (.ref 170), (.bool true), (.int 181 0), (.ref 171), .none, (.ref 172), (.ref 173), (.ref 174), (.int 429 0), (.int 119 0), (.str (Str.ofString "/claim/cut.py") 430)]), #[]⟩ : Obj)) ::
  (nat_lit 176, (⟨(.type "function"), none, (.func ⟨(Str.ofString "__init__"), (Str.ofString "QName.__init__"), hd.f176.a, .stmts hd.f176.b, hd.f176.c, 3, [], (.ref 169), .none, .none, (.str (Str.ofString "cpy313.xml.etree.ElementTree") 409), none, (.ref 175), .none, 0⟩), #[]⟩ : Obj)) ::
  (nat_lit 177, (⟨(.type "tuple"), none, (.seq #[] 0), #[]⟩ : Obj)) ::
  (nat_lit 179, (⟨(.type "tuple"), none, (.seq #[(.str (Str.ofString "self") 435)] 0), #[]⟩ : Obj)) ::
  (nat_lit 180, (⟨(.type "tuple"), none, (.seq #[] 0), #[]⟩ : Obj)) ::
  (nat_lit 182, (⟨(.type "code"), none, (.fields #[(.str (Str.ofString "__str__") 432), (.str (Str.ofString "QName.__str__") 433), (.str (Str.ofString "/claim/cut.py") 434), (.int 124 0), (.int 1 0), (.int 0 0), (.int 0 0), (.int 3 0), (.ref 177), (.bool true), (.int 181 0), (.ref 178), .none, (.ref 179), (.ref 180), (.ref 181), (.int 436 0), (.int 124 0), (.str (Str.ofString "/claim/cut.py") 437)]), #[]⟩ : Obj)) ::
  (nat_lit 183, (⟨(.type "function"), none, (.func ⟨(Str.ofString "__str__"), (Str.ofString "QName.__str__"), hd.f183.a, .stmts hd.f183.b, hd.f183.c, 3, [], .none, .none, .none, (.str (Str.ofString "cpy313.xml.etree.ElementTree") 409), none, (.ref 182), .none, 0⟩), #[]⟩ : Obj)) ::
  (nat_lit 184, (⟨(.type "tuple"), none, (.seq #[] 0), #[]⟩ : Obj)) ::
  (nat_lit 186, (⟨(.type "tuple"), none, (.seq #[(.str (Str.ofString "self") 442)] 0), #[]⟩ : Obj)) ::
  (nat_lit 187, (⟨(.type "tuple"), none, (.seq #[] 0), #[]⟩ : Obj)) ::
  (nat_lit 189, (⟨(.type "code"), none, (.fields #[(.str (Str.ofString "__repr__") 439), (.str (Str.ofString "QName.__repr__") 440), (.str (Str.ofString "/claim/cut.py") 441), (.int 127 0), (.int 1 0), (.int 0 0), (.int 0 0), (.int 3 0), (.ref 184), (.bool true), (.int 181 0), (.ref 185), .none, (.ref 186), (.ref 187), (.ref 188), (.int 443 0), (.int 127 0), (.str (Str.ofString "/claim/cut.py") 444)]), #[]⟩ : Obj)) ::
  (nat_lit 190, (⟨(.type "function"), none, (.func ⟨(Str.ofString "__repr__"), (Str.ofString "QName.__repr__"), hd.f190.a, .stmts hd.f190.b, hd.f190.c, 3, [], .none, .none, .none, (.str (Str.ofString "cpy313.xml.etree.ElementTree") 409), none, (.ref 189), .none, 0⟩), #[]⟩ : Obj)) ::
  (nat_lit 191, (⟨(.type "tuple"), none, (.seq #[] 0), #[]⟩ : Obj)) ::
  (nat_lit 193, (⟨(.type "tuple"), none, (.seq #[(.str (Str.ofString "self") 449)] 0), #[]⟩ : Obj)) ::
  (nat_lit 194, (⟨(.type "tuple"), none, (.seq #[] 0), #[]⟩ : Obj)) ::
  (nat_lit 196, (⟨(.type "code"), none, (.fields #[(.str (Str.ofString "__hash__") 446), (.str (Str.ofString "QName.__hash__") 447), (.str (Str.ofString "/claim/cut.py") 448), (.int 130 0), (.int 1 0), (.int 0 0), (.int 0 0), (.int 3 0), (.ref 191), (.bool true), (.int 181 0), (.ref 192), .none, (.ref 193), (.ref 194), (.ref 195), (.int 450 0), (.int 130 0), (.str (Str.ofString "/claim/cut.py") 451)]), #[]⟩ : Obj)) ::
  (nat_lit 197, (⟨(.type "function"), none, (.func ⟨(Str.ofString "__hash__"), (Str.ofString "QName.__hash__"), hd.f197.a, .stmts hd.f197.b, hd.f197.c, 3, [], .none, .none, .none, (.str (Str.ofString "cpy313.xml.etree.ElementTree") 409), none, (.ref 196), .none, 0⟩), #[]⟩ : Obj)) ::
  (nat_lit 198, (⟨(.type "tuple"), none, (.seq #[] 0), #[]⟩ : Obj)) ::
  (nat_lit 200, (⟨(.type "tuple"), none, (.seq #[(.str (Str.ofString "self") 456), (.str (Str.ofString "other") 457)] 0), #[]⟩ : Obj)) ::
  (nat_lit 201, (⟨(.type "tuple"), none, (.seq #[] 0), #[]⟩ : Obj)) ::
  (nat_lit 203, (⟨(.type "code"), none, (.fields #[(.str (Str.ofString "__le__") 453), (.str (Str.ofString "QName.__le__") 454), (.str (Str.ofString "/claim/cut.py") 455), (.int 133 0), (.int 2 0), (.int 0 0), (.int 0 0), (.int 3 0), (.ref 198), (.bool true), (.int 181 0), (.ref 199), .none, (.ref 200), (.ref 201), (.ref 202), (.int 458 0), (.int 133 0), (.str (Str.ofString "/claim/cut.py") 459)]), #[]⟩ : Obj)) ::
  (nat_lit 204, (⟨(.type "function"), none, (.func ⟨(Str.ofString "__le__"), (Str.ofString "QName.__le__"), hd.f204.a, .stmts hd.f204.b, hd.f204.c, 3, [], .none, .none, .none, (.str (Str.ofString "cpy313.xml.etree.ElementTree") 409), none, (.ref 203), .none, 0⟩), #[]⟩ : Obj)) ::
  (nat_lit 205, (⟨(.type "tuple"), none, (.seq #[] 0), #[]⟩ : Obj)) ::
  (nat_lit 207, (⟨(.type "tuple"), none, (.seq #[(.str (Str.ofString "self") 464), (.str (Str.ofString "other") 465)] 0), #[]⟩ : Obj)) ::
  (nat_lit 208, (⟨(.type "tuple"), none, (.seq #[] 0), #[]⟩ : Obj)) ::
  (nat_lit 210, (⟨(.type "code"), none, (.fields #[(.str (Str.ofString "__lt__") 461), (.str (Str.ofString "QName.__lt__") 462), (.str (Str.ofString "/claim/cut.py") 463), (.int 138 0), (.int 2 0), (.int 0 0), (.int 0 0), (.int 3 0), (.ref 205), (.bool true), (.int 181 0), (.ref 206), .none, (.ref 207), (.ref 208), (.ref 209), (.int 466 0), (.int 138 0), (.str (Str.ofString "/claim/cut.py") 467)]), #[]⟩ : Obj)) ::
  (nat_lit 211, (⟨(.type "function"), none, (.func ⟨(Str.ofString "__lt__"), (Str.ofString "QName.__lt__"), hd.f211.a, .stmts hd.f211.b, hd.f211.c, 3, [], .none, .none, .none, (.str (Str.ofString "cpy313.xml.etree.ElementTree") 409), none, (.ref 210), .none, 0⟩), #[]⟩ : Obj)) ::
  (nat_lit 212, (⟨(.type "tuple"), none, (.seq #[] 0), #[]⟩ : Obj)) ::
  (nat_lit 214, (⟨(.type "tuple"), none, (.seq #[(.str (Str.ofString "self") 472), (.str (Str.ofString "other") 473)] 0), #[]⟩ : Obj)) ::
  (nat_lit 215, (⟨(.type "tuple"), none, (.seq #[] 0), #[]⟩ : Obj)) ::
  (nat_lit 217, (⟨(.type "code"), none, (.fields #[(.str (Str.ofString "__ge__") 469), (.str (Str.ofString "QName.__ge__") 470), (.str (Str.ofString "/claim/cut.py") 471), (.int 143 0), (.int 2 0), (.int 0 0), (.int 0 0), (.int 3 0), (.ref 212), (.bool true), (.int 181 0), (.ref 213), .none, (.ref 214), (.ref 215), (.ref 216), (.int 474 0), (.int 143 0), (.str (Str.ofString "/claim/cut.py") 475)]), #[]⟩ : Obj)) ::
  (nat_lit 218, (⟨(.type "function"), none, (.func ⟨(Str.ofString "__ge__"), (Str.ofString "QName.__ge__"), hd.f218.a, .stmts hd.f218.b, hd.f218.c, 3, [], .none, .none, .none, (.str (Str.ofString "cpy313.xml.etree.ElementTree") 409), none, (.ref 217), .none, 0⟩), #[]⟩ : Obj)) ::
  (nat_lit 219, (⟨(.type "tuple"), none, (.seq #[] 0), #[]⟩ : Obj)) ::
  (nat_lit 221, (⟨(.type "tuple"), none, (.seq #[(.str (Str.ofString "self") 480), (.str (Str.ofString "other") 481)] 0), #[]⟩ : Obj)) ::
  (nat_lit 222, (⟨(.type "tuple"), none, (.seq #[] 0), #[]⟩ : Obj)) ::
  (nat_lit 224, (⟨(.type "code"), none, (.fields #[(.str (Str.ofString "__gt__") 477), (.str (Str.ofString "QName.__gt__") 478), (.str (Str.ofString "/claim/cut.py") 479), (.int 148 0), (.int 2 0), (.int 0 0), (.int 0 0), (.int 3 0), (.ref 219), (.bool true), (.int 181 0), (.ref 220), .none, (.ref 221), (.ref 222), (.ref 223), (.int 482 0), (.int 148 0), (.str (Str.ofString "/claim/cut.py") 483)]), #[]⟩ : Obj)) ::
  (nat_lit 225, (⟨(.type "function"), none, (.func ⟨(Str.ofString "__gt__"), (Str.ofString "QName.__gt__"), hd.f225.a, .stmts hd.f225.b, hd.f225.c, 3, [], .none, .none, .none, (.str (Str.ofString "cpy313.xml.etree.ElementTree") 409), none, (.ref 224), .none, 0⟩), #[]⟩ : Obj)) ::
  (nat_lit 226, (⟨(.type "tuple"), none, (.seq #[] 0), #[]⟩ : Obj)) ::
  (nat_lit 228, (⟨(.type "tuple"), none, (.seq #[(.str (Str.ofString "self") 488), (.str (Str.ofString "other") 489)] 0), #[]⟩ : Obj)) ::
  (nat_lit 229, (⟨(.type "tuple"), none, (.seq #[] 0), #[]⟩ : Obj)) ::
  (nat_lit 231, (⟨(.type "code"), none, (.fields #[(.str (Str.ofString "__eq__") 485), (.str (Str.ofString "QName.__eq__") 486), (.str (Str.ofString "/claim/cut.py") 487), (.int 153 0), (.int 2 0), (.int 0 0), (.int 0 0), (.int 3 0), (.ref 226), (.bool true), (.int 181 0), (.ref 227), .none, (.ref 228), (.ref 229), (.ref 230), (.int 490 0), (.int 153 0), (.str (Str.ofString "/claim/cut.py") 491)]), #[]⟩ : Obj)) ::
  (nat_lit 232, (⟨(.type "function"), none, (.func ⟨(Str.ofString "__eq__"), (Str.ofString "QName.__eq__"), hd.f232.a, .stmts hd.f232.b, hd.f232.c, 3, [], .none, .none, .none, (.str (Str.ofString "cpy313.xml.etree.ElementTree") 409), none, (.ref 231), .none, 0⟩), #[]⟩ : Obj)) ::
  (nat_lit 233, (⟨(.type "tuple"), none, (.seq #[(.str (Str.ofString "text") 493)] 0), #[]⟩ : Obj)) ::
  (nat_lit 234, (⟨(.type "dict"), none, (.dict #[⟨(PyData.keyHash P (Str.ofString "__module__")), (.str (Str.ofString "__module__") 418), (.str (Str.ofString "cpy313.xml.etree.ElementTree") 409)⟩, ⟨(PyData.keyHash P (Str.ofString "__firstlineno__")), (.str (Str.ofString "__firstlineno__") 422), (.int 117 421)⟩, ⟨(PyData.keyHash P (Str.ofString "__init__")), (.str (Str.ofString "__init__") 431), (.ref 176)⟩, ⟨(PyData.keyHash P (Str.ofString "__str__")), (.str (Str.ofString "__str__") 438), (.ref 183)⟩, ⟨(PyData.keyHash P (Str.ofString "__repr__")), (.str (Str.ofString "__repr__") 445), (.ref 190)⟩, ⟨(PyData.keyHash P (Str.ofString "__hash__")), (.str (Str.ofString "__hash__") 452), (.ref 197)⟩, ⟨(PyData.keyHash P (Str.ofString "__le__")), (.str (Str.ofString "__le__") 460), (.ref 204)⟩, ⟨(PyData.keyHash P (Str.ofString "__lt__")), (.str (Str.ofString "__lt__") 468), (.ref 211)⟩, ⟨(PyData.keyHash P (Str.ofString "__ge__")), (.str (Str.ofString "__ge__") 476), (.ref 218)⟩, ⟨(PyData.keyHash P (Str.ofString "__gt__")), (.str (Str.ofString "__gt__") 484), (.ref 225)⟩, ⟨(PyData.keyHash P (Str.ofString "__eq__")), (.str (Str.ofString "__eq__") 492), (.ref 232)⟩, ⟨(PyData.keyHash P (Str.ofString "__static_attributes__")), (.str (Str.ofString "__static_attributes__") 494), (.ref 233)⟩, ⟨(PyData.keyHash P (Str.ofString "__dict__")), (.str (Str.ofString "__dict__") 496), (.ref 236)⟩, ⟨(PyData.keyHash P (Str.ofString "__weakref__")), (.str (Str.ofString "__weakref__") 498), (.ref 237)⟩, ⟨(PyData.keyHash P (Str.ofString "__doc__")), (.str (Str.ofString "__doc__") 499), .none⟩] 4), #[]⟩ : Obj)) ::
  (nat_lit 235, (⟨(.type "type"), none, (.cls ⟨(Str.ofString "QName"), [(.type "object")], [(.ref 235), (.type "object")], 234, (Str.ofString "QName"), true, [], [], false, none, false⟩), #[none, none, (some (.str (Str.ofString "QName") 411)), (some (.str (Str.ofString "QName") 419)), (some (.builtin "object.__new__")), (some (.bool true))]⟩ : Obj)) ::
  (nat_lit 236, (⟨(.type "getset_descriptor"), none, (.fields #[(.str (Str.ofString "__dict__") 495), (.ref 235), (.builtin "function.__dict__"), (.builtin "function.__dict__#set")]), #[]⟩ : Obj)) ::
  (nat_lit 237, (⟨(.type "getset_descriptor"), none, (.fields #[(.str (Str.ofString "__weakref__") 497), (.ref 235), (.builtin "ExceptionGroup.__weakref__"), .none]), #[]⟩ : Obj)) ::
  (nat_lit 240, (⟨(.type "tuple"), none, (.seq #[] 0), #[]⟩ : Obj)) ::
  (nat_lit 242, (⟨(.type "tuple"), none, (.seq #[(.str (Str.ofString "text") 505)] 0), #[]⟩ : Obj)) ::
  (nat_lit 243, (⟨(.type "tuple"), none, (.seq #[] 0), #[]⟩ : Obj)) ::
  (nat_lit 245, (⟨(.type "code"), none, (.fields #[(.str (Str.ofString "_raise_serialization_error") 502), (.str (Str.ofString "_raise_serialization_error") 503), (.str (Str.ofString "/claim/cut.py") 504), (.int 157 0), (.int 1 0), (.int 0 0), (.int 0 0), (.int 3 0), (.ref 240), (.bool true), (.int 181 0), (.ref 241), .none, (.ref 242), (.ref 243), (.ref 244), (.int 506 0), (.int 157 0), (.str (Str.ofString "/claim/cut.py") 507)]), #[]⟩ : Obj)) ::
  (nat_lit 246, (⟨(.type "function"), none, (.func ⟨(Str.ofString "_raise_serialization_error"), (Str.ofString "_raise_serialization_error"), hd.f246.a, .stmts hd.f246.b, hd.f246.c, 3, [], .none, .none, .none, (.str (Str.ofString "cpy313.xml.etree.ElementTree") 409), none, (.ref 245), .none, 0⟩), #[]⟩ : Obj)) ::
  (nat_lit 247, (⟨(.type "tuple"), none, (.seq #[] 0), #[]⟩ : Obj)) ::
  (nat_lit 249, (⟨(.type "tuple"), none, (.seq #[(.str (Str.ofString "text") 512)] 0), #[]⟩ : Obj)) ::
  (nat_lit 250, (⟨(.type "tuple"), none, (.seq #[] 0), #[]⟩ : Obj)) ::
  (nat_lit 252, (⟨(.type "code"), none, (.fields #[(.str (Str.ofString "_escape_cdata") 509), (.str (Str.ofString "_escape_cdata") 510), (.str (Str.ofString "/claim/cut.py") 511), (.int 159 0), (.int 1 0), (.int 0 0), (.int 0 0), (.int 3 0), (.ref 247), (.bool true), (.int 181 0), (.ref 248), .none, (.ref 249), (.ref 250), (.ref 251), (.int 513 0), (.int 159 0), (.str (Str.ofString "/claim/cut.py") 514)]), #[]⟩ : Obj)) ::
  (nat_lit 253, (⟨(.type "function"), none, (.func ⟨(Str.ofString "_escape_cdata"), (Str.ofString "_escape_cdata"), hd.f253.a, .stmts hd.f253.b, hd.f253.c, 3, [], .none, .none, .none, (.str (Str.ofString "cpy313.xml.etree.ElementTree") 409), none, (.ref 252), .none, 0⟩), #[]⟩ : Obj)) ::
  (nat_lit 254, (⟨(.type "tuple"), none, (.seq #[] 0), #[]⟩ : Obj)) ::
  (nat_lit 256, (⟨(.type "tuple"), none, (.seq #[(.str (Str.ofString "text") 519)] 0), #[]⟩ : Obj)) ::
  (nat_lit 257, (⟨(.type "tuple"), none, (.seq #[] 0), #[]⟩ : Obj)) ::
  (nat_lit 259, (⟨(.type "code"), none, (.fields #[(.str (Str.ofString "_escape_attrib") 516), (.str (Str.ofString "_escape_attrib") 517), (.str (Str.ofString "/claim/cut.py") 518), (.int 170 0), (.int 1 0), (.int 0 0), (.int 0 0), (.int 3 0), (.ref 254), (.bool true), (.int 181 0), (.ref 255), .none, (.ref 256), (.ref 257), (.ref 258), (.int 520 0), (.int 170 0), (.str (Str.ofString "/claim/cut.py") 521)]), #[]⟩ : Obj)) ::
  (nat_lit 260, (⟨(.type "function"), none, (.func ⟨(Str.ofString "_escape_attrib"), (Str.ofString "_escape_attrib"), hd.f260.a, .stmts hd.f260.b, hd.f260.c, 3, [], .none, .none, .none, (.str (Str.ofString "cpy313.xml.etree.ElementTree") 409), none, (.ref 259), .none, 0⟩), #[]⟩ : Obj)) ::
  (nat_lit 261, (⟨(.type "tuple"), none, (.seq #[] 0), #[]⟩ : Obj)) ::
  (nat_lit 263, (⟨(.type "tuple"), none, (.seq #[(.str (Str.ofString "text") 526)] 0), #[]⟩ : Obj)) ::
  (nat_lit 264, (⟨(.type "tuple"), none, (.seq #[] 0), #[]⟩ : Obj)) ::
  (nat_lit 266, (⟨(.type "code"), none, (.fields #[(.str (Str.ofString "_escape_attrib_html") 523), (.str (Str.ofString "_escape_attrib_html") 524), (.str (Str.ofString "/claim/cut.py") 525), (.int 189 0), (.int 1 0), (.int 0 0), (.int 0 0), (.int 3 0), (.ref 261), (.bool true), (.int 181 0), (.ref 262), .none, (.ref 263), (.ref 264), (.ref 265), (.int 527 0), (.int 189 0), (.str (Str.ofString "/claim/cut.py") 528)]), #[]⟩ : Obj)) ::
  (nat_lit 267, (⟨(.type "function"), none, (.func ⟨(Str.ofString "_escape_attrib_html"), (Str.ofString "_escape_attrib_html"), hd.f267.a, .stmts hd.f267.b, hd.f267.c, 3, [], .none, .none, .none, (.str (Str.ofString "cpy313.xml.etree.ElementTree") 409), none, (.ref 266), .none, 0⟩), #[]⟩ : Obj)) ::
  (nat_lit 268, (⟨(.type "tuple"), none, (.seq #[] 0), #[]⟩ : Obj)) ::
  (nat_lit 270, (⟨(.type "tuple"), none, (.seq #[(.str (Str.ofString "text") 533)] 0), #[]⟩ : Obj)) ::
  (nat_lit 271, (⟨(.type "tuple"), none, (.seq #[] 0), #[]⟩ : Obj)) ::
  (nat_lit 273, (⟨(.type "code"), none, (.fields #[(.str (Str.ofString "_escape_cdata_c14n") 530), (.str (Str.ofString "_escape_cdata_c14n") 531), (.str (Str.ofString "/claim/cut.py") 532), (.int 200 0), (.int 1 0), (.int 0 0), (.int 0 0), (.int 3 0), (.ref 268), (.bool true), (.int 181 0), (.ref 269), .none, (.ref 270), (.ref 271), (.ref 272), (.int 534 0), (.int 200 0), (.str (Str.ofString "/claim/cut.py") 535)]), #[]⟩ : Obj)) ::
  (nat_lit 274, (⟨(.type "function"), none, (.func ⟨(Str.ofString "_escape_cdata_c14n"), (Str.ofString "_escape_cdata_c14n"), hd.f274.a, .stmts hd.f274.b, hd.f274.c, 3, [], .none, .none, .none, (.str (Str.ofString "cpy313.xml.etree.ElementTree") 409), none, (.ref 273), .none, 0⟩), #[]⟩ : Obj)) ::
  (nat_lit 275, (⟨(.type "tuple"), none, (.seq #[] 0), #[]⟩ : Obj)) ::
  (nat_lit 277, (⟨(.type "tuple"), none, (.seq #[(.str (Str.ofString "text") 540)] 0), #[]⟩ : Obj)) ::
  (nat_lit 278, (⟨(.type "tuple"), none, (.seq #[] 0), #[]⟩ : Obj)) ::
  (nat_lit 280, (⟨(.type "code"), none, (.fields #[(.str (Str.ofString "_escape_attrib_c14n") 537), (.str (Str.ofString "_escape_attrib_c14n") 538), (.str (Str.ofString "/claim/cut.py") 539), (.int 213 0), (.int 1 0), (.int 0 0), (.int 0 0), (.int 3 0), (.ref 275), (.bool true), (.int 181 0), (.ref 276), .none, (.ref 277), (.ref 278), (.ref 279), (.int 541 0), (.int 213 0), (.str (Str.ofString "/claim/cut.py") 542)]), #[]⟩ : Obj)) ::
  (nat_lit 281, (⟨(.type "function"), none, (.func ⟨(Str.ofString "_escape_attrib_c14n"), (Str.ofString "_escape_attrib_c14n"), hd.f281.a, .stmts hd.f281.b, hd.f281.c, 3, [], .none, .none, .none, (.str (Str.ofString "cpy313.xml.etree.ElementTree") 409), none, (.ref 280), .none, 0⟩), #[]⟩ : Obj)) ::
  (nat_lit 282, (⟨(.type "tuple"), none, (.seq #[] 0), #[]⟩ : Obj)) ::
  (nat_lit 284, (⟨(.type "tuple"), none, (.seq #[(.str (Str.ofString "text") 549), (.str (Str.ofString "hand") 550)] 0), #[]⟩ : Obj)) ::
  (nat_lit 285, (⟨(.type "tuple"), none, (.seq #[] 0), #[]⟩ : Obj)) ::
  (nat_lit 287, (⟨(.type "code"), none, (.fields #[(.str (Str.ofString "_law_written") 546), (.str (Str.ofString "_law_written") 547), (.str (Str.ofString "/claim/cut.py") 548), (.int 231 0), (.int 2 0), (.int 0 0), (.int 0 0), (.int 3 0), (.ref 282), (.bool true), (.int 181 0), (.ref 283), .none, (.ref 284), (.ref 285), (.ref 286), (.int 551 0), (.int 231 0), (.str (Str.ofString "/claim/cut.py") 552)]), #[]⟩ : Obj)) ::
  (nat_lit 288, (⟨(.type "function"), none, (.func ⟨(Str.ofString "_law_written"), (Str.ofString "_law_written"), hd.f288.a, .stmts hd.f288.b, hd.f288.c, 3, [], .none, .none, .none, (.str (Str.ofString "law_xh0049_01") 544), none, (.ref 287), .none, 0⟩), #[]⟩ : Obj)) ::
  (nat_lit 289, (⟨(.type "tuple"), none, (.seq #[] 0), #[]⟩ : Obj)) ::
  (nat_lit 292, (⟨(.type "code"), none, (.fields #[(.str (Str.ofString "_law_spelled") 554), (.str (Str.ofString "_law_spelled") 555), (.str (Str.ofString "/claim/cut.py") 556), (.int 241 0), (.int 2 0), (.int 0 0), (.int 0 0), (.int 3 0), (.ref 289), (.bool true), (.int 181 0), (.ref 290), .none, .none, .none, (.ref 291), (.int 557 0), (.int 241 0), (.str (Str.ofString "/claim/cut.py") 558)]), #[]⟩ : Obj)) ::
  (nat_lit 293, (⟨(.type "function"), none, (.func ⟨(Str.ofString "_law_spelled"), (Str.ofString "_law_spelled"), hd.f293.a, .stmts hd.f293.b, hd.f293.c, 3, [], .none, .none, .none, (.str (Str.ofString "law_xh0049_01") 544), none, (.ref 292), .none, 0⟩), #[]⟩ : Obj)) ::
  (nat_lit 294, (⟨(.type "tuple"), none, (.seq #[] 0), #[]⟩ : Obj)) ::
  (nat_lit 296, (⟨(.type "tuple"), none, (.seq #[(.str (Str.ofString "start") 563), (.str (Str.ofString "wires") 564), (.str (Str.ofString "by") 565), (.str (Str.ofString "row") 566), (.str (Str.ofString "low") 567), (.str (Str.ofString "high") 568)] 0), #[]⟩ : Obj)) ::
  (nat_lit 297, (⟨(.type "tuple"), none, (.seq #[] 0), #[]⟩ : Obj)) ::
  (nat_lit 299, (⟨(.type "code"), none, (.fields #[(.str (Str.ofString "_law_plain") 560), (.str (Str.ofString "_law_plain") 561), (.str (Str.ofString "/claim/cut.py") 562), (.int 259 0), (.int 3 0), (.int 0 0), (.int 0 0), (.int 3 0), (.ref 294), (.bool true), (.int 181 0), (.ref 295), .none, (.ref 296), (.ref 297), (.ref 298), (.int 569 0), (.int 259 0), (.str (Str.ofString "/claim/cut.py") 570)]), #[]⟩ : Obj)) ::
  (nat_lit 300, (⟨(.type "function"), none, (.func ⟨(Str.ofString "_law_plain"), (Str.ofString "_law_plain"), hd.f300.a, .stmts hd.f300.b, hd.f300.c, 3, [], .none, .none, .none, (.str (Str.ofString "law_xh0049_01") 544), none, (.ref 299), .none, 0⟩), #[]⟩ : Obj)) ::
  (nat_lit 301, (⟨(.type "tuple"), none, (.seq #[] 0), #[]⟩ : Obj)) ::
  (nat_lit 303, (⟨(.type "tuple"), none, (.seq #[(.str (Str.ofString "start") 575), (.str (Str.ofString "wires") 576), (.str (Str.ofString "order") 577), (.str (Str.ofString "row") 578), (.str (Str.ofString "low") 579), (.str (Str.ofString "high") 580)] 0), #[]⟩ : Obj)) ::
  (nat_lit 304, (⟨(.type "tuple"), none, (.seq #[] 0), #[]⟩ : Obj)) ::
  (nat_lit 306, (⟨(.type "code"), none, (.fields #[(.str (Str.ofString "_law_by_rows") 572), (.str (Str.ofString "_law_by_rows") 573), (.str (Str.ofString "/claim/cut.py") 574), (.int 265 0), (.int 2 0), (.int 0 0), (.int 0 0), (.int 3 0), (.ref 301), (.bool true), (.int 181 0), (.ref 302), .none, (.ref 303), (.ref 304), (.ref 305), (.int 581 0), (.int 265 0), (.str (Str.ofString "/claim/cut.py") 582)]), #[]⟩ : Obj)) ::
  (nat_lit 307, (⟨(.type "function"), none, (.func ⟨(Str.ofString "_law_by_rows"), (Str.ofString "_law_by_rows"), hd.f307.a, .stmts hd.f307.b, hd.f307.c, 3, [], .none, .none, .none, (.str (Str.ofString "law_xh0049_01") 544), none, (.ref 306), .none, 0⟩), #[]⟩ : Obj)) ::
  (nat_lit 308, (⟨(.type "tuple"), none, (.seq #[] 0), #[]⟩ : Obj)) ::
  (nat_lit 310, (⟨(.type "tuple"), none, (.seq #[(.str (Str.ofString "start") 587), (.str (Str.ofString "wires") 588), (.str (Str.ofString "leads") 589), (.str (Str.ofString "row") 590), (.str (Str.ofString "low") 591), (.str (Str.ofString "high") 592)] 0), #[]⟩ : Obj)) ::
  (nat_lit 311, (⟨(.type "tuple"), none, (.seq #[] 0), #[]⟩ : Obj)) ::
  (nat_lit 313, (⟨(.type "code"), none, (.fields #[(.str (Str.ofString "_law_by_leads") 584), (.str (Str.ofString "_law_by_leads") 585), (.str (Str.ofString "/claim/cut.py") 586), (.int 272 0), (.int 3 0), (.int 0 0), (.int 0 0), (.int 3 0), (.ref 308), (.bool true), (.int 181 0), (.ref 309), .none, (.ref 310), (.ref 311), (.ref 312), (.int 593 0), (.int 272 0), (.str (Str.ofString "/claim/cut.py") 594)]), #[]⟩ : Obj)) ::
  (nat_lit 314, (⟨(.type "function"), none, (.func ⟨(Str.ofString "_law_by_leads"), (Str.ofString "_law_by_leads"), hd.f314.a, .stmts hd.f314.b, hd.f314.c, 3, [], .none, .none, .none, (.str (Str.ofString "law_xh0049_01") 544), none, (.ref 313), .none, 0⟩), #[]⟩ : Obj)) ::
  (nat_lit 315, (⟨(.type "tuple"), none, (.seq #[] 0), #[]⟩ : Obj)) ::
  (nat_lit 317, (⟨(.type "tuple"), none, (.seq #[(.str (Str.ofString "start") 599), (.str (Str.ofString "wires") 600), (.str (Str.ofString "names") 601), (.str (Str.ofString "row") 602), (.str (Str.ofString "low") 603), (.str (Str.ofString "high") 604)] 0), #[]⟩ : Obj)) ::
  (nat_lit 318, (⟨(.type "tuple"), none, (.seq #[] 0), #[]⟩ : Obj)) ::
  (nat_lit 320, (⟨(.type "code"), none, (.fields #[(.str (Str.ofString "_law_by_names") 596), (.str (Str.ofString "_law_by_names") 597), (.str (Str.ofString "/claim/cut.py") 598), (.int 278 0), (.int 3 0), (.int 0 0), (.int 0 0), (.int 3 0), (.ref 315), (.bool true), (.int 181 0), (.ref 316), .none, (.ref 317), (.ref 318), (.ref 319), (.int 605 0), (.int 278 0), (.str (Str.ofString "/claim/cut.py") 606)]), #[]⟩ : Obj)) ::
  (nat_lit 321, (⟨(.type "function"), none, (.func ⟨(Str.ofString "_law_by_names"), (Str.ofString "_law_by_names"), hd.f321.a, .stmts hd.f321.b, hd.f321.c, 3, [], .none, .none, .none, (.str (Str.ofString "law_xh0049_01") 544), none, (.ref 320), .none, 0⟩), #[]⟩ : Obj)) ::
  (nat_lit 322, (⟨(.type "tuple"), none, (.seq #[] 0), #[]⟩ : Obj)) ::
  (nat_lit 325, (⟨(.type "code"), none, (.fields #[(.str (Str.ofString "_law_ways") 608), (.str (Str.ofString "_law_ways") 609), (.str (Str.ofString "/claim/cut.py") 610), (.int 284 0), (.int 2 0), (.int 0 0), (.int 0 0), (.int 3 0), (.ref 322), (.bool true), (.int 181 0), (.ref 323), .none, .none, .none, (.ref 324), (.int 611 0), (.int 284 0), (.str (Str.ofString "/claim/cut.py") 612)]), #[]⟩ : Obj)) ::
  (nat_lit 326, (⟨(.type "function"), none, (.func ⟨(Str.ofString "_law_ways"), (Str.ofString "_law_ways"), hd.f326.a, .stmts hd.f326.b, hd.f326.c, 3, [], .none, .none, .none, (.str (Str.ofString "law_xh0049_01") 544), none, (.ref 325), .none, 0⟩), #[]⟩ : Obj)) ::
  (nat_lit 327, (⟨(.type "tuple"), none, (.seq #[] 0), #[]⟩ : Obj)) ::
  (nat_lit 330, (⟨(.type "code"), none, (.fields #[(.str (Str.ofString "law") 614), (.str (Str.ofString "law") 615), (.str (Str.ofString "/claim/cut.py") 616), (.int 296 0), (.int 1 0), (.int 0 0), (.int 0 0), (.int 3 0), (.ref 327), (.bool true), (.int 181 0), (.ref 328), .none, .none, .none, (.ref 329), (.int 617 0), (.int 296 0), (.str (Str.ofString "/claim/cut.py") 618)]), #[]⟩ : Obj)) ::
  (nat_lit 331, (⟨(.type "function"), none, (.func ⟨(Str.ofString "law"), (Str.ofString "law"), hd.f331.a, .stmts hd.f331.b, hd.f331.c, 3, [], .none, .none, .none, (.str (Str.ofString "law_xh0049_01") 544), none, (.ref 330), .none, 0⟩), #[]⟩ : Obj)) :: []

theorem hd.opens : opening PySem.Challenge.pw_xh0049_01 = plainProg PySem.Challenge.pw_xh0049_01.main.scope.names := by kernel_rfl
theorem hd.fence : ∀ s, fenceModules? PySem.Challenge.pw_xh0049_01 s = some s := fun _ => rfl
noncomputable def hd.tree : Params → BT := fun P => (.node (boot_o_0 P) (.node (boot_o_1 P) (.node (boot_o_3 P) (.node (boot_o_7 P) .nil .nil) .nil) (.node (boot_o_5 P) (.node (boot_o_9 P) .nil .nil) .nil)) (.node (boot_o_2 P) (.node (boot_o_4 P) (.node (boot_o_8 P) .nil .nil) .nil) (.node (boot_o_6 P) (.node (boot_o_10 P) .nil .nil) .nil)))
noncomputable def hd.view_39 : Program := { PySem.Challenge.pw_xh0049_01 with main := { PySem.Challenge.pw_xh0049_01.main with body := PySem.Challenge.pw_xh0049_01.main.body.drop 27 } }
noncomputable def hd.as : List Addr := [2, 3, 15, 17, 18, 20, 21, 29, 31, 32, 34, 35, 36, 38, 39, 41, 42, 43, 44, 45, 46, 47, 50, 52, 53, 55, 56, 57, 59, 60, 62, 63, 64, 71, 72, 73, 74, 77, 84, 85, 86, 89, 91, 92, 94, 95, 106, 108, 109, 111, 112, 113, 115, 116, 118, 119, 120, 122, 123, 125, 126, 127, 129, 130, 132, 133, 134, 136, 137, 139, 140, 141, 143, 144, 146, 147, 148, 150, 151, 153, 154, 155, 156, 157, 158, 159, 169, 170, 172, 173, 175, 176, 177, 179, 180, 182, 183, 184, 186, 187, 189, 190, 191, 193, 194, 196, 197, 198, 200, 201, 203, 204, 205, 207, 208, 210, 211, 212, 214, 215, 217, 218, 219, 221, 222, 224, 225, 226, 228, 229, 231, 232, 233, 234, 235, 236, 237, 240, 242, 243, 245, 246, 247, 249, 250, 252, 253, 254, 256, 257, 259, 260, 261, 263, 264, 266, 267, 268, 270, 271, 273, 274, 275, 277, 278, 280, 281, 282, 284, 285, 287, 288, 289, 292, 293, 294, 296, 297, 299, 300, 301, 303, 304, 306, 307, 308, 310, 311, 313, 314, 315, 317, 318, 320, 321, 322, 325, 326, 327, 330, 331]
noncomputable abbrev hd.hook : Hook := kHook hd.heap_39 hd.as (fun _ => by kernel_rfl)
abbrev hd.lz : List Str := [Str.ofString "_wall", Str.ofString "TupleComp", Str.ofString "add_callers", Str.ofString "count_calls", Str.ofString "Error", Str.ofString "error_reply", Str.ofString "parse257", Str.ofString "Whitespace", Str.ofString "QName", Str.ofString "_raise_serialization_error", Str.ofString "_escape_cdata", Str.ofString "_escape_attrib", Str.ofString "_escape_attrib_html", Str.ofString "_escape_cdata_c14n", Str.ofString "_escape_attrib_c14n", Str.ofString "_law_written", Str.ofString "_law_spelled", Str.ofString "_law_plain", Str.ofString "_law_by_rows", Str.ofString "_law_by_leads", Str.ofString "_law_by_names", Str.ofString "_law_ways"]
theorem hd.run0 : RunAt PySem.Challenge.pw_xh0049_01 hd.view_39 hd.lz (fun s => xlAt hd.view_39 [] s && recOk (RowW.records PySem.Challenge.rw_xh0049_01.row.toRowW) s) (Hook.obs hd.hook) (Hook.val hd.hook) true hd.tree boot_heap (Array.mk []) boot_drawn boot_toks 11 {} (some (.ref 6)) 3000 "special-get-raises" false := by
  intro w os
  rw [PySem.W.Fast.te10110043849684766642, PySem.W.Fast.te4187177175401517315, PySem.W.Fast.te14364793385576792824]
  kernel_rfl
theorem hd.run1 : RunAt PySem.Challenge.pw_xh0049_01 hd.view_39 hd.lz (fun s => xlAt hd.view_39 [] s && recOk (RowW.records PySem.Challenge.rw_xh0049_01.row.toRowW) s) (Hook.obs hd.hook) (Hook.val hd.hook) true hd.tree boot_heap (Array.mk []) boot_drawn boot_toks 11 {} (some (.ref 6)) 3000 "special-get-raises" true := by
  intro w os
  rw [PySem.W.Fast.te10110043849684766642, PySem.W.Fast.te4187177175401517315, PySem.W.Fast.te14364793385576792824]
  kernel_rfl
theorem hd.size : ∀ w : World, ((boot_heap w.params).isNs mainGlobals && (Array.mk [] : Array GenState).size == 0, (boot_heap w.params).objs.size, (boot_heap w.params).nsMap mainGlobals "__annotations__") = (true, 11, some (.ref 6)) := fun w => by kernel_rfl
theorem hd.abs : ∀ P : Params, absHeap (hd.tree P) 11 {} = boot_heap P := fun P => by kernel_rfl
theorem hd.left : LeftO PySem.Challenge.pw_xh0049_01 hd.view_39 hd.lz (fun s => xlAt hd.view_39 [] s && recOk (RowW.records PySem.Challenge.rw_xh0049_01.row.toRowW) s) (Hook.obs hd.hook) (Hook.val hd.hook) 5000 := by
  refine LeftO.of_tree (T₀ := hd.tree) (H₀ := boot_heap) (m₀ := 11) (life := {}) (ann := some (.ref 6)) (M := 3000) "special-get-raises" (boot_open hd.opens (by decide) hd.fence) hd.size hd.abs (by decide) ?_
  intro b
  cases b
  · exact hd.run0
  · exact hd.run1
end Mine

open PySem PySem.W PyProof.Rows PySem.Calls
set_option Elab.async false
set_option maxRecDepth 100000
set_option maxHeartbeats 8000000
set_option linter.all false
set_option compiler.extract_closed false
namespace Mine

section HS
theorem hd.said : OpenLaw.wellSaid PySem.Challenge.rw_xh0049_01 = true := by
  rw [PySem.W.Fast.te9446332074065402090]
  unfold PySem.W.Fast.tw9446332074065402090
  iterate 18 refine look_both ?_ ?_
  · unfold PySem.W.Fast.tw17960256430627541270
    refine look_both (look_both ?_ ?_) ?_
    · unfold PySem.W.Fast.tw2436336058641802641
      iterate 12 refine look_both ?_ ?_
      · unfold PySem.W.Fast.tw12908688711261696721
        iterate 5 refine look_both ?_ ?_
        all_goals as_aux_lemma => kernel_rfl
      all_goals as_aux_lemma => kernel_rfl
    all_goals as_aux_lemma => kernel_rfl
  all_goals as_aux_lemma => kernel_rfl

end HS
section Base
noncomputable abbrev prog := PySem.Challenge.pw_xh0049_01
/-- around: nothing handled -/
noncomputable abbrev Ar (dp un : Nat) (fr : Option (List Env)) (gd : Option (List Code)) : Around := { handled := none, depth := dp, frames := fr, guards := gd, units := un }
/-- what the walk knows of the world behind the top -/
structure Wd (w : World) (mg mb : Str → Option Value) (h : Heap) : Prop where
  K : (Mine.hd.heap_39 w.params).In h
  T : TopRead Mine.hd.view_39 Mine.hd.lz mg mb h
theorem Wd.keeps {w : World} {mg mb : Str → Option Value} {h h' : Heap} (W : Wd w mg mb h) (hk : ∀ b o, h.get? b = some o → h'.get? b = some o) : Wd w mg mb h' := ⟨W.K.keeps hk, W.T.keeps hk⟩

theorem enter {w : World} {A : Around} {s : Shared} {R : Result → Shared → Prop} {f : Addr} {fo : Obj} {name qual : Str} {params : Arguments} {body : List Stmt} {scope : Scope} {dV kV doc pm cdv ct : Value} {an : Option Addr} {args : Args} {binds : List (Str × Value)}
    (hlim : s.heap.NoLimit) (ho : s.heap.get? f = some fo) (hd : fo.data = .func (fnX name qual params body scope [] dV kV doc pm an cdv ct)) (hcd : s.heap.CodeRec cdv qual) (hroom : A.depth < recursionLimit)
    (hbind : BindsTo s (fnX name qual params body scope [] dV kV doc pm an cdv ct) args binds) (hloc : ∀ y ∈ binds, scope.names.lookup y.1 = some .local)
    (hcell : ∀ x ∈ scope.names, x.2 ≠ .cell)
    (h : ∀ h₁ tk, Fr s.heap s.heap.objs.size h₁ (fun y => binds.reverse.lookup y) →
      wpAny (model prog w) (A.deeper (envX qual scope s.heap.objs.size f cdv [])) (execs body (envX qual scope s.heap.objs.size f cdv []))
        (fun fl s' => R (.ok (.ret (match fl with | .ret v => v | _ => .none))) s') (fun _ _ => False) { s with heap := h₁, toks := tk })
    (hco : scope.isCoroutine = false := by rfl) (hgen : scope.isGenerator = false := by rfl) (hk : scope.kind = .function := by rfl) : codeAny (model prog w) A (.call (.ref f) args) R s := by
  refine codeAny_call_def (fd := fnX name qual params body scope [] dV kV doc pm an cdv ct) (body := body) (binds := binds) hroom ho hd hlim hcd rfl hbind hcell hloc (fun h₁ hns hk₁ => ?_) hco hgen hk
  exact wpAny_mono (h h₁ _ ⟨hns, hk₁, Nat.le_refl _⟩) (fun _ _ x => x) fun _ _ x => x.elim

/-- what a def is entered with: the top's facts at an elder heap, objects of its own (own) that stand now -/
structure Cx (w : World) (mg mb : Str → Option Value) (h₀ h : Heap) (own : List (Addr × Obj)) : Prop where
  X : (Mine.hd.heap_39 w.params).In h₀
  T : TopRead Mine.hd.view_39 Mine.hd.lz mg mb h₀
  k : ∀ b o, h₀.get? b = some o → h.get? b = some o
  own : ∀ p ∈ own, h.get? p.1 = some p.2 ∧ h₀.get? p.1 = none
/-- the ground of a def's body: the heap less the own objects -/
structure Gr (s : Heap) (own : List (Addr × Obj)) (g : Heap) : Prop where
  old : ∀ b o, s.get? b = some o → b ∉ own.map (·.1) → g.get? b = some o
  sub : ∀ b o, g.get? b = some o → s.get? b = some o
  mine : ∀ p ∈ own, s.get? p.1 = some p.2
theorem Gr.stays {s g h' : Heap} {own all : List (Addr × Obj)} {L : Addr} {m : Str → Option Value} (G : Gr s own g) (F : Fr g L h' m) (N : News g L h' all) (hs : ∀ p ∈ own, p ∈ all) : ∀ b o, s.get? b = some o → h'.get? b = some o := fun b o e => by
  by_cases q : b ∈ own.map (·.1)
  · obtain ⟨p, hp, rfl⟩ := List.mem_map.mp q
    have z := G.mine p hp
    rw [z] at e; cases e
    exact (N p (hs p hp)).1
  · exact F.keep _ _ (G.old b o e q)
theorem Gr.fresh {s g h' : Heap} {own all : List (Addr × Obj)} {L D : Addr} {o : Obj} (G : Gr s own g) (N : News g L h' all) (hm : (D, o) ∈ all) (hn : ∀ p ∈ own, p.1 ≠ D) : s.get? D = none := by
  cases q : s.get? D with
  | none => rfl
  | some o' =>
    have z := G.old D o' q (fun hq => by obtain ⟨p, hp, e⟩ := List.mem_map.mp hq; exact hn p hp e)
    rw [(N _ hm).2.2] at z; cases z

theorem enterH {w : World} {A : Around} {s : Shared} {R : Result → Shared → Prop} {mg mb : Str → Option Value} {h₀ : Heap} {own : List (Addr × Obj)} {f : Addr} {fc : Value} {fdd : Option Addr} {fsl : Array (Option Value)} {name qual : Str} {params : Arguments} {body : List Stmt} {scope : Scope} {dV kV doc pm cdv ct : Value} {an : Option Addr} {args : Args} {binds : List (Str × Value)}
    (C : Cx w mg mb h₀ s.heap own) (ho : (Mine.hd.heap_39 w.params).lookup f = some ⟨fc, fdd, .func (fnX name qual params body scope [] dV kV doc pm an cdv ct), fsl⟩) (hcd : codeIn (Mine.hd.heap_39 w.params) cdv qual = true) (hroom : A.depth < recursionLimit)
    (hbind : BindsTo s (fnX name qual params body scope [] dV kV doc pm an cdv ct) args binds) (hloc : ∀ y ∈ binds, scope.names.lookup y.1 = some .local)
    (hcell : ∀ x ∈ scope.names, x.2 ≠ .cell)
    (h : ∀ g L h₁ tk, Gr s.heap own g → (∀ b o, h₀.get? b = some o → g.get? b = some o) → (Mine.hd.heap_39 w.params).In g → TopRead Mine.hd.view_39 Mine.hd.lz mg mb g → Fr g L h₁ (fun y => binds.reverse.lookup y) → News g L h₁ own → (∀ p ∈ own, p.1 < L) →
      wpAny (model prog w) (A.deeper (envX qual scope L f cdv [])) (execs body (envX qual scope L f cdv []))
        (fun fl s' => R (.ok (.ret (match fl with | .ret v => v | _ => .none))) s') (fun _ _ => False) { s with heap := h₁, toks := tk })
    (hco : scope.isCoroutine = false := by rfl) (hgen : scope.isGenerator = false := by rfl) (hk : scope.kind = .function := by rfl) : codeAny (model prog w) A (.call (.ref f) args) R s := by
  have nm : ∀ b o, h₀.get? b = some o → b ∉ own.map (·.1) := fun b o e q => by
    obtain ⟨p, hp, rfl⟩ := List.mem_map.mp q
    rw [(C.own p hp).2] at e; cases e
  have st : ∀ b o, h₀.get? b = some o → (hideAll s.heap (own.map (·.1))).get? b = some o := fun b o e => hideAll_get _ (C.k b o e) (nm b o e)
  have X' := C.X.keeps C.k
  refine codeAny_call_def (fd := fnX name qual params body scope [] dV kV doc pm an cdv ct) (body := body) (binds := binds) hroom (X' _ _ ho) rfl (C.T.nolimit.keeps C.k) (codeRec_of X' hcd) rfl hbind hcell hloc (fun h₁ hns hk₁ => ?_) hco hgen hk
  exact wpAny_mono (h (hideAll s.heap (own.map (·.1))) s.heap.objs.size h₁ _ ⟨fun b o e q => hideAll_get _ e q, fun b o e => of_hideAll _ e, fun p hp => (C.own p hp).1⟩ st (C.X.keeps st) (C.T.keeps st)
    ⟨hns, fun b o e => hk₁ b o (of_hideAll _ e), Nat.le_of_eq (hideAll_size _ _)⟩ (fun p hp => ⟨hk₁ _ _ (C.own p hp).1, Nat.ne_of_lt (Heap.lt_size (C.own p hp).1), hideAll_none _ (List.mem_map_of_mem hp)⟩) (fun p hp => Heap.lt_size (C.own p hp).1)) (fun _ _ x => x) fun _ _ x => x.elim

/-- a turn's end: the frame, the ledger, the iterator as it was -/
noncomputable def LEnd (h₀ : Heap) (L I : Addr) (oI : Obj) (J : (Str → Option Value) → List (Addr × Obj) → Prop) (s₁ s₃ : Shared) : Prop :=
  ∃ h' tk m' news', s₃ = { s₁ with heap := h', toks := tk } ∧ Fr h₀ L h' m' ∧ News h₀ L h' news' ∧ (∀ p ∈ news', p.1 ≠ I) ∧ h'.get? I = some oI ∧ J m' news'
noncomputable def LPost (h₀ : Heap) (L I : Addr) (oI : Obj) (J : (Str → Option Value) → List (Addr × Obj) → Prop) (s₁ : Shared) (Q : Flow → Shared → Prop) (f : Flow) (s₃ : Shared) : Prop :=
  match f with
  | .ret v => Q (.ret v) s₃
  | .brk => Q .next s₃
  | _ => LEnd h₀ L I oI J s₁ s₃

theorem Fr.but {h₀ h h' : Heap} {L I : Addr} {m : Str → Option Value} (F : Fr h₀ L h m) (hIL : L ≠ I) (hI₀ : h₀.get? I = none) (hk : ∀ b o, b ≠ I → h.get? b = some o → h'.get? b = some o) : Fr h₀ L h' m :=
  ⟨F.ns.at' fun o e => hk L o hIL e, fun b o e => hk b o (fun q => by rw [q, hI₀] at e; cases e) (F.keep b o e), F.above⟩
theorem News.but {h₀ h h' : Heap} {L I : Addr} {news : List (Addr × Obj)} (N : News h₀ L h news) (hn : ∀ p ∈ news, p.1 ≠ I) (hk : ∀ b o, b ≠ I → h.get? b = some o → h'.get? b = some o) : News h₀ L h' news :=
  fun p hp => ⟨hk _ _ (hn p hp) (N p hp).1, (N p hp).2⟩

theorem LEnd.intro {h₀ : Heap} {L I : Addr} {oI : Obj} {J : (Str → Option Value) → List (Addr × Obj) → Prop} {s₁ : Shared} {h' : Heap} {tk : Nat} {m' : Str → Option Value} {all : List (Addr × Obj)} (news' : List (Addr × Obj)) (F : Fr h₀ L h' m') (N : News h₀ L h' all)
    (hI : (I, oI) ∈ all) (hs : ∀ p ∈ news', p ∈ all) (hn : ∀ p ∈ news', p.1 ≠ I) (hj : J m' news') : LEnd h₀ L I oI J s₁ { s₁ with heap := h', toks := tk } :=
  ⟨h', tk, m', news', rfl, F, fun p hp => N p (hs p hp), hn, (N _ hI).1, hj⟩

theorem LEnd.one {h₀ : Heap} {L I D : Addr} {oI o : Obj} {J : (Str → Option Value) → List (Addr × Obj) → Prop} {s₁ : Shared} {h' : Heap} {tk : Nat} {m' : Str → Option Value} {all : List (Addr × Obj)} (F : Fr h₀ L h' m') (N : News h₀ L h' all)
    (hI : (I, oI) ∈ all) (hm : (D, o) ∈ all) (hn : D ≠ I) (hj : J m' [(D, o)]) : LEnd h₀ L I oI J s₁ { s₁ with heap := h', toks := tk } :=
  LEnd.intro [(D, o)] F N hI (fun _ hp => List.mem_singleton.mp hp ▸ hm) (fun _ hp => List.mem_singleton.mp hp ▸ hn) hj
/-- off these names the frame's map is as it was -/
noncomputable def Off (xs : List Str) (m m₀ : Str → Option Value) : Prop := ∀ z, z ∉ xs → m z = m₀ z
noncomputable def ov (xs : List Str) (u m₀ : Str → Option Value) : Str → Option Value := fun z => if xs.contains z then u z else m₀ z
theorem Off.ov {xs : List Str} {m m₀ : Str → Option Value} (h : Off xs m m₀) : m = ov xs m m₀ := by
  funext z
  unfold Mine.ov
  by_cases q : xs.contains z = true
  · rw [if_pos q]
  · rw [if_neg q]; exact h z fun hz => q (List.contains_iff_mem.mpr hz)
theorem Off.refl {xs : List Str} {m : Str → Option Value} : Off xs m m := fun _ _ => rfl
theorem Off.set {xs : List Str} {m m₀ : Str → Option Value} {x : Str} {v : Option Value} (hx : x ∈ xs) (h : Off xs m m₀) : Off xs (fun y => if y = x then v else m y) m₀ := fun z hz => by
  show (if z = x then v else m z) = m₀ z
  rw [if_neg (fun e : z = x => hz (e ▸ hx))]; exact h z hz
theorem foldl_length {α : Type} {f : List Int → α → List Int} (hf : ∀ r a, (f r a).length = r.length) (l : List α) (r : List Int) : (l.foldl f r).length = r.length := by
  induction l generalizing r with
  | nil => rfl
  | cons a l ih => rw [List.foldl_cons, ih, hf]
theorem Off.of_ov {xs : List Str} {u m₀ : Str → Option Value} : Off xs (Mine.ov xs u m₀) m₀ := fun z hz => by
  unfold Mine.ov
  rw [if_neg fun q => hz (List.contains_iff_mem.mp q)]

/-- a list of pairs of ints, each a tuple -/
noncomputable def WiresAt (h : Heap) (l : Addr) (wr : List (Int × Int)) : Prop :=
  ∃ ws : List Value, h.IsList l ws.toArray ∧ ws.length = wr.length ∧ ∀ (i : Nat) (p : Int × Int), wr[i]? = some p → ∃ (a : Addr) (tl th : Tok), ws[i]? = some (Value.ref a) ∧ IsTup h a #[Value.int p.1 tl, Value.int p.2 th]
noncomputable def WiresOk (wr : List (Int × Int)) : Prop := ∀ p ∈ wr, 0 ≤ p.1 ∧ p.1 < 4 ∧ 0 ≤ p.2 ∧ p.2 < 4 ∧ p.1 ≠ p.2

section
variable {prg : Program} {w : World} {A : Around} {E : Value → Shared → Prop} {s : Shared} {h₀ : Heap} {env : Env} {m : Str → Option Value} {news : List (Addr × Obj)}

/-- an iterator at I over n things; an item may bring objects of its own (ex) -/
structure Iter (prg : Program) (w : World) (A : Around) (target : PySem.Expr) (I : Addr) (fp : List Addr) (n : Nat) (P : Nat → Value → List (Addr × Obj) → Prop) (St : Nat → Heap → Prop) : Prop where
  frame : ∀ i h h', St i h → (∀ b ∈ fp, ∀ o, h.get? b = some o → h'.get? b = some o) → St i h'
  alive : ∀ i h, St i h → ∃ o, h.get? I = some o
  item : ∀ i (s : Shared) (Q : Option Value → Shared → Prop) (E : Value → Shared → Prop), i < n → St i s.heap →
    (∀ v ex h' tk, P i v ex → (∀ (Q' : Unit → Shared → Prop) (E' : Value → Shared → Prop), (∀ h'', St (i + 1) h'' → (∀ b o, b ≠ I → h'.get? b = some o → h''.get? b = some o) → Q' () { s with heap := h'', toks := tk }) →
        wpAny (model prg w) A (letOwnedTupleGo target (.ref I) v) Q' E' { s with heap := h', toks := tk }) →
      (∀ p ∈ ex, h'.get? p.1 = some p.2 ∧ s.heap.objs.size ≤ p.1) → (∀ b o, b ≠ I → s.heap.get? b = some o → h'.get? b = some o) → Q (some v) { s with heap := h', toks := tk }) →
    wpAny (model prg w) A (pyNext (.ref I)) Q E s
  done : ∀ (s : Shared) (Q : Option Value → Shared → Prop) (E : Value → Shared → Prop), St n s.heap →
    (∀ h' tk, (∀ b o, b ≠ I → s.heap.get? b = some o → h'.get? b = some o) → Q none { s with heap := h', toks := tk }) → wpAny (model prg w) A (pyNext (.ref I)) Q E s
  self : ∀ i (s : Shared) (Q : Value → Shared → Prop) (E : Value → Shared → Prop), St i s.heap → Q (.ref I) s → wpAny (model prg w) A (pyIter (.ref I)) Q E s

theorem go_list {target : PySem.Expr} {I l : Addr} {i : Nat} {v : Value} {Q : Unit → Shared → Prop} (hit : s.heap.IsListIter I l i) (hQ : Q () s) : wpAny (model prg w) A (letOwnedTupleGo target (.ref I) v) Q E s := by
  cases target with
  | Tuple elts x1 pos => cases v with
    | ref a => exact wpAny_letOwnedTupleGo_listiter hit hQ
    | _ => exact wpAny_pure hQ
  | List elts pos => cases v with
    | ref a => exact wpAny_letOwnedTupleGo_listiter (elts := elts) (x1 := 0) (pos := pos) hit hQ
    | _ => exact wpAny_pure hQ
  | _ => exact wpAny_pure hQ

theorem Iter.list {target : PySem.Expr} (hh : A.handled = none) (I ax : Addr) (hne : ax ≠ I) (items : Array Value) :
    Iter prg w A target I [I, ax] items.size (fun i v ex => items[i]? = some v ∧ ex = []) (fun i h => h.IsListIter I ax i ∧ h.IsList ax items) where
  frame := fun _ _ _ st hk => ⟨st.1.at fun o e => hk I (by simp) o e, st.2.at fun o e => hk ax (by simp) o e⟩
  alive := fun _ _ st => let ⟨o, ho, _⟩ := st.1; ⟨o, ho⟩
  item := fun i s Q E hi st hQ => by
    refine wpAny_pyNext_list_item st.1 st.2 (x := items[i]) (by simp [hi]) fun h' hit' hs' => ?_
    exact hQ _ [] h' s.toks ⟨by simp [hi], rfl⟩ (fun Q' E' k => go_list hit' (k h' ⟨hit', st.2.extBut hs'.extBut hne⟩ fun _ _ _ e => e)) (fun _ hp => (nomatch hp)) fun b o hb e => hs'.extBut b o hb e
  done := fun s Q E st hQ => wpAny_pyNext_list_end hh st.1 st.2 (by simp) fun h' he' => hQ h' s.toks fun b o hb e => he' b o hb e
  self := fun _ _ _ _ st hQ => wpAny_pyIter_listiter st.1 hQ

theorem for_walk {E' : Value → Shared → Prop} {target : PySem.Expr} {body : List Stmt} {Q : Flow → Shared → Prop} {I : Addr} {fp : List Addr} {n : Nat} {P : Nat → Value → List (Addr × Obj) → Prop} {St : Nat → Heap → Prop} (W : Iter prg w A target I fp n P St) (J : Nat → (Str → Option Value) → List (Addr × Obj) → Prop)
    (hIL : env.locals ≠ I) (hI₀ : h₀.get? I = none)
    (hfp : ∀ b ∈ fp, b ≠ I → ∃ o, ∀ i m' n' h', J i m' n' → Fr h₀ env.locals h' m' → News h₀ env.locals h' n' → h'.get? b = some o)
    (F : Fr h₀ env.locals s.heap m) (N : News h₀ env.locals s.heap news) (hnI : ∀ p ∈ news, p.1 ≠ I) (hst : St 0 s.heap) (hj : J 0 m news)
    (turn : ∀ i v ex m₁ news₁ h tk oI, i < n → P i v ex → J i m₁ news₁ → Fr h₀ env.locals h m₁ → News h₀ env.locals h ((I, oI) :: (ex ++ news₁)) → (∀ p ∈ news₁, p.1 ≠ I) →
      wpAny (model prg w) A (assign target env v) (fun _ s₂ => wpAny (model prg w) A (execs body env) (LPost h₀ env.locals I oI (J (i + 1)) { s with heap := h, toks := tk } Q) (fun _ _ => False) s₂) (fun _ _ => False) { s with heap := h, toks := tk })
    (done : ∀ m₁ news₁ h tk, J n m₁ news₁ → Fr h₀ env.locals h m₁ → News h₀ env.locals h news₁ → Q .next { s with heap := h, toks := tk }) :
    codeAny (model prg w) A (.forLoop target (.ref I) body [] env) (fun r s' => match r with | .ok f => Q f s' | .error e => E' e s') s := by
  refine codeAny_forLoop_any (fun k s' => ∃ i h tk m' news', s' = { s with heap := h, toks := tk } ∧ Fr h₀ env.locals h m' ∧ News h₀ env.locals h news' ∧ (∀ p ∈ news', p.1 ≠ I) ∧ St i h ∧ J i m' news' ∧ i ≤ n ∧ k = n + 1 - i) ?_ (n + 1)
    ⟨0, s.heap, s.toks, m, news, rfl, F, N, hnI, hst, hj, Nat.zero_le _, rfl⟩
  rintro k s' ⟨i, h, tk, m', news', rfl, F', N', hn', hst', hj', hi, rfl⟩
  by_cases hlt : i < n
  · refine W.item i _ _ _ hlt hst' fun v ex h₁ tk₁ hP hgo hex hk => ?_
    have F₁ := Fr.but F' hIL hI₀ hk
    have N₁ := News.but N' hn' hk
    obtain ⟨oi, hoi⟩ := W.alive _ _ hst'
    have hIlt := Heap.lt_size hoi
    refine hgo _ _ fun h₂ hst₂ hk₂ => ?_
    have F₂ := Fr.but F₁ hIL hI₀ hk₂
    have N₂ := News.but N₁ hn' hk₂
    obtain ⟨oI, hoI⟩ := W.alive _ _ hst₂
    refine wpAny_mono (turn i v ex m' news' h₂ tk₁ oI hlt hP hj' F₂ (fun p hp => ?_) hn') (fun _ s₂ y₂ => wpAny_mono y₂ (fun f s₃ h₃ => ?_) fun _ _ x => x.elim) fun _ _ x => x.elim
    · rcases List.mem_cons.mp hp with rfl | hp
      · exact ⟨hoI, Ne.symm hIL, hI₀⟩
      rcases List.mem_append.mp hp with hp | hp
      · have z := hex p hp
        have zI : p.1 ≠ I := Nat.ne_of_gt (Nat.lt_of_lt_of_le hIlt z.2)
        refine ⟨hk₂ _ _ zI z.1, Nat.ne_of_gt (Nat.lt_of_lt_of_le F'.ns.lt z.2), ?_⟩
        cases q : h₀.get? p.1 with
        | none => rfl
        | some o => exact absurd (Heap.lt_size (F'.keep _ _ q)) (Nat.not_lt.mpr z.2)
      · exact N₂ p hp
    · have fin : LEnd h₀ env.locals I oI (J (i + 1)) { s with heap := h₂, toks := tk₁ } s₃ → ∃ k, k < n + 1 - i ∧ ∃ i h tk m' news', s₃ = { s with heap := h, toks := tk } ∧ Fr h₀ env.locals h m' ∧ News h₀ env.locals h news' ∧ (∀ p ∈ news', p.1 ≠ I) ∧ St i h ∧ J i m' news' ∧ i ≤ n ∧ k = n + 1 - i := by
        rintro ⟨h₃, tk₃, m₃, n₃, e, F₃, N₃, hn₃, ho₃, hj₃⟩
        refine ⟨n + 1 - (i + 1), by (first | lia | omega), i + 1, h₃, tk₃, m₃, n₃, e, F₃, N₃, hn₃, W.frame _ _ _ hst₂ fun b hb o e => ?_, hj₃, hlt, rfl⟩
        by_cases hbI : b = I
        · subst hbI; rw [hoI] at e; cases e; exact ho₃
        · obtain ⟨ob, hob⟩ := hfp b hb hbI
          have e1 := hob i m' news' h₂ hj' F₂ N₂
          rw [e1] at e; cases e
          exact hob (i + 1) m₃ n₃ h₃ hj₃ F₃ N₃
      cases f with
      | next => exact fin h₃
      | cont => exact fin h₃
      | brk => exact h₃
      | ret v => exact h₃
  · have hin : i = n := by (first | lia | omega)
    subst hin
    refine W.done _ _ _ hst' fun h₁ tk₁ hk => wpAny_execs_nil ?_
    exact done m' news' h₁ tk₁ hj' (Fr.but F' hIL hI₀ hk) (News.but N' hn' hk)

/-- a loop over a list: its object stands at every turn (in the base, or in the ledger) -/
theorem for_list {E' : Value → Shared → Prop} {target : PySem.Expr} {body : List Stmt} {Q : Flow → Shared → Prop} {l : Addr} {items : Array Value} (J : Nat → (Str → Option Value) → List (Addr × Obj) → Prop) (hh : A.handled = none)
    (F : Fr h₀ env.locals s.heap m) (N : News h₀ env.locals s.heap news) (hl : s.heap.IsList l items)
    (hfp : ∃ o, ∀ i m' n' h', J i m' n' → Fr h₀ env.locals h' m' → News h₀ env.locals h' n' → h'.get? l = some o)
    (hj : J 0 m news)
    (turn : ∀ I i v m₁ news₁ h tk oI, I = s.heap.objs.size → items[i]? = some v → J i m₁ news₁ → Fr h₀ env.locals h m₁ → News h₀ env.locals h ((I, oI) :: news₁) → (∀ p ∈ news₁, p.1 ≠ I) →
      wpAny (model prg w) A (assign target env v) (fun _ s₂ => wpAny (model prg w) A (execs body env) (LPost h₀ env.locals I oI (J (i + 1)) { s with heap := h, toks := tk } Q) (fun _ _ => False) s₂) (fun _ _ => False) { s with heap := h, toks := tk })
    (done : ∀ m₁ news₁ h tk, J items.size m₁ news₁ → Fr h₀ env.locals h m₁ → News h₀ env.locals h news₁ → Q .next { s with heap := h, toks := tk }) :
    wpAny (model prg w) A (pyIter (.ref l)) (fun it s₂ => codeAny (model prg w) A (.forLoop target it body [] env) (fun r s' => match r with | .ok f => Q f s' | .error e => E' e s') s₂) E s := by
  refine wpAny_pyIter_list hl ?_
  obtain ⟨ol, hol, hr⟩ := id hl
  have hne : l ≠ s.heap.objs.size := Nat.ne_of_lt (Heap.lt_size hol)
  have hI₀ : h₀.get? s.heap.objs.size = none := by
    cases q : h₀.get? s.heap.objs.size with
    | none => rfl
    | some o => exact absurd (Heap.lt_size (F.keep _ _ q)) (Nat.lt_irrefl _)
  refine for_walk (s := { s with heap := s.heap.push _ }) (Iter.list hh s.heap.objs.size l hne items) J (Nat.ne_of_lt F.ns.lt) hI₀ (fun b hb hbI => ?_) (F.push _) (fun p hp => ⟨Heap.get?_push_of_some _ (N p hp).1, (N p hp).2⟩)
    (fun p hp => Nat.ne_of_lt (Heap.lt_size (N p hp).1)) ⟨⟨_, Heap.get?_push_size _ rfl, rfl, rfl⟩, hl.push _⟩ hj (fun i v ex m₁ news₁ h tk oI _ hP hj' F' N' hn' => ?_) done
  · rcases List.mem_cons.mp hb with h | h
    · exact absurd h hbI
    · rw [List.mem_singleton.mp h]; exact hfp
  · obtain ⟨hv, rfl⟩ := hP
    exact turn _ i v m₁ news₁ h tk oI rfl hv hj' F' N' hn'
end
/-- a turn walked with its end out of sight -/
theorem hideL {M : Model} {A : Around} {t : Sem Unit} {E : Value → Shared → Prop} {s : Shared} {ss : List Stmt} {env : Env} {h₀ : Heap} {L I : Addr} {oI : Obj} {J : (Str → Option Value) → List (Addr × Obj) → Prop} {s₁ : Shared} {Q : Flow → Shared → Prop}
    (h : ∀ P : Flow → Shared → Prop, (∀ s', LEnd h₀ L I oI J s₁ s' → P .next s') → (∀ s', LEnd h₀ L I oI J s₁ s' → P .cont s') → (∀ v s', Q (.ret v) s' → P (.ret v) s') → (∀ s', Q .next s' → P .brk s') → wpAny M A t (fun _ s₂ => wpAny M A (execs ss env) P (fun _ _ => False) s₂) E s) :
    wpAny M A t (fun _ s₂ => wpAny M A (execs ss env) (LPost h₀ L I oI J s₁ Q) (fun _ _ => False) s₂) E s :=
  h _ (fun _ x => x) (fun _ x => x) (fun _ _ x => x) fun _ x => x
/-- a def's body walked with its end and its frames out of sight -/
theorem hideD {M : Model} {dp un : Nat} {fr : Option (List Env)} {gd : Option (List Code)} {env env' : Env} {ss : List Stmt} {Q : Flow → Shared → Prop} {s : Shared}
    (h : ∀ (fr : Option (List Env)) (P : Flow → Shared → Prop), (∀ v s', Q (.ret v) s' → P (.ret v) s') → (∀ s', Q .next s' → P .next s') → wpAny M (Ar (dp + 1) (un + 3) fr gd) (execs ss env) P (fun _ _ => False) s) :
    wpAny M ((Ar dp un fr gd).deeper env') (execs ss env) Q (fun _ _ => False) s :=
  h _ _ (fun _ _ x => x) fun _ x => x

end Base
section Base2
noncomputable abbrev tupOf (items : List Value) (c : Nat) : Obj := { cls := .type "tuple", data := .seq items.toArray c }
section
variable {prg : Program} {w : World} {A : Around} {E : Value → Shared → Prop} {s : Shared} {h₀ : Heap} {env : Env} {m : Str → Option Value} {news : List (Addr × Obj)}

theorem Iter.ofName {x : Str} {px : Pos} {I : Addr} {fp : List Addr} {n : Nat} {P : Nat → Value → Prop} {St : Nat → Heap → Prop} (W : Walks prg w A I fp [I] n P St) (al : ∀ i h, St i h → ∃ o, h.get? I = some o) :
    Iter prg w A (.Name x px) I fp n (fun i v ex => P i v ∧ ex = []) St where
  frame := W.frame
  alive := al
  item := fun i s Q E hi st hQ => W.item i s Q E hi st fun v h' tk hP hst' hk =>
    hQ v [] h' tk ⟨hP, rfl⟩ (fun Q' E' k => wpAny_pure (k h' hst' fun _ _ _ e => e)) (fun _ hp => (nomatch hp)) fun b o hb e => hk b o (fun q => hb (List.mem_singleton.mp q)) e
  done := fun s Q E st hQ => W.done s Q E st fun h' tk hk => hQ h' tk fun b o hb e => hk b o (fun q => hb (List.mem_singleton.mp q)) e
  self := W.self

theorem go_other {target : PySem.Expr} {I : Addr} {o : Obj} {cn : String} {vs : Array Value} {v : Value} {Q : Unit → Shared → Prop} (ho : s.heap.get? I = some o) (hc : o.cls = .type cn) (hd : o.data = .fields vs)
    (hn : (["enumerate", "zip", "dict_itemiterator", "dict_reverseitemiterator", "odict_iterator", "itertools.zip_longest", "itertools.pairwise"] : List String).contains cn = false) (hQ : Q () s) : wpAny (model prg w) A (letOwnedTupleGo target (.ref I) v) Q E s := by
  have key : ∀ a : Addr, wpAny (model prg w) A (do
      let o ← load I
      match o.cls, o.data with
      | .type n, .fields vs =>
        if ["enumerate", "zip", "dict_itemiterator", "dict_reverseitemiterator", "odict_iterator", "itertools.zip_longest", "itertools.pairwise"].contains n && vs[0]? == some (rawInt a) then do
          rule "for.unpacks-the-owned-tuple"
          updateField I 0 .none
        else pure ()
      | _, _ => pure ()) Q E s := fun a => by
    refine wpAny_bind (wpAny_load ho ?_)
    rw [hc, hd]
    dsimp only
    rw [hn, Bool.false_and, if_neg Bool.false_ne_true]
    exact wpAny_pure hQ
  cases target with
  | Tuple elts x1 pos => cases v with
    | ref a => exact key a
    | _ => exact wpAny_pure hQ
  | List elts pos => cases v with
    | ref a => exact key a
    | _ => exact wpAny_pure hQ
  | _ => exact wpAny_pure hQ

theorem Iter.tuple {target : PySem.Expr} (hh : A.handled = none) (I ax : Addr) (hne : ax ≠ I) (items : Array Value) :
    Iter prg w A target I [I, ax] items.size (fun i v ex => items[i]? = some v ∧ ex = []) (fun i h => h.IsTupleIter I ax i ∧ h.IsTuple ax items) where
  frame := fun _ _ _ st hk => ⟨st.1.at fun o e => hk I (by simp) o e, st.2.at fun o e => hk ax (by simp) o e⟩
  alive := fun _ _ st => let ⟨o, ho, _⟩ := st.1; ⟨o, ho⟩
  item := fun i s Q E hi st hQ => by
    refine wpAny_pyNext_tuple_item st.1 st.2 (x := items[i]) (by simp [hi]) fun h' hit' hs' => ?_
    obtain ⟨o, ho, hc, hd⟩ := id hit'
    exact hQ _ [] h' s.toks ⟨by simp [hi], rfl⟩ (fun Q' E' k => go_other ho hc hd (by decide) (k h' ⟨hit', st.2.extBut hs'.extBut hne⟩ fun _ _ _ e => e)) (fun _ hp => (nomatch hp)) fun b o hb e => hs'.extBut b o hb e
  done := fun s Q E st hQ => wpAny_pyNext_tuple_end hh st.1 st.2 (by simp) fun h' he' => hQ h' s.toks fun b o hb e => he' b o hb e
  self := fun _ _ _ _ st hQ => wpAny_pyIter_tupleiter st.1 hQ

theorem Iter.range {x : Str} {px : Pos} (hh : A.handled = none) (I : Addr) (a c : Int) (n : Nat) :
    Iter prg w A (.Name x px) I [I] n (fun i v ex => (∃ t, v = .int (a + i * c) t) ∧ ex = []) (fun i h => IsRangeIter h I (a + (i : Nat) * c) ((n : Int) - (i : Nat)) c) :=
  Iter.ofName (Walks.range hh I a c n) fun _ _ st => ⟨_, st⟩

/-- a loop over an iterator that was just made -/
theorem for_new {E' : Value → Shared → Prop} {target : PySem.Expr} {body : List Stmt} {Q : Flow → Shared → Prop} {o : Obj} {fp : List Addr} {n : Nat} {P : Nat → Value → List (Addr × Obj) → Prop} {St : Nat → Heap → Prop} (J : Nat → (Str → Option Value) → List (Addr × Obj) → Prop)
    (W : Iter prg w A target s.heap.objs.size fp n P St) (F : Fr h₀ env.locals s.heap m) (N : News h₀ env.locals s.heap news) (hst : St 0 (s.heap.push o))
    (hfp : ∀ b ∈ fp, b ≠ s.heap.objs.size → ∃ o, ∀ i m' n' h', J i m' n' → Fr h₀ env.locals h' m' → News h₀ env.locals h' n' → h'.get? b = some o)
    (hj : J 0 m news)
    (turn : ∀ I i v ex m₁ news₁ h tk oI, I = s.heap.objs.size → i < n → P i v ex → J i m₁ news₁ → Fr h₀ env.locals h m₁ → News h₀ env.locals h ((I, oI) :: (ex ++ news₁)) → (∀ p ∈ news₁, p.1 ≠ I) →
      wpAny (model prg w) A (assign target env v) (fun _ s₂ => wpAny (model prg w) A (execs body env) (LPost h₀ env.locals I oI (J (i + 1)) { s with heap := h, toks := tk } Q) (fun _ _ => False) s₂) (fun _ _ => False) { s with heap := h, toks := tk })
    (done : ∀ m₁ news₁ h tk, J n m₁ news₁ → Fr h₀ env.locals h m₁ → News h₀ env.locals h news₁ → Q .next { s with heap := h, toks := tk }) :
    codeAny (model prg w) A (.forLoop target (.ref s.heap.objs.size) body [] env) (fun r s' => match r with | .ok f => Q f s' | .error e => E' e s') { s with heap := s.heap.push o } := by
  have hI₀ : h₀.get? s.heap.objs.size = none := by
    cases q : h₀.get? s.heap.objs.size with
    | none => rfl
    | some o => exact absurd (Heap.lt_size (F.keep _ _ q)) (Nat.lt_irrefl _)
  exact for_walk (s := { s with heap := s.heap.push o }) W J (Nat.ne_of_lt F.ns.lt) hI₀ hfp (F.push _) (fun p hp => ⟨Heap.get?_push_of_some _ (N p hp).1, (N p hp).2⟩)
    (fun p hp => Nat.ne_of_lt (Heap.lt_size (N p hp).1)) hst hj (fun i v ex m₁ news₁ h tk oI hi hP hj' F' N' hn' => turn _ i v ex m₁ news₁ h tk oI rfl hi hP hj' F' N' hn') done

theorem for_tuple {E' : Value → Shared → Prop} {target : PySem.Expr} {body : List Stmt} {Q : Flow → Shared → Prop} {l : Addr} {items : Array Value} (J : Nat → (Str → Option Value) → List (Addr × Obj) → Prop) (hh : A.handled = none)
    (F : Fr h₀ env.locals s.heap m) (N : News h₀ env.locals s.heap news) (hl : s.heap.IsTuple l items)
    (hfp : ∃ o, ∀ i m' n' h', J i m' n' → Fr h₀ env.locals h' m' → News h₀ env.locals h' n' → h'.get? l = some o)
    (hj : J 0 m news)
    (turn : ∀ I i v m₁ news₁ h tk oI, I = s.heap.objs.size → items[i]? = some v → J i m₁ news₁ → Fr h₀ env.locals h m₁ → News h₀ env.locals h ((I, oI) :: news₁) → (∀ p ∈ news₁, p.1 ≠ I) →
      wpAny (model prg w) A (assign target env v) (fun _ s₂ => wpAny (model prg w) A (execs body env) (LPost h₀ env.locals I oI (J (i + 1)) { s with heap := h, toks := tk } Q) (fun _ _ => False) s₂) (fun _ _ => False) { s with heap := h, toks := tk })
    (done : ∀ m₁ news₁ h tk, J items.size m₁ news₁ → Fr h₀ env.locals h m₁ → News h₀ env.locals h news₁ → Q .next { s with heap := h, toks := tk }) :
    wpAny (model prg w) A (pyIter (.ref l)) (fun it s₂ => codeAny (model prg w) A (.forLoop target it body [] env) (fun r s' => match r with | .ok f => Q f s' | .error e => E' e s') s₂) E s := by
  refine wpAny_pyIter_tuple hl ?_
  obtain ⟨ol, hol, hr⟩ := id hl
  have hne : l ≠ s.heap.objs.size := Nat.ne_of_lt (Heap.lt_size hol)
  refine for_new J (Iter.tuple hh s.heap.objs.size l hne items) F N ⟨⟨_, Heap.get?_push_size _ rfl, rfl, rfl⟩, hl.push _⟩ (fun b hb hbI => ?_) hj (fun I i v ex m₁ news₁ h tk oI hI hi hP hj' F' N' hn' => ?_) done
  · rcases List.mem_cons.mp hb with h | h
    · exact absurd h hbI
    · rw [List.mem_singleton.mp h]; exact hfp
  · obtain ⟨hv, rfl⟩ := hP
    exact turn I i v m₁ news₁ h tk oI hI hv hj' F' N' hn'

theorem for_range {E' : Value → Shared → Prop} {x : Str} {px : Pos} {body : List Stmt} {Q : Flow → Shared → Prop} {r : Addr} {a b c : Int} {t u v : Tok} {n : Nat} (J : Nat → (Str → Option Value) → List (Addr × Obj) → Prop) (hh : A.handled = none)
    (F : Fr h₀ env.locals s.heap m) (N : News h₀ env.locals s.heap news) (hr : IsRange s.heap r a b c t u v) (hsmall : Builtin.Range.small a b c = true) (hn : Builtin.Range.rangeSize a b c = (n : Int))
    (hj : J 0 m news)
    (turn : ∀ I i t m₁ news₁ h tk oI, I = s.heap.objs.size → i < n → J i m₁ news₁ → Fr h₀ env.locals h m₁ → News h₀ env.locals h ((I, oI) :: news₁) → (∀ p ∈ news₁, p.1 ≠ I) →
      wpAny (model prg w) A (assign (.Name x px) env (.int (a + i * c) t)) (fun _ s₂ => wpAny (model prg w) A (execs body env) (LPost h₀ env.locals I oI (J (i + 1)) { s with heap := h, toks := tk } Q) (fun _ _ => False) s₂) (fun _ _ => False) { s with heap := h, toks := tk })
    (done : ∀ m₁ news₁ h tk, J n m₁ news₁ → Fr h₀ env.locals h m₁ → News h₀ env.locals h news₁ → Q .next { s with heap := h, toks := tk }) :
    wpAny (model prg w) A (pyIter (.ref r)) (fun it s₂ => codeAny (model prg w) A (.forLoop (.Name x px) it body [] env) (fun r s' => match r with | .ok f => Q f s' | .error e => E' e s') s₂) E s := by
  refine wpAny_pyIter_range hr hsmall ?_
  refine for_new J (Iter.range hh s.heap.objs.size a c n) F N ?_ (fun b hb hbI => absurd (List.mem_singleton.mp hb) hbI) hj (fun I i v ex m₁ news₁ h tk oI hI hi hP hj' F' N' hn' => ?_) done
  · show (s.heap.push _).get? _ = _
    rw [Heap.get?_push_size _ rfl, hn]
    simp
  · obtain ⟨⟨t, rfl⟩, rfl⟩ := hP
    exact turn I i t m₁ news₁ h tk oI hI hi hj' F' N' hn'
theorem for_tupleN {E' : Value → Shared → Prop} {target : PySem.Expr} {body : List Stmt} {Q : Flow → Shared → Prop} {l : Addr} {items : List Value} {c : Nat} (J : Nat → (Str → Option Value) → List (Addr × Obj) → Prop) (hh : A.handled = none)
    (F : Fr h₀ env.locals s.heap m) (N : News h₀ env.locals s.heap news) (hm : ∀ i m' n', J i m' n' → (l, tupOf items c) ∈ n') (hj : J 0 m news)
    (turn : ∀ I i v m₁ news₁ h tk oI, I = s.heap.objs.size → items[i]? = some v → J i m₁ news₁ → Fr h₀ env.locals h m₁ → News h₀ env.locals h ((I, oI) :: news₁) → (∀ p ∈ news₁, p.1 ≠ I) →
      wpAny (model prg w) A (assign target env v) (fun _ s₂ => wpAny (model prg w) A (execs body env) (LPost h₀ env.locals I oI (J (i + 1)) { s with heap := h, toks := tk } Q) (fun _ _ => False) s₂) (fun _ _ => False) { s with heap := h, toks := tk })
    (done : ∀ m₁ news₁ h tk, J items.length m₁ news₁ → Fr h₀ env.locals h m₁ → News h₀ env.locals h news₁ → Q .next { s with heap := h, toks := tk }) :
    wpAny (model prg w) A (pyIter (.ref l)) (fun it s₂ => codeAny (model prg w) A (.forLoop target it body [] env) (fun r s' => match r with | .ok f => Q f s' | .error e => E' e s') s₂) E s :=
  for_tuple (items := items.toArray) J hh F N (News.isTup N (hm 0 m news hj)) ⟨tupOf items c, fun i m' n' h' hj' _ N' => N'.get (hm i m' n' hj')⟩ hj (fun I i v m₁ news₁ h tk oI hI hv => turn I i v m₁ news₁ h tk oI hI (by simpa using hv)) (fun m₁ news₁ h tk hj' => done m₁ news₁ h tk (by simpa using hj'))
theorem for_listN {E' : Value → Shared → Prop} {target : PySem.Expr} {body : List Stmt} {Q : Flow → Shared → Prop} {l : Addr} {items : List Value} {c : Nat} (J : Nat → (Str → Option Value) → List (Addr × Obj) → Prop) (hh : A.handled = none)
    (F : Fr h₀ env.locals s.heap m) (N : News h₀ env.locals s.heap news) (hm : ∀ i m' n', J i m' n' → (l, listOf items.toArray c) ∈ n') (hj : J 0 m news)
    (turn : ∀ I i v m₁ news₁ h tk oI, I = s.heap.objs.size → items[i]? = some v → J i m₁ news₁ → Fr h₀ env.locals h m₁ → News h₀ env.locals h ((I, oI) :: news₁) → (∀ p ∈ news₁, p.1 ≠ I) →
      wpAny (model prg w) A (assign target env v) (fun _ s₂ => wpAny (model prg w) A (execs body env) (LPost h₀ env.locals I oI (J (i + 1)) { s with heap := h, toks := tk } Q) (fun _ _ => False) s₂) (fun _ _ => False) { s with heap := h, toks := tk })
    (done : ∀ m₁ news₁ h tk, J items.length m₁ news₁ → Fr h₀ env.locals h m₁ → News h₀ env.locals h news₁ → Q .next { s with heap := h, toks := tk }) :
    wpAny (model prg w) A (pyIter (.ref l)) (fun it s₂ => codeAny (model prg w) A (.forLoop target it body [] env) (fun r s' => match r with | .ok f => Q f s' | .error e => E' e s') s₂) E s :=
  for_list (items := items.toArray) J hh F N (News.isList N (hm 0 m news hj)) ⟨listOf items.toArray c, fun i m' n' h' hj' _ N' => N'.get (hm i m' n' hj')⟩ hj (fun I i v m₁ news₁ h tk oI hI hv => turn I i v m₁ news₁ h tk oI hI (by simpa using hv)) (fun m₁ news₁ h tk hj' => done m₁ news₁ h tk (by simpa using hj'))
theorem for_listB {E' : Value → Shared → Prop} {target : PySem.Expr} {body : List Stmt} {Q : Flow → Shared → Prop} {l : Addr} {items : List Value}  (J : Nat → (Str → Option Value) → List (Addr × Obj) → Prop) (hh : A.handled = none)
    (F : Fr h₀ env.locals s.heap m) (N : News h₀ env.locals s.heap news) (hl : h₀.IsList l items.toArray) (hj : J 0 m news)
    (turn : ∀ I i v m₁ news₁ h tk oI, I = s.heap.objs.size → items[i]? = some v → J i m₁ news₁ → Fr h₀ env.locals h m₁ → News h₀ env.locals h ((I, oI) :: news₁) → (∀ p ∈ news₁, p.1 ≠ I) →
      wpAny (model prg w) A (assign target env v) (fun _ s₂ => wpAny (model prg w) A (execs body env) (LPost h₀ env.locals I oI (J (i + 1)) { s with heap := h, toks := tk } Q) (fun _ _ => False) s₂) (fun _ _ => False) { s with heap := h, toks := tk })
    (done : ∀ m₁ news₁ h tk, J items.length m₁ news₁ → Fr h₀ env.locals h m₁ → News h₀ env.locals h news₁ → Q .next { s with heap := h, toks := tk }) :
    wpAny (model prg w) A (pyIter (.ref l)) (fun it s₂ => codeAny (model prg w) A (.forLoop target it body [] env) (fun r s' => match r with | .ok f => Q f s' | .error e => E' e s') s₂) E s :=
  for_list (items := items.toArray) J hh F N (hl.at fun o e => F.keep l o e) (let ⟨o, ho, _⟩ := hl; ⟨o, fun _ _ _ _ _ F' _ => F'.keep _ _ ho⟩) hj (fun I i v m₁ news₁ h tk oI hI hv => turn I i v m₁ news₁ h tk oI hI (by simpa using hv)) (fun m₁ news₁ h tk hj' => done m₁ news₁ h tk (by simpa using hj'))
end

theorem Off.sub {xs ys : List Str} {m m₀ : Str → Option Value} (hs : ∀ x ∈ xs, x ∈ ys) (h : Off xs m m₀) : Off ys m m₀ := fun z hz => h z fun q => hz (hs z q)
theorem ov_pin {x : Str} {xs : List Str} {m m₀ : Str → Option Value} {v : Value} (h : m x = some v) : ov (x :: xs) m m₀ = fun y => if y = x then some v else ov xs m m₀ y := by
  funext y
  by_cases e : y = x
  · subst e
    rw [if_pos rfl]
    unfold ov
    rw [if_pos (List.contains_iff_mem.mpr (.head _))]; exact h
  · rw [if_neg e]
    have : (x :: xs).contains y = xs.contains y := by
      rw [List.contains_cons]
      have : (y == x) = false := beq_eq_false_iff_ne.mpr e
      rw [this, Bool.false_or]
    unfold ov
    rw [this]
theorem ov_pin2 {x : Str} {xs : List Str} {m m₀ : Str → Option Value} {v : Value} (hx : xs.contains x = true) (h : m x = some v) : ov xs m m₀ = fun y => if y = x then some v else ov xs m m₀ y := by
  funext y
  by_cases e : y = x
  · subst e
    rw [if_pos rfl]
    unfold ov
    rw [if_pos hx]; exact h
  · rw [if_neg e]
noncomputable def Stop (p : Prop) : Prop := p
theorem stop {p : Prop} (h : Stop p) : p := h
theorem unstop {p : Prop} (h : p) : Stop p := h
theorem Cx.of {w : World} {mg mb : Str → Option Value} {h₀ h : Heap} {L : Addr} {m : Str → Option Value} {news own : List (Addr × Obj)} (X : (Mine.hd.heap_39 w.params).In h₀) (T : TopRead Mine.hd.view_39 Mine.hd.lz mg mb h₀) (F : Fr h₀ L h m) (N : News h₀ L h news) (hs : ∀ p ∈ own, p ∈ news) : Cx w mg mb h₀ h own :=
  ⟨X, T, F.keep, fun p hp => ⟨(N p (hs p hp)).1, (N p (hs p hp)).2.2⟩⟩
/-- a def entered from a def: the caller's facts come back -/
theorem code_mine {w : World} {A : Around} {s : Shared} {R : Result → Shared → Prop} {mg mb : Str → Option Value} {h₀ : Heap} {L : Addr} {m : Str → Option Value} {news : List (Addr × Obj)} {f : Addr} {fc : Value} {fdd : Option Addr} {fsl : Array (Option Value)} {name qual : Str} {params : Arguments} {body : List Stmt} {scope : Scope} {dV kV doc pm cdv ct : Value} {an : Option Addr} {args : Args} {binds : List (Str × Value)}
    (F : Fr h₀ L s.heap m) (X : (Mine.hd.heap_39 w.params).In h₀) (N : News h₀ L s.heap news) (T : TopRead Mine.hd.view_39 Mine.hd.lz mg mb h₀)
    (ho : (Mine.hd.heap_39 w.params).lookup f = some ⟨fc, fdd, .func (fnX name qual params body scope [] dV kV doc pm an cdv ct), fsl⟩) (hcd : codeIn (Mine.hd.heap_39 w.params) cdv qual = true) (hroom : A.depth < recursionLimit)
    (hbind : BindsTo s (fnX name qual params body scope [] dV kV doc pm an cdv ct) args binds) (hloc : ∀ y ∈ binds, scope.names.lookup y.1 = some .local)
    (h : ∀ g L' h₁, Fr h₀ L g m → Fr g L' h₁ (fun y => binds.reverse.lookup y) → News g L' h₁ news → (Mine.hd.heap_39 w.params).In g → TopRead Mine.hd.view_39 Mine.hd.lz mg mb g →
      wpAny (model prog w) (A.deeper (envX qual scope L' f cdv [])) (execs body (envX qual scope L' f cdv []))
        (fun fl s' => LeaveK h₀ L m g R (match fl with | .ret v => v | _ => .none) s') (fun _ _ => False) { s with heap := h₁, toks := s.toks + binds.length })
    (hco : scope.isCoroutine = false) (hgen : scope.isGenerator = false) (hk : scope.kind = .function) (hcell : ∀ x ∈ scope.names, x.2 ≠ .cell) : codeAny (model prog w) A (.call (.ref f) args) R s := by
  have nm : ∀ b o, h₀.get? b = some o → b ∉ news.map (·.1) := fun b o e q => by
    obtain ⟨p, hp, rfl⟩ := List.mem_map.mp q
    rw [(N p hp).2.2] at e; cases e
  have st : ∀ b o, h₀.get? b = some o → (hideAll s.heap (news.map (·.1))).get? b = some o := fun b o e => hideAll_get _ (F.keep b o e) (nm b o e)
  obtain ⟨oL, es, ep, hL, hr⟩ := id F.ns
  have nL : L ∉ news.map (·.1) := fun q => by
    obtain ⟨p, hp, e⟩ := List.mem_map.mp q
    exact (N p hp).2.1 e
  have hLg := hideAll_get (news.map (·.1)) hL nL
  have X' := X.keeps F.keep
  refine codeAny_call_def (fd := fnX name qual params body scope [] dV kV doc pm an cdv ct) (body := body) (binds := binds) hroom (X' _ _ ho) rfl (T.nolimit.keeps F.keep) (codeRec_of X' hcd) rfl hbind hcell hloc (fun h₁ hns hk₁ => ?_) hco hgen hk
  refine wpAny_mono (h (hideAll s.heap (news.map (·.1))) s.heap.objs.size h₁ ⟨⟨oL, es, ep, hLg, hr⟩, st, F.above⟩ ⟨hns, fun b o e => hk₁ b o (of_hideAll _ e), Nat.le_of_eq (hideAll_size _ _)⟩
    (fun p hp => ⟨hk₁ _ _ (N p hp).1, Nat.ne_of_lt (Heap.lt_size (N p hp).1), hideAll_none _ (List.mem_map_of_mem hp)⟩) (X.keeps st) (T.keeps st)) (fun fl s' hl => ?_) fun _ _ x => x.elim
  obtain ⟨L', m', news', F', N', k⟩ := hl
  refine k ⟨⟨oL, es, ep, F'.keep L oL hLg, hr⟩, fun b o e => F'.keep b o (st b o e), F.above⟩ fun p hp => ⟨(N' p hp).1, fun q => ?_, ?_⟩
  · have := (N' p hp).2.2; rw [q, hLg] at this; cases this
  · cases q : h₀.get? p.1 with
    | none => rfl
    | some o => have := (N' p hp).2.2; rw [st _ _ q] at this; cases this

end Base2
section Base3
section
variable {prog : Program} {w : World} {A : Around} {E : Value → Shared → Prop} {s : Shared} {h₀ : Heap} {L D : Addr} {m : Str → Option Value} {news news' : List (Addr × Obj)} {vs : List Value} {n : Nat} {k : Int} {t u : Tok} {v : Value}
theorem set_list {Q : Unit → Shared → Prop} (F : Fr h₀ L s.heap m) (N : News h₀ L s.heap news) (U : Upd D (listOf vs.toArray n) (listOf (vs.set k.toNat v).toArray n) news news') (h0 : 0 ≤ k) (h1 : k.toNat < vs.length) (hfit : k < 2 ^ 63)
    (h : ∀ h', Fr h₀ L h' m → News h₀ L h' news' → Q () { s with heap := h' }) :
    wpAny (model prog w) A (setItem (.ref D) (.int k t) v) Q E s := by
  obtain ⟨pre, post, rfl, rfl, a, b⟩ := U.split
  have z := N (D, listOf vs.toArray n) (List.mem_append.mpr (.inr (.head _)))
  refine ki_setAt z.1 h0 hfit (by simp; (first | lia | omega)) (h _ (F.change (Heap.SameBut.update ..) z.2.1 z.2.2) (ki_turn _ N a b ?_ ?_))
  · show vs.toArray.setIfInBounds k.toNat v = (vs.set k.toNat v).toArray
    apply Array.toList_inj.mp
    simp
  · simp
theorem sub_list {value slice : PySem.Expr} {Q : Value → Shared → Prop} (N : News h₀ L s.heap news) (hm : (D, listOf vs.toArray n) ∈ news) (h0 : 0 ≤ k) (hfit : k < 2 ^ 63) (hx : vs[k.toNat]? = some v) (h : Q v s)
    (hs : subscripted slice false (.ref D) (.int k u) = operate [.ref D, .int k u] (getItem (.ref D) (.int k u)) := by with_unfolding_all rfl) :
    wpAny (model prog w) A (subscriptTail value slice (.ref D) (.int k u)) Q E s :=
  have hL : s.heap.IsList D vs.toArray := N.isList hm
  tail_any hL.typeIs slot_list_getitem.lookup (wpAny_getItem_list hL h0 hfit (by simpa using hx) h) hs
theorem sub_listB {value slice : PySem.Expr} {Q : Value → Shared → Prop} (F : Fr h₀ L s.heap m) (hl : h₀.IsList D vs.toArray) (h0 : 0 ≤ k) (hfit : k < 2 ^ 63) (hx : vs[k.toNat]? = some v) (h : Q v s)
    (hs : subscripted slice false (.ref D) (.int k u) = operate [.ref D, .int k u] (getItem (.ref D) (.int k u)) := by with_unfolding_all rfl) :
    wpAny (model prog w) A (subscriptTail value slice (.ref D) (.int k u)) Q E s :=
  have hL : s.heap.IsList D vs.toArray := hl.at fun o e => F.keep _ o e
  tail_any hL.typeIs slot_list_getitem.lookup (wpAny_getItem_list hL h0 hfit (by simpa using hx) h) hs
theorem sub_tupB {value slice : PySem.Expr} {items : List Value} {j : Nat} {Q : Value → Shared → Prop} (F : Fr h₀ L s.heap m) (hl : IsTup h₀ D items.toArray) (hlo : -(2 ^ 63) ≤ k) (hhi : k < 2 ^ 63) (hj : seqIndex? k items.length = some j) (hx : items[j]? = some v) (h : Q v s)
    (hs : subscripted slice false (.ref D) (.int k u) = operate [.ref D, .int k u] (getItem (.ref D) (.int k u)) := by with_unfolding_all rfl) :
    wpAny (model prog w) A (subscriptTail value slice (.ref D) (.int k u)) Q E s := item_tupleT (hl.keeps F.keep) hlo hhi (by simpa using hj) (by simpa using hx) h hs
end

end Base3
section Comp
noncomputable def compForm (ip : Pos) (target : PySem.Expr) (it : Value) (ifs : List PySem.Expr) (env : Env) (tail : Sem Unit) (c : Code) : Sem Fin := do
  standAt ip
  match ← pyNext it with
  | none => pure (.done .next)
  | some v =>
    letOwnedTupleGo target it v
    assign target env v
    let mut ok := true
    for c in ifs do
      if ok then ok ← isTrue c env (eval c env)
    if ok then
      tail
    again c
/-- the tests of a clause, and what comes after -/
noncomputable def tested {prg : Program} {w : World} (A : Around) (env : Env) (ifs : List PySem.Expr) (tail : Sem Unit) (P : Shared → Prop) (s : Shared) : Prop :=
  match ifs with
  | [] => wpAny (model prg w) A tail (fun _ s' => P s') (fun _ _ => False) s
  | [c] => wpAny (model prg w) A (isTrue c env (eval c env)) (fun ok s' => if ok = true then wpAny (model prg w) A tail (fun _ s' => P s') (fun _ _ => False) s' else P s') (fun _ _ => False) s
  | _ => False

section
variable {prg : Program} {w : World} {A : Around} {E : Value → Shared → Prop} {s : Shared} {h₀ : Heap} {env : Env} {m : Str → Option Value} {news : List (Addr × Obj)} {R : Result → Shared → Prop}

theorem compLoop_any {elt : PySem.Expr} {gens : List Comprehension} {scope : Scope} {pos : Pos} {k : Nat} {it acc : Value} {target : PySem.Expr} {ifs : List PySem.Expr} {ip : Pos} {tail : Sem Unit} (hturn : compTurn (.ListComp elt gens scope pos) k it acc env = compForm ip target it ifs env tail (.compLoop (.ListComp elt gens scope pos) k it acc env)) (Inv : Nat → Shared → Prop)
    (turn : ∀ n s, Inv n s → wpAny (model prg w) A (pyNext it) (fun r s₁ => match r with
      | none => R (.ok .next) s₁
      | some v => wpAny (model prg w) A (letOwnedTupleGo target it v) (fun _ s₂ => wpAny (model prg w) A (assign target env v) (fun _ s₃ => tested (prg := prg) (w := w) A env ifs tail (fun s₄ => ∃ m, m < n ∧ Inv m s₄) s₃) (fun _ _ => False) s₂) (fun _ _ => False) s₁) (fun _ _ => False) s)
    (n : Nat) (h : Inv n s) : codeAny (model prg w) A (.compLoop (.ListComp elt gens scope pos) k it acc env) R s := by
  refine codeAny_loop rfl Inv (fun n s hI => ?_) n h
  show wpAny _ A ((compTurn (.ListComp elt gens scope pos) k it acc env).onRaise (fun x => do noteFrame x env; theTreesLotGoes x)) _ _ s
  refine wpAny_noted ?_
  rw [hturn]
  refine wpAny_bind (wpAny_standAt (wpAny_bind (wpAny_mono (turn n s hI) (fun r s₁ h₁ => ?_) fun _ _ h' => h'.elim)))
  cases r with
  | none => exact wpAny_pure h₁
  | some v =>
    refine wpAny_bind (wpAny_mono h₁ (fun _ s₂ h₂ => wpAny_bind (wpAny_mono h₂ (fun _ s₃ h₃ => ?_) fun _ _ h' => h'.elim)) fun _ _ h' => h'.elim)
    match ifs, h₃ with
    | [], h₃ =>
      refine wpAny_bind (wpAny_pure ?_)
      exact wpAny_bind (wpAny_mono h₃ (fun _ s₄ h₄ => wpAny_pure ⟨rfl, h₄⟩) fun _ _ h' => h'.elim)
    | [c], h₃ =>
      refine wpAny_bind (wpAny_tests_one (wpAny_mono h₃ (fun ok s₄ h₄ => ?_) fun _ _ h' => h'.elim))
      cases ok with
      | false => exact wpAny_pure ⟨rfl, h₄⟩
      | true => exact wpAny_bind (wpAny_mono h₄ (fun _ s₅ h₅ => wpAny_pure ⟨rfl, h₅⟩) fun _ _ h' => h'.elim)

theorem comp_walk {elt : PySem.Expr} {gens : List Comprehension} {scope : Scope} {pos : Pos} {k : Nat} {acc : Value} {target : PySem.Expr} {ifs : List PySem.Expr} {ip : Pos} {tail : Sem Unit} {I : Addr} {fp : List Addr} {n : Nat} {P : Nat → Value → List (Addr × Obj) → Prop} {St : Nat → Heap → Prop}
    (hturn : compTurn (.ListComp elt gens scope pos) k (.ref I) acc env = compForm ip target (.ref I) ifs env tail (.compLoop (.ListComp elt gens scope pos) k (.ref I) acc env))
    (W : Iter prg w A target I fp n P St) (J : Nat → (Str → Option Value) → List (Addr × Obj) → Prop)
    (hIL : env.locals ≠ I) (hI₀ : h₀.get? I = none)
    (hfp : ∀ b ∈ fp, b ≠ I → ∃ o, ∀ i m' n' h', J i m' n' → Fr h₀ env.locals h' m' → News h₀ env.locals h' n' → h'.get? b = some o)
    (F : Fr h₀ env.locals s.heap m) (N : News h₀ env.locals s.heap news) (hnI : ∀ p ∈ news, p.1 ≠ I) (hst : St 0 s.heap) (hj : J 0 m news)
    (turn : ∀ i v ex m₁ news₁ h tk oI, i < n → P i v ex → J i m₁ news₁ → Fr h₀ env.locals h m₁ → News h₀ env.locals h ((I, oI) :: (ex ++ news₁)) → (∀ p ∈ news₁, p.1 ≠ I) →
      wpAny (model prg w) A (assign target env v) (fun _ s₂ => tested (prg := prg) (w := w) A env ifs tail (LEnd h₀ env.locals I oI (J (i + 1)) { s with heap := h, toks := tk }) s₂) (fun _ _ => False) { s with heap := h, toks := tk })
    (done : ∀ m₁ news₁ h tk, J n m₁ news₁ → Fr h₀ env.locals h m₁ → News h₀ env.locals h news₁ → R (.ok .next) { s with heap := h, toks := tk }) :
    codeAny (model prg w) A (.compLoop (.ListComp elt gens scope pos) k (.ref I) acc env) R s := by
  refine compLoop_any hturn (fun k s' => ∃ i h tk m' news', s' = { s with heap := h, toks := tk } ∧ Fr h₀ env.locals h m' ∧ News h₀ env.locals h news' ∧ (∀ p ∈ news', p.1 ≠ I) ∧ St i h ∧ J i m' news' ∧ i ≤ n ∧ k = n + 1 - i) ?_ (n + 1)
    ⟨0, s.heap, s.toks, m, news, rfl, F, N, hnI, hst, hj, Nat.zero_le _, rfl⟩
  rintro k s' ⟨i, h, tk, m', news', rfl, F', N', hn', hst', hj', hi, rfl⟩
  by_cases hlt : i < n
  · refine W.item i _ _ _ hlt hst' fun v ex h₁ tk₁ hP hgo hex hk => ?_
    have F₁ := Fr.but F' hIL hI₀ hk
    have N₁ := News.but N' hn' hk
    obtain ⟨oi, hoi⟩ := W.alive _ _ hst'
    have hIlt := Heap.lt_size hoi
    refine hgo _ _ fun h₂ hst₂ hk₂ => ?_
    have F₂ := Fr.but F₁ hIL hI₀ hk₂
    have N₂ := News.but N₁ hn' hk₂
    obtain ⟨oI, hoI⟩ := W.alive _ _ hst₂
    have fin : ∀ s₃, LEnd h₀ env.locals I oI (J (i + 1)) { s with heap := h₂, toks := tk₁ } s₃ → ∃ k, k < n + 1 - i ∧ ∃ i h tk m' news', s₃ = { s with heap := h, toks := tk } ∧ Fr h₀ env.locals h m' ∧ News h₀ env.locals h news' ∧ (∀ p ∈ news', p.1 ≠ I) ∧ St i h ∧ J i m' news' ∧ i ≤ n ∧ k = n + 1 - i := by
      rintro s₃ ⟨h₃, tk₃, m₃, n₃, e, F₃, N₃, hn₃, ho₃, hj₃⟩
      refine ⟨n + 1 - (i + 1), by (first | lia | omega), i + 1, h₃, tk₃, m₃, n₃, e, F₃, N₃, hn₃, W.frame _ _ _ hst₂ fun b hb o e => ?_, hj₃, hlt, rfl⟩
      by_cases hbI : b = I
      · subst hbI; rw [hoI] at e; cases e; exact ho₃
      · obtain ⟨ob, hob⟩ := hfp b hb hbI
        have e1 := hob i m' news' h₂ hj' F₂ N₂
        rw [e1] at e; cases e
        exact hob (i + 1) m₃ n₃ h₃ hj₃ F₃ N₃
    refine wpAny_mono (turn i v ex m' news' h₂ tk₁ oI hlt hP hj' F₂ (fun p hp => ?_) hn') (fun _ s₂ y₂ => ?_) fun _ _ x => x.elim
    · rcases List.mem_cons.mp hp with rfl | hp
      · exact ⟨hoI, Ne.symm hIL, hI₀⟩
      rcases List.mem_append.mp hp with hp | hp
      · have z := hex p hp
        have zI : p.1 ≠ I := Nat.ne_of_gt (Nat.lt_of_lt_of_le hIlt z.2)
        refine ⟨hk₂ _ _ zI z.1, Nat.ne_of_gt (Nat.lt_of_lt_of_le F'.ns.lt z.2), ?_⟩
        cases q : h₀.get? p.1 with
        | none => rfl
        | some o => exact absurd (Heap.lt_size (F'.keep _ _ q)) (Nat.not_lt.mpr z.2)
      · exact N₂ p hp
    · match ifs, y₂ with
      | [], y₂ => exact wpAny_mono y₂ (fun _ s₃ h₃ => fin s₃ h₃) fun _ _ x => x
      | [c], y₂ =>
        refine wpAny_mono y₂ (fun ok s₃ h₃ => ?_) fun _ _ x => x
        cases ok with
        | false => exact fin s₃ h₃
        | true => exact wpAny_mono h₃ (fun _ s₄ h₄ => fin s₄ h₄) fun _ _ x => x
  · have hin : i = n := by (first | lia | omega)
    subst hin
    refine W.done _ _ _ hst' fun h₁ tk₁ hk => ?_
    exact done m' news' h₁ tk₁ hj' (Fr.but F' hIL hI₀ hk) (News.but N' hn' hk)

theorem comp_start {elt : PySem.Expr} {gens : List Comprehension} {scope : Scope} {pos : Pos} {k : Nat} {acc : Value} {I : Addr} {g : Comprehension} (hg : gens[k]? = some g) (hasync : g.is_async = 0)
    (self : ∀ (Q : Value → Shared → Prop) (E : Value → Shared → Prop), Q (.ref I) s → wpAny (model prg w) A (pyIter (.ref I)) Q E s)
    (h : codeAny (model prg w) A (.compLoop (.ListComp elt gens scope pos) k (.ref I) acc env) R s) :
    codeAny (model prg w) A (.compStart (.ListComp elt gens scope pos) k (.ref I) acc env) R s := by
  refine codeAny_of_tree ?_
  show wpAny _ _ ((compStart (.ListComp elt gens scope pos) k (.ref I) acc env).onRaise (fun x => do noteFrame x env; standAt theWindowsPlace)) _ _ s
  refine wpAny_notedAt ?_
  have hc : clausesOf (.ListComp elt gens scope pos) = gens := rfl
  unfold compStart
  simp only [hc, hg, Option.elim, hasync]
  refine wpAny_bind (wpAny_askSetting (wpAny_ite ?_))
  split
  · exact wpAny_bind (wpAny_pure (wpAny_pure ⟨rfl, h⟩))
  · exact wpAny_bind (wpAny_rule (wpAny_bind (wpAny_standAt (wpAny_bind (self _ _ (wpAny_pure ⟨rfl, h⟩))))))

noncomputable abbrev cellObj (v : Option Value) : Obj := { cls := .type "cell", data := .cell v }
noncomputable abbrev ownL (own : Option Str) (C : Addr) : List (Addr × Obj) := match own with | some _ => [(C + 1, cellObj none)] | none => []
noncomputable abbrev ownC (own : Option Str) (C : Addr) (cl : List (Str × Addr)) : List (Str × Addr) := match own with | some x => (x, C + 1) :: cl | none => cl
noncomputable def withOwn (own : Option Str) (h : Heap) : Heap := match own with | some _ => h.push (cellObj none) | none => h
theorem compEnv_new {scope : Scope} {cl : List (Str × Addr)} {own : Option Str} {Q : Env → Shared → Prop}
    (hpc : ∀ h, pushCells h scope.names = withOwn own h) (hcf : ∀ C, cellsFrom (C + 1) scope.names cl = ownC own C cl)
    (h : Q { scope, locals := s.heap.objs.size, globals := env.globals, cells := ownC own s.heap.objs.size cl, qual := env.qual, func := none, code := env.code, frame := env.frame, builtins := env.builtins }
      { s with heap := withOwn own (s.heap.push { cls := .type "dict", data := .dict #[] }) }) :
    wpAny (model prg w) A (newFunctionEnv scope env.globals cl [] env.qual none .none (some env)) Q E s := by
  simp only [newFunctionEnv, Option.isSome_some, if_true]
  refine wpAny_bind (wpAny_alloc ?_)
  refine wpAny_bind (wpAny_layCells _ (fun name kind cells => by cases hkc : kind == NameKind.cell <;> simp [hkc]) _ _ _ _ ?_)
  rw [show ({ s with heap := s.heap.push { cls := .type "dict", data := .dict #[] } } : Shared).heap.objs.size = s.heap.objs.size + 1 from Heap.size_push ..]
  rw [hcf, hpc]
  exact wpAny_bind (wpAny_pure (wpAny_pure h))

theorem comp_new {elt target iter : PySem.Expr} {ifs : List PySem.Expr} {gs : List Comprehension} {scope : Scope} {pos : Pos} {cl : List (Str × Addr)} {tail : Value → Env → Sem Unit} {o : Obj} {fp : List Addr} {n : Nat} {P : Nat → Value → List (Addr × Obj) → Prop} {St : Nat → Heap → Prop} {Q : Value → Shared → Prop} {L : Addr} (own : Option Str)
    (J : Addr → Addr → Nat → (Str → Option Value) → List (Addr × Obj) → Prop)
    (hturn : ∀ it acc cenv, compTurn (.ListComp elt (⟨target, iter, ifs, 0⟩ :: gs) scope pos) 0 it acc cenv = compForm iter.pos target it ifs cenv (tail acc cenv) (.compLoop (.ListComp elt (⟨target, iter, ifs, 0⟩ :: gs) scope pos) 0 it acc cenv))
    (hpc : ∀ h, pushCells h scope.names = withOwn own h) (hcf : ∀ C, cellsFrom (C + 1) scope.names cl = ownC own C cl)
    (W : Iter prg w A target s.heap.objs.size fp n P St) (hst : ∀ h, (∀ b ob, (s.heap.push o).get? b = some ob → h.get? b = some ob) → St 0 h)
    (F : Fr h₀ L s.heap m) (N : News h₀ L s.heap news)
    (hfp : ∀ b ∈ fp, b ≠ s.heap.objs.size → (∃ o, s.heap.get? b = some o ∧ b ∉ news.map (·.1)) ∨ (∃ o, ∀ D C i m' n', J D C i m' n' → (b, o) ∈ n'))
    (hj : ∀ D C, J D C 0 (fun _ => none) ((D, listOf #[] 0) :: (ownL own C ++ news)))
    (turn : ∀ g I D C i v ex m₁ news₁ h tk oI, (∀ b o, h₀.get? b = some o → g.get? b = some o) → (∀ b o, s.heap.get? b = some o → b ∉ news.map (·.1) → g.get? b = some o) → (∀ p ∈ news, p.1 < I) → I < D → D < C →
      i < n → P i v ex → J D C i m₁ news₁ → Fr g C h m₁ → News g C h ((I, oI) :: (ex ++ news₁)) → (∀ p ∈ news₁, p.1 ≠ I) →
      wpAny (model prg w) A (assign target (compEnvC scope (ownC own C cl) C env) v) (fun _ s₂ => tested (prg := prg) (w := w) A (compEnvC scope (ownC own C cl) C env) ifs (tail (.ref D) (compEnvC scope (ownC own C cl) C env)) (LEnd g C I oI (J D C (i + 1)) { s with heap := h, toks := tk }) s₂) (fun _ _ => False) { s with heap := h, toks := tk })
    (done : ∀ D C m₁ news₁ h tk, J D C n m₁ news₁ → Fr h₀ L h m → News h₀ L h news₁ → Q (.ref D) { s with heap := h, toks := tk }) :
    wpAny (model prg w) A (newList []) (fun acc s₃ => wpAny (model prg w) A (newFunctionEnv scope env.globals cl [] env.qual none .none (some env)) (fun cenv s₄ =>
      codeAny (model prg w) A (.compStart (.ListComp elt (⟨target, iter, ifs, 0⟩ :: gs) scope pos) 0 (.ref s.heap.objs.size) acc { cenv with scope := relabel scope env }) (compPost (model prg w) A E none Q acc cenv.locals) s₄) E s₃) E { s with heap := s.heap.push o } := by
  refine wpAny_newObj_type (compEnv_new hpc hcf ?_)
  dsimp only
  have sz1 : (s.heap.push o).objs.size = s.heap.objs.size + 1 := Heap.size_push ..
  have sz2 : ((s.heap.push o).push { cls := .type "list", dict := none, data := .seq ([] : List Value).toArray }).objs.size = s.heap.objs.size + 1 + 1 := by rw [Heap.size_push, sz1]
  generalize hH : ((s.heap.push o).push { cls := .type "list", dict := none, data := .seq ([] : List Value).toArray }) = H at *
  rw [sz2, sz1]
  generalize hI : s.heap.objs.size = I at *
  generalize hD : I + 1 = D at *
  generalize hC : D + 1 = C at *
  have kI : @Eq Nat s.heap.objs.size I := hI
  have kD : @Eq Nat (I + 1) D := hD
  have kC : @Eq Nat (D + 1) C := hC
  have hHD : H.get? D = some (listOf #[] 0) := by rw [← hH, ← sz1]; exact Heap.get?_push_size _ rfl
  have hHo : ∀ b ob, s.heap.get? b = some ob → H.get? b = some ob := fun b ob e => by rw [← hH]; exact Heap.get?_push_of_some _ (Heap.get?_push_of_some _ e)
  have hHp : ∀ b ob, (s.heap.push o).get? b = some ob → H.get? b = some ob := fun b ob e => by rw [← hH]; exact Heap.get?_push_of_some _ e
  have hHC : (H.push { cls := .type "dict", data := .dict #[] }).Ns C (fun _ => none) := by rw [← sz2]; exact Heap.Ns.new H (.type "dict")
  -- the heap with the frame and the cell
  obtain ⟨H₂, hH₂, hns, hup, hcell⟩ : ∃ H₂ : Heap, withOwn own (H.push { cls := .type "dict", data := .dict #[] }) = H₂ ∧ H₂.Ns C (fun _ => none) ∧ (∀ b ob, H.get? b = some ob → H₂.get? b = some ob) ∧ (∀ p ∈ ownL own C, H₂.get? p.1 = some p.2) := by
    cases own with
    | none => exact ⟨_, rfl, hHC, fun b ob e => Heap.get?_push_of_some _ e, fun _ hp => (nomatch hp)⟩
    | some x =>
      refine ⟨_, rfl, hHC.keeps fun b ob e => Heap.get?_push_of_some _ e, fun b ob e => Heap.get?_push_of_some _ (Heap.get?_push_of_some _ e), fun p hp => ?_⟩
      rw [List.mem_singleton.mp hp]
      have : (H.push { cls := .type "dict", data := .dict #[] }).objs.size = C + 1 := by rw [Heap.size_push, sz2]
      show ((H.push { cls := .type "dict", data := .dict #[] }).push (cellObj none)).get? (C + 1) = _
      rw [← this]; exact Heap.get?_push_size _ rfl
  rw [hH₂]
  have nm : ∀ b ob, h₀.get? b = some ob → b ∉ news.map (·.1) := fun b ob e q => by
    obtain ⟨p, hp, rfl⟩ := List.mem_map.mp q
    rw [(N p hp).2.2] at e; cases e
  have st : ∀ b ob, h₀.get? b = some ob → (hideAll s.heap (news.map (·.1))).get? b = some ob := fun b ob e => hideAll_get _ (F.keep b ob e) (nm b ob e)
  have st' : ∀ b ob, s.heap.get? b = some ob → b ∉ news.map (·.1) → (hideAll s.heap (news.map (·.1))).get? b = some ob := fun b ob e q => hideAll_get _ e q
  have gsz : @Eq Nat (hideAll s.heap (news.map (·.1))).objs.size I := by rw [hideAll_size]; exact hI
  have gno : ∀ a, I ≤ a → (hideAll s.heap (news.map (·.1))).get? a = none := fun a ha => by
    cases q : (hideAll s.heap (news.map (·.1))).get? a with
    | none => rfl
    | some ob => exact absurd ha (Nat.not_le.mpr (gsz ▸ Heap.lt_size q))
  have nlt : ∀ p ∈ news, p.1 < I := fun p hp => kI ▸ Heap.lt_size (N p hp).1
  have hID : I < D := Nat.lt_of_lt_of_eq (Nat.lt_succ_self I) kD
  have hDC : D < C := Nat.lt_of_lt_of_eq (Nat.lt_succ_self D) kC
  have hIC : I < C := Nat.lt_trans hID hDC
  have FC : Fr (hideAll s.heap (news.map (·.1))) C H₂ (fun _ => none) := ⟨hns, fun b ob e => hup _ _ (hHo b ob (of_hideAll _ e)), by rw [gsz]; exact Nat.le_of_lt hIC⟩
  have NC : News (hideAll s.heap (news.map (·.1))) C H₂ ((D, listOf #[] 0) :: (ownL own C ++ news)) := by
    intro p hp
    rcases List.mem_cons.mp hp with rfl | hp
    · exact ⟨hup _ _ hHD, Nat.ne_of_lt hDC, gno _ (Nat.le_of_lt hID)⟩
    · rcases List.mem_append.mp hp with hp | hp
      · cases own with
        | none => exact (nomatch hp)
        | some x =>
          refine ⟨hcell p hp, ?_, gno _ ?_⟩ <;> rw [List.mem_singleton.mp hp]
          · exact Nat.succ_ne_self C
          · exact Nat.le_succ_of_le (Nat.le_of_lt hIC)
      · exact ⟨hup _ _ (hHo _ _ (N p hp).1), Nat.ne_of_lt (Nat.lt_trans (nlt p hp) hIC), hideAll_none _ (List.mem_map_of_mem hp)⟩
  have nI : ∀ p ∈ (D, listOf #[] 0) :: (ownL own C ++ news), p.1 ≠ I := by
    intro p hp
    rcases List.mem_cons.mp hp with rfl | hp
    · exact Nat.ne_of_gt hID
    · rcases List.mem_append.mp hp with hp | hp
      · cases own with
        | none => exact (nomatch hp)
        | some x => rw [List.mem_singleton.mp hp]; exact Nat.ne_of_gt (Nat.lt_succ_of_lt hIC)
      · exact Nat.ne_of_lt (nlt p hp)
  show codeAny (model prg w) A (.compStart (.ListComp elt (⟨target, iter, ifs, 0⟩ :: gs) scope pos) 0 (.ref I) (.ref D) (compEnvC scope (ownC own C cl) C env)) _ _
  have hst₂ : St 0 H₂ := hst H₂ fun b ob e => hup _ _ (hHp b ob e)
  refine comp_start (g := ⟨target, iter, ifs, 0⟩) rfl rfl (fun Q E hq => W.self 0 _ Q E hst₂ hq) ?_
  refine comp_walk (env := compEnvC scope (ownC own C cl) C env) (h₀ := hideAll s.heap (news.map (·.1))) (hturn _ _ _) W (J D C) (Nat.ne_of_gt hIC) (gno _ (Nat.le_refl _)) (fun b hb hbI => ?_) FC NC nI hst₂ (hj D C)
    (fun i v ex m₁ news₁ h tk oI hi hP hJ F' N' hn' => turn _ I D C i v ex m₁ news₁ h tk oI st st' nlt hID hDC hi hP hJ F' N' hn') (fun m₁ news₁ h tk hJ F' N' => ?_)
  · rcases hfp b hb hbI with ⟨ob, e, q⟩ | ⟨ob, q⟩
    · exact ⟨ob, fun i m' n' h' _ F' _ => F'.keep _ _ (st' b ob e q)⟩
    · exact ⟨ob, fun i m' n' h' hJ _ N' => N'.get (q D C i m' n' hJ)⟩
  · obtain ⟨oL, es, ep, hL, hr⟩ := id F.ns
    have hLI : L < I := kI ▸ Heap.lt_size hL
    have nL : L ∉ news.map (·.1) := fun q => by
      obtain ⟨p, hp, e⟩ := List.mem_map.mp q
      exact (N p hp).2.1 e
    have hLg := hideAll_get (news.map (·.1)) hL nL
    refine ⟨m₁, F'.ns, fun h' hs => done D C m₁ news₁ h' tk hJ ⟨⟨oL, es, ep, ?_, hr⟩, fun b ob e => ?_, F.above⟩ fun p hp => ⟨?_, fun q => ?_, ?_⟩⟩
    · exact hs.extBut L oL (Nat.ne_of_lt (Nat.lt_trans hLI hIC)) (F'.keep L oL hLg)
    · have hb : b ≠ C := Nat.ne_of_lt (Nat.lt_trans (kI ▸ Heap.lt_size (F.keep b ob e)) hIC)
      exact hs.extBut b ob hb (F'.keep b ob (st b ob e))
    · exact hs.extBut p.1 p.2 (N' p hp).2.1 (N' p hp).1
    · have := (N' p hp).2.2; rw [q, hLg] at this; cases this
    · cases q : h₀.get? p.1 with
      | none => rfl
      | some ob => have := (N' p hp).2.2; rw [st _ _ q] at this; cases this

noncomputable def appendTail (elt : PySem.Expr) (acc : Value) (cenv : Env) : Sem Unit := do let _ ← call (.builtin "list.append") [acc, ← eval elt cenv]
theorem tail_append {elt : PySem.Expr} {acc : Value} {P : Shared → Prop} (h : wpAny (model prg w) A (eval elt env) (fun x s₃ => wpAny (model prg w) A (call (.builtin "list.append") [acc, x]) (fun _ s₄ => P s₄) E s₃) E s) :
    wpAny (model prg w) A (appendTail elt acc env) (fun _ s' => P s') E s :=
  wpAny_bind (wpAny_mono h (fun _ s₃ h₃ => wpAny_bind (wpAny_mono h₃ (fun _ s₄ h₄ => wpAny_pure h₄) fun _ _ x => x)) fun _ _ x => x)
/-- a turn of a list comprehension: its tests, then its element laid at the list's end -/
noncomputable def turnGoal {prg : Program} {w : World} (A : Around) (env : Env) (ifs : List PySem.Expr) (elt : PySem.Expr) (D : Addr) (P : Shared → Prop) (s : Shared) : Prop :=
  match ifs with
  | [] => wpAny (model prg w) A (eval elt env) (fun x s₃ => wpAny (model prg w) A (call (.builtin "list.append") [.ref D, x]) (fun _ s₄ => P s₄) (fun _ _ => False) s₃) (fun _ _ => False) s
  | [c] => wpAny (model prg w) A (isTrue c env (eval c env)) (fun ok s' => if ok = true then wpAny (model prg w) A (eval elt env) (fun x s₃ => wpAny (model prg w) A (call (.builtin "list.append") [.ref D, x]) (fun _ s₄ => P s₄) (fun _ _ => False) s₃) (fun _ _ => False) s' else P s') (fun _ _ => False) s
  | _ => False
theorem consC {P : Addr × Obj → Prop} {a : Addr × Obj} {b : List (Addr × Obj)} (h : P a) (hb : ∀ q ∈ b, P q) : ∀ q ∈ a :: b, P q := List.forall_mem_cons.mpr ⟨h, hb⟩
theorem hideT {prg : Program} {w : World} {A : Around} {t : Sem Unit} {E : Value → Shared → Prop} {s : Shared} {env : Env} {ifs : List PySem.Expr} {elt : PySem.Expr} {D : Addr} {K : Shared → Prop}
    (h : ∀ P : Shared → Prop, (∀ s', K s' → P s') → wpAny (model prg w) A t (fun _ s₂ => turnGoal (prg := prg) (w := w) A env ifs elt D P s₂) E s) :
    wpAny (model prg w) A t (fun _ s₂ => turnGoal (prg := prg) (w := w) A env ifs elt D K s₂) E s := h K fun _ x => x
theorem turn_tested {ifs : List PySem.Expr} {elt : PySem.Expr} {D : Addr} {P : Shared → Prop} (h : turnGoal (prg := prg) (w := w) A env ifs elt D P s) : tested (prg := prg) (w := w) A env ifs (appendTail elt (.ref D) env) P s := by
  match ifs, h with
  | [], h => exact tail_append h
  | [c], h =>
    refine wpAny_mono h (fun ok s' h' => ?_) fun _ _ x => x
    cases ok with
    | false => exact h'
    | true => exact tail_append h'
theorem comp_str {x : Str} {px : Pos} {y : Str} {t : Tok} {elt iter : PySem.Expr} {ifs : List PySem.Expr} {scope : Scope} {pos : Pos} {cl : List (Str × Addr)} {Q : Value → Shared → Prop} {L : Addr} (own : Option Str)
    (J : Addr → Addr → Nat → (Str → Option Value) → List (Addr × Obj) → Prop) (hh : A.handled = none)
    (hpc : ∀ h, pushCells h scope.names = withOwn own h) (hcf : ∀ C, cellsFrom (C + 1) scope.names cl = ownC own C cl)
    (F : Fr h₀ L s.heap m) (N : News h₀ L s.heap news)
    (hj : ∀ D C, J D C 0 (fun _ => none) ((D, listOf #[] 0) :: (ownL own C ++ news)))
    (turn : ∀ g I D C i c u m₁ news₁ h tk oI, (∀ b o, h₀.get? b = some o → g.get? b = some o) → (∀ b o, s.heap.get? b = some o → b ∉ news.map (·.1) → g.get? b = some o) → (∀ p ∈ news, p.1 < I) → I < D → D < C →
      y.cps[i]? = some c → J D C i m₁ news₁ → Fr g C h m₁ → News g C h ((I, oI) :: news₁) → (∀ p ∈ news₁, p.1 ≠ I) →
      wpAny (model prg w) A (assign (.Name x px) (compEnvC scope (ownC own C cl) C env) (.str ⟨#[c]⟩ u)) (fun _ s₂ => turnGoal (prg := prg) (w := w) A (compEnvC scope (ownC own C cl) C env) ifs elt D (LEnd g C I oI (J D C (i + 1)) { s with heap := h, toks := tk }) s₂) (fun _ _ => False) { s with heap := h, toks := tk })
    (done : ∀ D C m₁ news₁ h tk, J D C y.cps.size m₁ news₁ → Fr h₀ L h m → News h₀ L h news₁ → Q (.ref D) { s with heap := h, toks := tk }) :
    wpAny (model prg w) A (pyIter (.str y t)) (fun it s₂ => wpAny (model prg w) A (newList []) (fun acc s₃ => wpAny (model prg w) A (newFunctionEnv scope env.globals cl [] env.qual none .none (some env)) (fun cenv s₄ =>
      codeAny (model prg w) A (.compStart (.ListComp elt [⟨.Name x px, iter, ifs, 0⟩] scope pos) 0 it acc { cenv with scope := relabel scope env }) (compPost (model prg w) A E none Q acc cenv.locals) s₄) E s₃) E s₂) E s := by
  have key : ∀ (T : String) (o : Obj), Walks prg w A s.heap.objs.size [s.heap.objs.size] [s.heap.objs.size] y.cps.size (SignAt y) (fun i h => h.IsStrIter s.heap.objs.size T y t i) → (s.heap.push o).IsStrIter s.heap.objs.size T y t 0 →
      wpAny (model prg w) A (newList []) (fun acc s₃ => wpAny (model prg w) A (newFunctionEnv scope env.globals cl [] env.qual none .none (some env)) (fun cenv s₄ =>
      codeAny (model prg w) A (.compStart (.ListComp elt [⟨.Name x px, iter, ifs, 0⟩] scope pos) 0 (.ref s.heap.objs.size) acc { cenv with scope := relabel scope env }) (compPost (model prg w) A E none Q acc cenv.locals) s₄) E s₃) E { s with heap := s.heap.push o } := by
    intro T o W' hst
    refine comp_new (tail := appendTail elt) own J (fun _ _ _ => rfl) hpc hcf (Iter.ofName W' fun i h st => let ⟨o, ho, _⟩ := st; ⟨o, ho⟩) (fun h hk => W'.frame 0 _ _ hst fun b _ o e => hk b o e) F N (fun b hb hbI => absurd (List.mem_singleton.mp hb) hbI) hj (fun g I D C i v ex m₁ news₁ h tk oI a1 a2 a3 a4 a5 hi hP hJ F' N' hn' => ?_) done
    obtain ⟨⟨c, u, hc, rfl⟩, rfl⟩ := hP
    exact wpAny_mono (turn g I D C i c u m₁ news₁ h tk oI a1 a2 a3 a4 a5 hc hJ F' N' hn') (fun _ _ x => turn_tested x) fun _ _ x => x
  cases ha : y.cps.all (· < 128)
  · exact wpAny_pyIter_wide ha (key _ _ (Walks.strWide hh _ y t) ⟨_, Heap.get?_push_size _ rfl, rfl, rfl⟩)
  · exact wpAny_pyIter_ascii ha (key _ _ (Walks.strAscii hh _ y t) ⟨_, Heap.get?_push_size _ rfl, rfl, rfl⟩)

theorem comp_listG {target : PySem.Expr} {l : Addr} {items : List Value} {elt iter : PySem.Expr} {ifs : List PySem.Expr} {scope : Scope} {pos : Pos} {cl : List (Str × Addr)} {Q : Value → Shared → Prop} {L : Addr} (own : Option Str)
    (J : Addr → Addr → Nat → (Str → Option Value) → List (Addr × Obj) → Prop) (hh : A.handled = none)
    (hpc : ∀ h, pushCells h scope.names = withOwn own h) (hcf : ∀ C, cellsFrom (C + 1) scope.names cl = ownC own C cl)
    (F : Fr h₀ L s.heap m) (N : News h₀ L s.heap news)
    (hl : s.heap.IsList l items.toArray)
    (hfp : (∃ o, s.heap.get? l = some o ∧ l ∉ news.map (·.1)) ∨ (∃ o, ∀ D C i m' n', J D C i m' n' → (l, o) ∈ n'))
    (hj : ∀ D C, J D C 0 (fun _ => none) ((D, listOf #[] 0) :: (ownL own C ++ news)))
    (turn : ∀ g I D C i v m₁ news₁ h tk oI, (∀ b o, h₀.get? b = some o → g.get? b = some o) → (∀ b o, s.heap.get? b = some o → b ∉ news.map (·.1) → g.get? b = some o) → (∀ p ∈ news, p.1 < I) → I < D → D < C →
      items[i]? = some v → J D C i m₁ news₁ → Fr g C h m₁ → News g C h ((I, oI) :: news₁) → (∀ p ∈ news₁, p.1 ≠ I) →
      wpAny (model prg w) A (assign target (compEnvC scope (ownC own C cl) C env) v) (fun _ s₂ => turnGoal (prg := prg) (w := w) A (compEnvC scope (ownC own C cl) C env) ifs elt D (LEnd g C I oI (J D C (i + 1)) { s with heap := h, toks := tk }) s₂) (fun _ _ => False) { s with heap := h, toks := tk })
    (done : ∀ D C m₁ news₁ h tk, J D C items.length m₁ news₁ → Fr h₀ L h m → News h₀ L h news₁ → Q (.ref D) { s with heap := h, toks := tk }) :
    wpAny (model prg w) A (pyIter (.ref l)) (fun it s₂ => wpAny (model prg w) A (newList []) (fun acc s₃ => wpAny (model prg w) A (newFunctionEnv scope env.globals cl [] env.qual none .none (some env)) (fun cenv s₄ =>
      codeAny (model prg w) A (.compStart (.ListComp elt [⟨target, iter, ifs, 0⟩] scope pos) 0 it acc { cenv with scope := relabel scope env }) (compPost (model prg w) A E none Q acc cenv.locals) s₄) E s₃) E s₂) E s := by
  refine wpAny_pyIter_list hl ?_
  obtain ⟨ol, hol, hr⟩ := id hl
  have hne : l ≠ s.heap.objs.size := Nat.ne_of_lt (Heap.lt_size hol)
  refine comp_new (tail := appendTail elt) own J (fun _ _ _ => rfl) hpc hcf (Iter.list hh s.heap.objs.size l hne items.toArray) (fun h hk => ⟨⟨_, hk _ _ (Heap.get?_push_size _ rfl), rfl, rfl⟩, hl.at fun o e => hk _ _ (Heap.get?_push_of_some _ e)⟩) F N (fun b hb hbI => ?_) hj (fun g I D C i v ex m₁ news₁ h tk oI a1 a2 a3 a4 a5 hi hP hJ F' N' hn' => ?_) (fun D C m₁ news₁ h tk hJ => done D C m₁ news₁ h tk (by simpa using hJ))
  · rcases List.mem_cons.mp hb with h | h
    · exact absurd h hbI
    · rw [List.mem_singleton.mp h]; exact hfp
  · obtain ⟨hv, rfl⟩ := hP
    exact wpAny_mono (turn g I D C i v m₁ news₁ h tk oI a1 a2 a3 a4 a5 (by simpa using hv) hJ F' N' hn') (fun _ _ x => turn_tested x) fun _ _ x => x
theorem comp_listN {target : PySem.Expr} {l : Addr} {items : List Value} {c₀ : Nat} {elt iter : PySem.Expr} {ifs : List PySem.Expr} {scope : Scope} {pos : Pos} {cl : List (Str × Addr)} {Q : Value → Shared → Prop} {L : Addr} (own : Option Str)
    (J : Addr → Addr → Nat → (Str → Option Value) → List (Addr × Obj) → Prop) (hh : A.handled = none)
    (hpc : ∀ h, pushCells h scope.names = withOwn own h) (hcf : ∀ C, cellsFrom (C + 1) scope.names cl = ownC own C cl)
    (F : Fr h₀ L s.heap m) (N : News h₀ L s.heap news)
    (hl : (l, listOf items.toArray c₀) ∈ news) (hm : ∀ D C i m' n', J D C i m' n' → (l, listOf items.toArray c₀) ∈ n')
    (hj : ∀ D C, J D C 0 (fun _ => none) ((D, listOf #[] 0) :: (ownL own C ++ news)))
    (turn : ∀ g I D C i v m₁ news₁ h tk oI, (∀ b o, h₀.get? b = some o → g.get? b = some o) → (∀ b o, s.heap.get? b = some o → b ∉ news.map (·.1) → g.get? b = some o) → (∀ p ∈ news, p.1 < I) → I < D → D < C →
      items[i]? = some v → J D C i m₁ news₁ → Fr g C h m₁ → News g C h ((I, oI) :: news₁) → (∀ p ∈ news₁, p.1 ≠ I) →
      wpAny (model prg w) A (assign target (compEnvC scope (ownC own C cl) C env) v) (fun _ s₂ => turnGoal (prg := prg) (w := w) A (compEnvC scope (ownC own C cl) C env) ifs elt D (LEnd g C I oI (J D C (i + 1)) { s with heap := h, toks := tk }) s₂) (fun _ _ => False) { s with heap := h, toks := tk })
    (done : ∀ D C m₁ news₁ h tk, J D C items.length m₁ news₁ → Fr h₀ L h m → News h₀ L h news₁ → Q (.ref D) { s with heap := h, toks := tk }) :
    wpAny (model prg w) A (pyIter (.ref l)) (fun it s₂ => wpAny (model prg w) A (newList []) (fun acc s₃ => wpAny (model prg w) A (newFunctionEnv scope env.globals cl [] env.qual none .none (some env)) (fun cenv s₄ =>
      codeAny (model prg w) A (.compStart (.ListComp elt [⟨target, iter, ifs, 0⟩] scope pos) 0 it acc { cenv with scope := relabel scope env }) (compPost (model prg w) A E none Q acc cenv.locals) s₄) E s₃) E s₂) E s :=
  comp_listG own J hh hpc hcf F N (News.isList N hl) (.inr ⟨_, hm⟩) hj turn done
theorem comp_listB {target : PySem.Expr} {l : Addr} {items : List Value} {elt iter : PySem.Expr} {ifs : List PySem.Expr} {scope : Scope} {pos : Pos} {cl : List (Str × Addr)} {Q : Value → Shared → Prop} {L : Addr} (own : Option Str)
    (J : Addr → Addr → Nat → (Str → Option Value) → List (Addr × Obj) → Prop) (hh : A.handled = none)
    (hpc : ∀ h, pushCells h scope.names = withOwn own h) (hcf : ∀ C, cellsFrom (C + 1) scope.names cl = ownC own C cl)
    (F : Fr h₀ L s.heap m) (N : News h₀ L s.heap news)
    (hl : h₀.IsList l items.toArray)
    (hj : ∀ D C, J D C 0 (fun _ => none) ((D, listOf #[] 0) :: (ownL own C ++ news)))
    (turn : ∀ g I D C i v m₁ news₁ h tk oI, (∀ b o, h₀.get? b = some o → g.get? b = some o) → (∀ b o, s.heap.get? b = some o → b ∉ news.map (·.1) → g.get? b = some o) → (∀ p ∈ news, p.1 < I) → I < D → D < C →
      items[i]? = some v → J D C i m₁ news₁ → Fr g C h m₁ → News g C h ((I, oI) :: news₁) → (∀ p ∈ news₁, p.1 ≠ I) →
      wpAny (model prg w) A (assign target (compEnvC scope (ownC own C cl) C env) v) (fun _ s₂ => turnGoal (prg := prg) (w := w) A (compEnvC scope (ownC own C cl) C env) ifs elt D (LEnd g C I oI (J D C (i + 1)) { s with heap := h, toks := tk }) s₂) (fun _ _ => False) { s with heap := h, toks := tk })
    (done : ∀ D C m₁ news₁ h tk, J D C items.length m₁ news₁ → Fr h₀ L h m → News h₀ L h news₁ → Q (.ref D) { s with heap := h, toks := tk }) :
    wpAny (model prg w) A (pyIter (.ref l)) (fun it s₂ => wpAny (model prg w) A (newList []) (fun acc s₃ => wpAny (model prg w) A (newFunctionEnv scope env.globals cl [] env.qual none .none (some env)) (fun cenv s₄ =>
      codeAny (model prg w) A (.compStart (.ListComp elt [⟨target, iter, ifs, 0⟩] scope pos) 0 it acc { cenv with scope := relabel scope env }) (compPost (model prg w) A E none Q acc cenv.locals) s₄) E s₃) E s₂) E s := by
  obtain ⟨ol, hol, hr⟩ := id hl
  exact comp_listG own J hh hpc hcf F N (hl.at fun o e => F.keep l o e) (.inl ⟨ol, F.keep _ _ hol, fun q => by
    obtain ⟨p, hp, e⟩ := List.mem_map.mp q
    have := (N p hp).2.2
    rw [e, hol] at this; cases this⟩) hj turn done
theorem comp_range {x : Str} {px : Pos} {r : Addr} {a b k : Int} {t u v : Tok} {n : Nat} {elt iter : PySem.Expr} {ifs : List PySem.Expr} {scope : Scope} {pos : Pos} {cl : List (Str × Addr)} {Q : Value → Shared → Prop} {L : Addr} (own : Option Str)
    (J : Addr → Addr → Nat → (Str → Option Value) → List (Addr × Obj) → Prop) (hh : A.handled = none)
    (hpc : ∀ h, pushCells h scope.names = withOwn own h) (hcf : ∀ C, cellsFrom (C + 1) scope.names cl = ownC own C cl)
    (F : Fr h₀ L s.heap m) (N : News h₀ L s.heap news)
    (hr : IsRange s.heap r a b k t u v) (hsmall : Builtin.Range.small a b k = true) (hn : Builtin.Range.rangeSize a b k = (n : Int))
    (hj : ∀ D C, J D C 0 (fun _ => none) ((D, listOf #[] 0) :: (ownL own C ++ news)))
    (turn : ∀ g I D C i t m₁ news₁ h tk oI, (∀ b o, h₀.get? b = some o → g.get? b = some o) → (∀ b o, s.heap.get? b = some o → b ∉ news.map (·.1) → g.get? b = some o) → (∀ p ∈ news, p.1 < I) → I < D → D < C →
      i < n → J D C i m₁ news₁ → Fr g C h m₁ → News g C h ((I, oI) :: news₁) → (∀ p ∈ news₁, p.1 ≠ I) →
      wpAny (model prg w) A (assign (.Name x px) (compEnvC scope (ownC own C cl) C env) (.int (a + i * k) t)) (fun _ s₂ => turnGoal (prg := prg) (w := w) A (compEnvC scope (ownC own C cl) C env) ifs elt D (LEnd g C I oI (J D C (i + 1)) { s with heap := h, toks := tk }) s₂) (fun _ _ => False) { s with heap := h, toks := tk })
    (done : ∀ D C m₁ news₁ h tk, J D C n m₁ news₁ → Fr h₀ L h m → News h₀ L h news₁ → Q (.ref D) { s with heap := h, toks := tk }) :
    wpAny (model prg w) A (pyIter (.ref r)) (fun it s₂ => wpAny (model prg w) A (newList []) (fun acc s₃ => wpAny (model prg w) A (newFunctionEnv scope env.globals cl [] env.qual none .none (some env)) (fun cenv s₄ =>
      codeAny (model prg w) A (.compStart (.ListComp elt [⟨.Name x px, iter, ifs, 0⟩] scope pos) 0 it acc { cenv with scope := relabel scope env }) (compPost (model prg w) A E none Q acc cenv.locals) s₄) E s₃) E s₂) E s := by
  refine wpAny_pyIter_range hr hsmall ?_
  refine comp_new (tail := appendTail elt) own J (fun _ _ _ => rfl) hpc hcf (Iter.range hh s.heap.objs.size a k n) (fun h hk => ?_) F N (fun b hb hbI => absurd (List.mem_singleton.mp hb) hbI) hj (fun g I D C i v ex m₁ news₁ h tk oI a1 a2 a3 a4 a5 hi hP hJ F' N' hn' => ?_) done
  · show h.get? _ = _
    rw [hk _ _ (Heap.get?_push_size _ rfl), hn]
    simp
  · obtain ⟨⟨t, rfl⟩, rfl⟩ := hP
    exact wpAny_mono (turn g I D C i t m₁ news₁ h tk oI a1 a2 a3 a4 a5 hi hJ F' N' hn') (fun _ _ x => turn_tested x) fun _ _ x => x

theorem app_list {D : Addr} {vs : List Value} {n : Nat} {v : Value} {L : Addr} {news' : List (Addr × Obj)} {Q : Value → Shared → Prop} (F : Fr h₀ L s.heap m) (N : News h₀ L s.heap news) (U : Upd D (listOf vs.toArray n) (listOf (vs ++ [v]).toArray (n + 1)) news news') (hsz : vs.length ≤ 100000)
    (h : ∀ h', Fr h₀ L h' m → News h₀ L h' news' → Q .none { s with heap := h' }) :
    wpAny (model prg w) A (call (.builtin "list.append") [.ref D, v]) Q E s := by
  rw [← List.push_toArray] at U
  exact append_K F N U h (by rw [List.size_toArray]; exact Nat.le_trans hsz (by decide))

/-- a while's turn ends: a smaller measure -/
noncomputable def WEnd (h₀ : Heap) (L : Addr) (J : Nat → (Str → Option Value) → List (Addr × Obj) → Prop) (k : Nat) (s₁ s₃ : Shared) : Prop :=
  ∃ k' h' tk m' news', k' < k ∧ s₃ = { s₁ with heap := h', toks := tk } ∧ Fr h₀ L h' m' ∧ News h₀ L h' news' ∧ J k' m' news'
noncomputable def WPost (h₀ : Heap) (L : Addr) (J : Nat → (Str → Option Value) → List (Addr × Obj) → Prop) (k : Nat) (s₁ : Shared) (Q : Flow → Shared → Prop) (f : Flow) (s₃ : Shared) : Prop :=
  match f with
  | .ret v => Q (.ret v) s₃
  | .brk => Q .next s₃
  | _ => WEnd h₀ L J k s₁ s₃
theorem WEnd.intro {L : Addr} {J : Nat → (Str → Option Value) → List (Addr × Obj) → Prop} {k : Nat} {s₁ : Shared} {h' : Heap} {tk : Nat} {m' : Str → Option Value} {news' : List (Addr × Obj)} (k' : Nat) (hk : k' < k) (F : Fr h₀ L h' m') (N : News h₀ L h' news') (hj : J k' m' news') : WEnd h₀ L J k s₁ { s₁ with heap := h', toks := tk } :=
  ⟨k', h', tk, m', news', hk, rfl, F, N, hj⟩
theorem while_walk {test : PySem.Expr} {body : List Stmt} {pos : Pos} {Q : Flow → Shared → Prop} (J : Nat → (Str → Option Value) → List (Addr × Obj) → Prop) (n : Nat) (F : Fr h₀ env.locals s.heap m) (N : News h₀ env.locals s.heap news) (hj : J n m news)
    (turn : ∀ k m₁ news₁ h tk, J k m₁ news₁ → Fr h₀ env.locals h m₁ → News h₀ env.locals h news₁ →
      wpAny (model prg w) A (isTrue test env (eval test env)) (fun b s₂ => if b then wpAny (model prg w) A (execs body env) (WPost h₀ env.locals J k { s with heap := h, toks := tk } Q) (fun _ _ => False) s₂ else Q .next s₂) (fun _ _ => False) { s with heap := h, toks := tk }) :
    wpAny (model prg w) A (exec (.While test body [] pos) env) Q E s := by
  refine wpAny_While (codeAny_whileLoop (fun k s' => ∃ h tk m' news', s' = { s with heap := h, toks := tk } ∧ Fr h₀ env.locals h m' ∧ News h₀ env.locals h news' ∧ J k m' news') (fun k s' hI => ?_) n ⟨s.heap, s.toks, m, news, rfl, F, N, hj⟩)
  obtain ⟨h, tk, m', news', rfl, F', N', hj'⟩ := hI
  refine wpAny_mono (turn k m' news' h tk hj' F' N') (fun b s₂ h₂ => ?_) fun _ _ x => x.elim
  cases b with
  | false => exact wpAny_execs_nil h₂
  | true =>
    refine wpAny_mono h₂ (fun f s₃ h₃ => ?_) fun _ _ x => x.elim
    have fin : WEnd h₀ env.locals J k { s with heap := h, toks := tk } s₃ → ∃ k', k' < k ∧ ∃ h tk m' news', s₃ = { s with heap := h, toks := tk } ∧ Fr h₀ env.locals h m' ∧ News h₀ env.locals h news' ∧ J k' m' news' := by
      rintro ⟨k', h', tk', m'', n'', hk, rfl, F'', N'', hj''⟩
      exact ⟨k', hk, h', tk', m'', n'', rfl, F'', N'', hj''⟩
    cases f with
    | next => exact fin h₃
    | cont => exact fin h₃
    | brk => exact h₃
    | ret v => exact h₃

theorem for_str {E' : Value → Shared → Prop} {x : Str} {px : Pos} {body : List Stmt} {Q : Flow → Shared → Prop} {y : Str} {t : Tok} (J : Nat → (Str → Option Value) → List (Addr × Obj) → Prop) (hh : A.handled = none)
    (F : Fr h₀ env.locals s.heap m) (N : News h₀ env.locals s.heap news)
    (hj : J 0 m news)
    (turn : ∀ I i c u m₁ news₁ h tk oI, I = s.heap.objs.size → y.cps[i]? = some c → J i m₁ news₁ → Fr h₀ env.locals h m₁ → News h₀ env.locals h ((I, oI) :: news₁) → (∀ p ∈ news₁, p.1 ≠ I) →
      wpAny (model prg w) A (assign (.Name x px) env (.str ⟨#[c]⟩ u)) (fun _ s₂ => wpAny (model prg w) A (execs body env) (LPost h₀ env.locals I oI (J (i + 1)) { s with heap := h, toks := tk } Q) (fun _ _ => False) s₂) (fun _ _ => False) { s with heap := h, toks := tk })
    (done : ∀ m₁ news₁ h tk, J y.cps.size m₁ news₁ → Fr h₀ env.locals h m₁ → News h₀ env.locals h news₁ → Q .next { s with heap := h, toks := tk }) :
    wpAny (model prg w) A (pyIter (.str y t)) (fun it s₂ => codeAny (model prg w) A (.forLoop (.Name x px) it body [] env) (fun r s' => match r with | .ok f => Q f s' | .error e => E' e s') s₂) E s := by
  have key : ∀ (T : String) (o : Obj), Walks prg w A s.heap.objs.size [s.heap.objs.size] [s.heap.objs.size] y.cps.size (SignAt y) (fun i h => h.IsStrIter s.heap.objs.size T y t i) → (s.heap.push o).IsStrIter s.heap.objs.size T y t 0 →
      codeAny (model prg w) A (.forLoop (.Name x px) (.ref s.heap.objs.size) body [] env) (fun r s' => match r with | .ok f => Q f s' | .error e => E' e s') { s with heap := s.heap.push o } := by
    intro T o W' hst
    refine for_new J (Iter.ofName W' fun i h st => let ⟨o, ho, _⟩ := st; ⟨o, ho⟩) F N hst (fun b hb hbI => absurd (List.mem_singleton.mp hb) hbI) hj (fun I i v ex m₁ news₁ h tk oI hI hi hP hj' F' N' hn' => ?_) done
    obtain ⟨⟨c, u, hc, rfl⟩, rfl⟩ := hP
    exact turn I i c u m₁ news₁ h tk oI hI hc hj' F' N' hn'
  cases ha : y.cps.all (· < 128)
  · exact wpAny_pyIter_wide ha (key _ _ (Walks.strWide hh _ y t) ⟨_, Heap.get?_push_size _ rfl, rfl, rfl⟩)
  · exact wpAny_pyIter_ascii ha (key _ _ (Walks.strAscii hh _ y t) ⟨_, Heap.get?_push_size _ rfl, rfl, rfl⟩)
end

end Comp
theorem fillA : PySem.Challenge.rw_xh0049_01 = PySem.Challenge.rw_xh0049_01 ∧ Mine.hd.heap_39 = Mine.hd.heap_39 := by k_fill; exact ⟨rfl, rfl⟩
section P1

noncomputable def swapAt (row : List Int) (p : Int × Int) : List Int := (row.set p.1.toNat (row.getD p.2.toNat 0)).set p.2.toNat (row.getD p.1.toNat 0)
noncomputable def plainStep (by' : Int) (row : List Int) (p : Int × Int) : List Int := if Int.fdiv (row.getD p.2.toNat 0) by' < Int.fdiv (row.getD p.1.toNat 0) by' then swapAt row p else row
theorem swapAt_length (row : List Int) (p : Int × Int) : (swapAt row p).length = row.length := by simp [swapAt]
theorem plainStep_length (b : Int) (row : List Int) (p : Int × Int) : (plainStep b row p).length = row.length := by unfold plainStep; split <;> simp [swapAt_length]

theorem plain_sum {w : World} {dp un : Nat} {fr : Option (List Env)} {gd : Option (List Code)} {s : Shared} {R : Result → Shared → Prop} {mg mb : Str → Option Value} {st wi : Addr} {ty : Tok} {by' : Int} {xs : List Value} {ns : List Int} {wr : List (Int × Int)}
   (X : (Mine.hd.heap_39 w.params).In s.heap) (T : TopRead Mine.hd.view_39 Mine.hd.lz mg mb s.heap) (hroom : dp + 2 < recursionLimit)
   (hst : s.heap.IsList st xs.toArray) (hxs : IntsAre xs ns) (hlen : ns.length = 4) (hwi : WiresAt s.heap wi wr) (hwr : WiresOk wr) (hby : by' = 1 ∨ by' = 2)
   (ret : ∀ h' tk D vs c, s.heap.StaysIn h' → h'.get? D = some (listOf vs.toArray c) → s.heap.get? D = none → IntsAre vs (wr.foldl (plainStep by') ns) → R (.ok (.ret (.ref D))) { s with heap := h', toks := tk }) :
   codeAny (model prog w) (Ar dp un fr gd) (.call (.ref 300) ⟨[.ref st, .ref wi, .int by' ty], []⟩) R s := by
  refine' enter (T.nolimit) (X 300 _ (by k_is)) rfl (codeRec_of X (by k_is)) (show dp < _ by (first | lia | omega)) (BindsTo.of_eq rfl) (locs rfl) (by decide) ?_
  intro h₁ tk F
  refine hideD fun fr zQ0 zR0 zP0 => ?_
  have N : News s.heap s.heap.objs.size h₁ [] := News.nil
  have hl4 : xs.length = 4 := by rw [← hlen]; exact hxs.length
  repeat walk1
  rename Fr _ _ _ _ => F1
  rename News _ _ _ _ => N1
  refine wpAny_For ?_
  walk1
  obtain ⟨ws, hws, hwl, hwa⟩ := hwi
  have hws' := hws.at fun o e => F1.keep _ o e
  rename_i D0 c0 _ _ _ 
  have hD0 : D0 < _ := Heap.lt_size (N1 _ (.head _)).1
  have hwi0 := hws.at fun o e => F1.keep _ o e
  obtain ⟨ow, how, _⟩ := id hws
  refine for_list (fun i m' n' => Off [Str.ofString "low", Str.ofString "high"] m' _ ∧ ∃ vs c, n' = [(D0, listOf vs.toArray c)] ∧ IntsAre vs ((wr.take i).foldl (plainStep by') ns)) rfl F1 N1 hws' ⟨ow, fun i m' n' h' _ F' _ => F'.keep _ _ how⟩ ⟨Off.refl, xs, c0, rfl, by simpa using hxs⟩ ?_ ?_
  · intro I i v m₁ news₁ h tk oI hI hv hJ F2 N2 hn2
    refine hideL fun zQ zP zC zR zB => ?_
    obtain ⟨hoff, vs, c, rfl, hvs⟩ := hJ
    rw [Off.ov hoff] at F2
    have hi : i < wr.length := by
      rcases Nat.lt_or_ge i ws.length with q | q
      · (first | lia | omega)
      · simp [q] at hv
    obtain ⟨p, hp⟩ : ∃ p, wr[i]? = some p := ⟨wr[i], by simp [hi]⟩
    obtain ⟨a, tl, th, ha, hta⟩ := hwa i p hp
    obtain rfl : v = .ref a := by
      have : ws[i]? = some v := by simpa using hv
      rw [ha] at this; exact (Option.some.inj this).symm
    obtain ⟨k1, k2, k3, k4, k5⟩ := hwr p (List.mem_of_getElem? hp)
    have hlv : ((wr.take i).foldl (plainStep by') ns).length = 4 := by rw [foldl_length (plainStep_length by'), hlen]
    dsimp only at F2 N2 hI ⊢
    have hDI := neN (hn2 _ (.head _))
    dsimp only at hDI
    clear hn2 hoff F1 N1 hv hws' hwi0
    refine unpackN_ F2 N2 (hta.keeps fun b o e => F2.keep b o e) rfl rfl rfl ?_
    intro h3 F3 N3
    clear F2 N2
    generalize hrow : (wr.take i).foldl (plainStep by') ns = row at *
    repeat' (first | (dsimp only; walk1) | walk1 | refine zP _ ?_ | refine zR0 _ _ ?_ | refine zP0 _ ?_ | refine zC _ ?_ | refine zR _ _ ?_ | refine zB _ ?_ | refine zE _ ?_ | fail "")
    all_goals (try (first | refine zP _ ?_ | dsimp only [LPost] | fail ""))
    all_goals (have hstep : (wr.take (i + 1)).foldl (plainStep by') ns = plainStep by' row p := by rw [List.take_add_one, hp]; simp [hrow])
    · refine LEnd.one (by assumption) (by assumption) (by k_mem) (List.mem_of_getElem? (i := 2) rfl) hDI ⟨Off.set (by decide) (Off.set (by decide) Off.of_ov), _, _, rfl, ?_⟩
      rw [hstep]; unfold plainStep; rw [if_pos (by assumption)]; assumption
    · refine LEnd.one (by assumption) (by assumption) (by k_mem) (List.mem_of_getElem? (i := 1) rfl) hDI ⟨Off.set (by decide) (Off.set (by decide) Off.of_ov), _, _, rfl, ?_⟩
      rw [hstep]; unfold plainStep; rw [if_neg (by assumption)]; assumption
  · intro m₁ news₁ h tk hJ F2 N2
    obtain ⟨hoff, vs, c, rfl, hvs⟩ := hJ
    rw [Off.ov hoff] at F2
    dsimp only at F2 N2 ⊢
    clear F1 N1
    rw [show ws.toArray.size = wr.length by simp [hwl], List.take_length] at hvs
    repeat' (first | (dsimp only; walk1) | walk1 | refine zP _ ?_ | refine zR0 _ _ ?_ | refine zP0 _ ?_ | refine zC _ ?_ | refine zR _ _ ?_ | refine zB _ ?_ | refine zE _ ?_ | fail "")
    try dsimp only
    exact ret _ _ D0 vs c F2.keep (N2 _ (.head _)).1 (N2 _ (.head _)).2.2 hvs

end P1
section P2

noncomputable def cmpF (a : Int) (x : Str) (b : Int) (y : Str) : Int := if a < b then -1 else if b < a then 1 else if x.cps.toList < y.cps.toList then -1 else if y.cps.toList < x.cps.toList then 1 else 0
theorem str_eq_of_not_lt {x y : Str} (h1 : ¬ x.cps.toList < y.cps.toList) (h2 : ¬ y.cps.toList < x.cps.toList) : x = y := by
  have : x.cps.toList = y.cps.toList := by
    exact List.le_antisymm (List.not_lt.mp h2) (List.not_lt.mp h1)
  cases x; cases y
  simp only [Str.mk.injEq]
  exact Array.toList_inj.mp this
theorem compare_sum {w : World} {dp un : Nat} {fr : Option (List Env)} {gd : Option (List Code)} {s : Shared} {R : Result → Shared → Prop} {mg mb : Str → Option Value} {h₀ : Heap}
   {x dx T T0 T1 lf rt : Addr} {hs : Int} {tk1 t1 t2 t3 t4 ta tb tx ty : Tok} {c1 c2 c3 : Nat} {a b : Int} {xs ys : Str}
   (C : Cx w mg mb h₀ s.heap [(x, instObj 45 dx), (dx, dictOf [⟨hs, .str (Str.ofString "comp_select_list") tk1, .ref T⟩] 1), (T, tupOf [.ref T0, .ref T1] c1), (T0, tupOf [.int 0 t1, .int 1 t2] c2), (T1, tupOf [.int 1 t3, .int 1 t4] c3)])
   (hl : IsTup h₀ lf [Value.int a ta, .str xs tx].toArray) (hr : IsTup h₀ rt [Value.int b tb, .str ys ty].toArray)
   (hroom : dp + 2 < recursionLimit)
   (ret : ∀ h' tk t, (∀ b o, s.heap.get? b = some o → h'.get? b = some o) → R (.ok (.ret (.int (cmpF a xs b ys) t))) { s with heap := h', toks := tk }) :
   codeAny (model prog w) (Ar dp un fr gd) (.call (.ref 42) ⟨[.ref x, .ref lf, .ref rt], []⟩) R s := by
  refine' enterH C (by k_is) (by k_is) (show dp < _ by (first | lia | omega)) (BindsTo.of_eq rfl) (locs rfl) (by decide) ?_
  intro g L h₁ tk G hst X T' F N hlt
  have hl' : IsTup g lf [Value.int a ta, .str xs tx].toArray := hl.keeps hst
  have hr' : IsTup g rt [Value.int b tb, .str ys ty].toArray := hr.keeps hst
  clear hl hr
  walk1
  refine wpAny_For ?_
  repeat' (first | (k_here; (with_reducible show wpAny _ _ (subscriptTail _ _ (Value.ref _) (Value.int _ _)) _ _ _); k_dflt (refine' sub_tupB ?k1 ?k2 ?k3 ?k4 ?k5 ?k6 ?_ ?k7; (case k1 => k_asm); (case k2 => k_asm); (case k3 => decide); (case k4 => decide); (case k5 => rfl); (case k6 => rfl); (case k7 => with_unfolding_all rfl); k_whole)) | (dsimp only; walk1) | walk1 | refine zP _ ?_ | refine zR0 _ _ ?_ | refine zP0 _ ?_ | refine zC _ ?_ | refine zR _ _ ?_ | refine zB _ ?_ | refine zE _ ?_ | fail "")
  rename Fr _ _ _ _ => F1
  rename News _ _ _ _ => N1
  refine for_tupleN (items := [.ref T0, .ref T1]) (c := c1) (fun i m' n' => Off [Str.ofString "index", Str.ofString "direction", Str.ofString "l", Str.ofString "r"] m' _ ∧ n' = _ ∧ (1 ≤ i → a = b) ∧ (2 ≤ i → xs = ys)) rfl F1 N1 (fun i m' n' hj => by rw [hj.2.1]; k_mem) ⟨Off.refl, rfl, fun h => by (first | lia | omega), fun h => by (first | lia | omega)⟩ ?_ ?_
  · intro I i v m₁ news₁ h tk oI hI hv hJ F2 N2 hn2
    refine hideL fun zQ zP zC zR zB => ?_
    obtain ⟨hoff, rfl, ha, hb⟩ := hJ
    rw [Off.ov hoff] at F2
    have hi : i = 0 ∨ i = 1 := by
      rcases Nat.lt_or_ge i 2 with q | q
      · (first | lia | omega)
      · simp [q] at hv
    dsimp only at F2 N2 hI ⊢
    clear F1 N1
    rcases hi with rfl | rfl
    · obtain rfl : v = .ref T0 := by simpa using hv.symm
      repeat' (first | (k_here; (with_reducible show wpAny _ _ (subscriptTail _ _ (Value.ref _) (Value.int _ _)) _ _ _); k_dflt (refine' sub_tupB ?k1 ?k2 ?k3 ?k4 ?k5 ?k6 ?_ ?k7; (case k1 => k_asm); (case k2 => k_asm); (case k3 => decide); (case k4 => decide); (case k5 => rfl); (case k6 => rfl); (case k7 => with_unfolding_all rfl); k_whole)) | (dsimp only; walk1) | walk1 | refine zP _ ?_ | refine zR0 _ _ ?_ | refine zP0 _ ?_ | refine zC _ ?_ | refine zR _ _ ?_ | refine zB _ ?_ | refine zE _ ?_ | fail "")
      all_goals (try (first | refine zP _ ?_ | dsimp only [LPost] | fail ""))
      · have e : cmpF a xs b ys = -1 := by unfold cmpF; rw [if_pos (by assumption)]
        exact e ▸ ret _ _ _ (G.stays (by assumption) (by assumption) (by k_sub))
      · have e : cmpF a xs b ys = 1 := by unfold cmpF; rw [if_neg (by assumption), if_pos (by assumption)]
        exact e ▸ ret _ _ _ (G.stays (by assumption) (by assumption) (by k_sub))
      · refine LEnd.intro _ (by assumption) (by assumption) (by k_mem) (by k_sub) hn2 ⟨?_, rfl, fun _ => by (first | lia | omega), fun h => by (first | lia | omega)⟩
        exact Off.set (by decide) (Off.set (by decide) (Off.set (by decide) (Off.set (by decide) Off.of_ov)))
    · obtain rfl : v = .ref T1 := by simpa using hv.symm
      have hab := ha (Nat.le_refl _)
      repeat' (first | (k_here; (with_reducible show wpAny _ _ (subscriptTail _ _ (Value.ref _) (Value.int _ _)) _ _ _); k_dflt (refine' sub_tupB ?k1 ?k2 ?k3 ?k4 ?k5 ?k6 ?_ ?k7; (case k1 => k_asm); (case k2 => k_asm); (case k3 => decide); (case k4 => decide); (case k5 => rfl); (case k6 => rfl); (case k7 => with_unfolding_all rfl); k_whole)) | (dsimp only; walk1) | walk1 | refine zP _ ?_ | refine zR0 _ _ ?_ | refine zP0 _ ?_ | refine zC _ ?_ | refine zR _ _ ?_ | refine zB _ ?_ | refine zE _ ?_ | fail "")
      all_goals (try (first | refine zP _ ?_ | dsimp only [LPost] | fail ""))
      · have e : cmpF a xs b ys = -1 := by unfold cmpF; rw [if_neg (by (first | lia | omega)), if_neg (by (first | lia | omega)), if_pos (by assumption)]
        exact e ▸ ret _ _ _ (G.stays (by assumption) (by assumption) (by k_sub))
      · have e : cmpF a xs b ys = 1 := by unfold cmpF; rw [if_neg (by (first | lia | omega)), if_neg (by (first | lia | omega)), if_neg (by assumption), if_pos (by assumption)]
        exact e ▸ ret _ _ _ (G.stays (by assumption) (by assumption) (by k_sub))
      · refine LEnd.intro _ (by assumption) (by assumption) (by k_mem) (by k_sub) hn2 ⟨?_, rfl, fun _ => hab, fun h => str_eq_of_not_lt (by assumption) (by assumption)⟩
        exact Off.set (by decide) (Off.set (by decide) (Off.set (by decide) (Off.set (by decide) Off.of_ov)))
  · intro m₁ news₁ h tk hJ F2 N2
    obtain ⟨hoff, rfl, ha, hb⟩ := hJ
    have hab := ha (by simp)
    have hxy := hb (by simp)
    dsimp only at F2 N2 ⊢
    clear F1 N1
    repeat' (first | (k_here; (with_reducible show wpAny _ _ (subscriptTail _ _ (Value.ref _) (Value.int _ _)) _ _ _); k_dflt (refine' sub_tupB ?k1 ?k2 ?k3 ?k4 ?k5 ?k6 ?_ ?k7; (case k1 => k_asm); (case k2 => k_asm); (case k3 => decide); (case k4 => decide); (case k5 => rfl); (case k6 => rfl); (case k7 => with_unfolding_all rfl); k_whole)) | (dsimp only; walk1) | walk1 | refine zP _ ?_ | refine zR0 _ _ ?_ | refine zP0 _ ?_ | refine zC _ ?_ | refine zR _ _ ?_ | refine zB _ ?_ | refine zE _ ?_ | fail "")
    try dsimp only
    have e : cmpF a xs b ys = 0 := by subst hxy; unfold cmpF; rw [if_neg (by (first | lia | omega)), if_neg (by (first | lia | omega)), if_neg (List.lt_irrefl _), if_neg (List.lt_irrefl _)]
    exact e ▸ ret _ _ _ (G.stays F2 N2 (by k_sub))

end P2
local macro_rules | `(tactic| k_enter) => `(tactic| refine stop ?_)
section P3

noncomputable def sortStep {α : Type} (d : α) (lt : α → α → Bool) (r : List α) (p : Int × Int) : List α := if lt (r.getD p.2.toNat d) (r.getD p.1.toNat d) then (r.set p.1.toNat (r.getD p.2.toNat d)).set p.2.toNat (r.getD p.1.toNat d) else r
theorem sortStep_length {α : Type} (d : α) (lt : α → α → Bool) (r : List α) (p : Int × Int) : (sortStep d lt r p).length = r.length := by unfold sortStep; split <;> simp

theorem sortStep_pos {α : Type} {d : α} {lt : α → α → Bool} {r : List α} {p : Int × Int} (h : lt (r.getD p.2.toNat d) (r.getD p.1.toNat d) = true) : sortStep d lt r p = (r.set p.1.toNat (r.getD p.2.toNat d)).set p.2.toNat (r.getD p.1.toNat d) := if_pos h
theorem sortStep_neg {α : Type} {d : α} {lt : α → α → Bool} {r : List α} {p : Int × Int} (h : lt (r.getD p.2.toNat d) (r.getD p.1.toNat d) = false) : sortStep d lt r p = r := if_neg (by rw [h]; exact Bool.false_ne_true)
theorem sortStep_mem {α : Type} {d : α} {lt : α → α → Bool} {P : α → Prop} (hd : P d) {r : List α} (p : Int × Int) (h : ∀ a ∈ r, P a) : ∀ a ∈ sortStep d lt r p, P a := by
  have g : ∀ k, P (r.getD k d) := fun k => by
    rw [List.getD_eq_getElem?_getD]
    cases q : r[k]? with
    | none => exact hd
    | some x => exact h x (List.mem_of_getElem? q)
  unfold sortStep
  split
  · intro a ha
    rcases List.mem_or_eq_of_mem_set ha with ha | rfl
    · rcases List.mem_or_eq_of_mem_set ha with ha | rfl
      · exact h a ha
      · exact g _
    · exact g _
  · exact h
theorem sort_mem {α : Type} {d : α} {lt : α → α → Bool} {P : α → Prop} (hd : P d) (wr : List (Int × Int)) {r : List α} (h : ∀ a ∈ r, P a) : ∀ a ∈ wr.foldl (sortStep d lt) r, P a := by
  induction wr generalizing r with
  | nil => exact h
  | cons p l ih => exact ih (sortStep_mem hd p h)
theorem sort_length {α : Type} (d : α) (lt : α → α → Bool) (wr : List (Int × Int)) (r : List α) : (wr.foldl (sortStep d lt) r).length = r.length := by
  induction wr generalizing r with
  | nil => rfl
  | cons p l ih => rw [List.foldl_cons, ih, sortStep_length]
theorem map_getD {α β : Type} (f : α → β) (r : List α) (d : α) {k : Nat} (h : k < r.length) : (r.map f)[k]? = some (f (r.getD k d)) := by
  rw [List.getElem?_map, List.getD_eq_getElem?_getD, List.getElem?_eq_getElem h]; rfl
theorem getD_lt {r : List Nat} {n k : Nat} (h : ∀ j ∈ r, j < n) (hn : 0 < n) : r.getD k 0 < n := by
  rw [List.getD_eq_getElem?_getD]
  cases q : r[k]? with
  | none => exact hn
  | some x => exact h x (List.mem_of_getElem? q)
theorem ne_head {D I : Addr} {o o' : Obj} {r : List (Addr × Obj)} (h : ∀ p ∈ (D, o) :: r, p.1 ≠ I) : ∀ p ∈ (D, o') :: r, p.1 ≠ I := fun p hp => by
  rcases List.mem_cons.mp hp with rfl | hp
  · exact h (D, o) (.head _)
  · exact h p (.tail _ hp)
theorem rows_sum {w : World} {dp un : Nat} {fr : Option (List Env)} {gd : Option (List Code)} {s : Shared} {R : Result → Shared → Prop} {mg mb : Str → Option Value} {st wi : Addr} {wr : List (Int × Int)} {rs : List Nat} {ad : Nat → Addr} {num : Nat → Int} {txt : Nat → Str}
   (X : (Mine.hd.heap_39 w.params).In s.heap) (T : TopRead Mine.hd.view_39 Mine.hd.lz mg mb s.heap) (hroom : dp + 6 < recursionLimit)
   (hst : s.heap.IsList st (rs.map fun j => Value.ref (ad j)).toArray) (hlen : rs.length = 4) (hr4 : ∀ j ∈ rs, j < 4) (hit : ∀ j, j < 4 → ∃ ta tx, IsTup s.heap (ad j) [Value.int (num j) ta, .str (txt j) tx].toArray) (hwi : WiresAt s.heap wi wr) (hwr : WiresOk wr)
   (ret : ∀ h' tk D c, (∀ b o, s.heap.get? b = some o → h'.get? b = some o) → h'.get? D = some (listOf ((wr.foldl (sortStep 0 fun a b => decide (cmpF (num a) (txt a) (num b) (txt b) < 0)) rs).map fun j => Value.ref (ad j)).toArray c) → s.heap.get? D = none → R (.ok (.ret (.ref D))) { s with heap := h', toks := tk }) :
   codeAny (model prog w) (Ar dp un fr gd) (.call (.ref 307) ⟨[.ref st, .ref wi], []⟩) R s := by
  refine' enter (T.nolimit) (X 307 _ (by k_is)) rfl (codeRec_of X (by k_is)) (show dp < _ by (first | lia | omega)) (BindsTo.of_eq rfl) (locs rfl) (by decide) ?_
  intro h₁ tk F
  refine hideD fun fr zQ0 zR0 zP0 => ?_
  have N : News s.heap s.heap.objs.size h₁ [] := News.nil
  have hl4 : (rs.map fun j => Value.ref (ad j)).length = 4 := by simpa using hlen
  repeat' (first | (k_here; (with_reducible show wpAny _ _ (call (Value.ref 42) [_, _, _] _) _ _ _); k_dflt (refine' wpAny_call (compare_sum (Cx.of ?k1 ?k2 ?k3 ?k4 ?k5) ?k6 ?k7 ?k8 ?k9); (case k1 => k_asm); (case k2 => k_asm); (case k3 => k_asm); (case k4 => k_asm); (case k5 => (repeat' first | exact List.forall_mem_nil _ | k_mem | refine List.forall_mem_cons.mpr ⟨?_, ?_⟩)); (case k6 => k_asm); (case k7 => k_asm); (case k8 => ((try simp only [depth_under_make, depth_under_kw, depth_in1, depth_deeper, depth_caller]); (try dsimp only [Ar]); (first | lia | omega)))); (intro h'Z tk'Z t'Z hk'Z; (rename Fr _ _ _ _ => fX); (rename News _ _ _ _ => nX); (replace fX := Fr.keeps fX hk'Z); (replace nX := News.keeps nX hk'Z); clear hk'Z)) | (k_here; (with_reducible show wpAny _ _ (setItem (Value.ref _) (Value.int _ _) (Value.ref _)) _ _ _); k_dflt (refine' set_list ?k1 ?k2 ?k3 ?k4 ?k5 ?k6 ?_; (case k1 => k_asm); (case k2 => k_asm); (case k3 => k_upd); (case k4 => (first | lia | omega)); (case k5 => (simp only [List.length_set, List.length_map]; (first | lia | omega))); (case k6 => (first | lia | omega)); k_whole); intro h'Z F'Z N'Z; (try k_sweep)) | (k_here; (with_reducible show wpAny _ _ (subscriptTail _ _ (Value.ref _) (Value.int _ _)) _ _ _); k_dflt (refine' sub_list ?k1 ?k2 ?k3 ?k4 ?k5 ?_ ?k7; (case k1 => k_asm); (case k2 => k_mem); (case k3 => (first | lia | omega)); (case k4 => (first | lia | omega)); (case k5 => assumption); (case k7 => with_unfolding_all rfl); k_whole)) | ((with_reducible show Stop (codeAny _ _ (Code.call (Value.ref 35) _) _ _)); refine unstop ?_; (refine' code_mine ?k1 ?k2 ?k3 ?k4 ?k6 ?k7 ?k8 ?k9 ?kB ?_ ?c2 ?c3 ?c4 ?c5; (case k1 => k_asm); (case k2 => k_asm); (case k3 => k_asm); (case k4 => k_asm); (case k6 => k_is); (case k7 => k_is); (case k8 => ((try simp only [depth_under_make, depth_under_kw, depth_in1, depth_deeper, depth_caller]); (first | lia | omega))); (case k9 => first | exact BindsTo.of_eq rfl | exact binds_K (by k_in) rfl (by k_is) rfl rfl rfl); (case kB => exact locs rfl); (case c2 => exact rfl); (case c3 => exact rfl); (case c4 => exact rfl); (case c5 => decide); k_whole; intro g'Z L'Z h'Z FG'Z F'Z N'Z X'Z T'Z; (try dsimp only))) | (dsimp only; walk1) | walk1 | refine zP _ ?_ | refine zR0 _ _ ?_ | refine zP0 _ ?_ | refine zC _ ?_ | refine zR _ _ ?_ | refine zB _ ?_ | refine zE _ ?_ | fail "")
  rename Fr _ _ _ _ => F1
  rename News _ _ _ _ => N1
  refine wpAny_For ?_
  walk1
  obtain ⟨ws, hws, hwl, hwa⟩ := hwi
  refine for_listB (items := ws) (fun i m' n' => Off [Str.ofString "low", Str.ofString "high"] m' _ ∧ ∃ vs c, n' = (_, listOf vs.toArray c) :: _ ∧ vs = ((wr.take i).foldl (sortStep 0 fun a b => decide (cmpF (num a) (txt a) (num b) (txt b) < 0)) rs).map fun j => Value.ref (ad j)) rfl F1 N1 hws ⟨Off.refl, _, _, rfl, rfl⟩ ?_ ?_
  · intro I i v m₁ news₁ h tk oI hI hv hJ F2 N2 hn2
    refine hideL fun zQ zP zC zR zB => ?_
    obtain ⟨hoff, _, c, rfl, rfl⟩ := hJ
    rw [Off.ov hoff] at F2
    have hi : i < wr.length := by
      rcases Nat.lt_or_ge i ws.length with q | q
      · (first | lia | omega)
      · simp [q] at hv
    obtain ⟨p, hp⟩ : ∃ p, wr[i]? = some p := ⟨wr[i], by simp [hi]⟩
    obtain ⟨a, tl, th, ha, hta⟩ := hwa i p hp
    obtain rfl : v = .ref a := by
      rw [ha] at hv; exact (Option.some.inj hv).symm
    obtain ⟨k1, k2, k3, k4, k5⟩ := hwr p (List.mem_of_getElem? hp)
    dsimp only at F2 N2 hI ⊢
    clear hoff F1 N1 hv
    refine unpackN_ F2 N2 (hta.keeps fun b o e => F2.keep b o e) rfl rfl rfl ?_
    intro h3 F3 N3
    clear F2 N2
    generalize hrow : (wr.take i).foldl (sortStep 0 fun a b => decide (cmpF (num a) (txt a) (num b) (txt b) < 0)) rs = row at *
    have hlr : row.length = 4 := by rw [← hrow, sort_length, hlen]
    have hr4' : ∀ j ∈ row, j < 4 := by rw [← hrow]; exact sort_mem (P := (· < 4)) (by decide) _ hr4
    have hx1 := map_getD (fun j => Value.ref (ad j)) row 0 (k := p.1.toNat) (by (first | lia | omega))
    have hx2 := map_getD (fun j => Value.ref (ad j)) row 0 (k := p.2.toNat) (by (first | lia | omega))
    have hDI := neN (hn2 _ (.head _))
    dsimp only at hDI
    have hstep : (wr.take (i + 1)).foldl (sortStep 0 fun a b => decide (cmpF (num a) (txt a) (num b) (txt b) < 0)) rs = sortStep 0 (fun a b => decide (cmpF (num a) (txt a) (num b) (txt b) < 0)) row p := by rw [List.take_add_one, hp]; simp [hrow]
    obtain ⟨ta1, tx1, ht1⟩ := hit (row.getD p.1.toNat 0) (getD_lt hr4' (by decide))
    obtain ⟨ta2, tx2, ht2⟩ := hit (row.getD p.2.toNat 0) (getD_lt hr4' (by decide))
    repeat' (first | (k_here; (with_reducible show wpAny _ _ (call (Value.ref 42) [_, _, _] _) _ _ _); k_dflt (refine' wpAny_call (compare_sum (Cx.of ?k1 ?k2 ?k3 ?k4 ?k5) ?k6 ?k7 ?k8 ?k9); (case k1 => k_asm); (case k2 => k_asm); (case k3 => k_asm); (case k4 => k_asm); (case k5 => (repeat' first | exact List.forall_mem_nil _ | k_mem | refine List.forall_mem_cons.mpr ⟨?_, ?_⟩)); (case k6 => k_asm); (case k7 => k_asm); (case k8 => ((try simp only [depth_under_make, depth_under_kw, depth_in1, depth_deeper, depth_caller]); (try dsimp only [Ar]); (first | lia | omega)))); (intro h'Z tk'Z t'Z hk'Z; (rename Fr _ _ _ _ => fX); (rename News _ _ _ _ => nX); (replace fX := Fr.keeps fX hk'Z); (replace nX := News.keeps nX hk'Z); clear hk'Z)) | (k_here; (with_reducible show wpAny _ _ (setItem (Value.ref _) (Value.int _ _) (Value.ref _)) _ _ _); k_dflt (refine' set_list ?k1 ?k2 ?k3 ?k4 ?k5 ?k6 ?_; (case k1 => k_asm); (case k2 => k_asm); (case k3 => k_upd); (case k4 => (first | lia | omega)); (case k5 => (simp only [List.length_set, List.length_map]; (first | lia | omega))); (case k6 => (first | lia | omega)); k_whole); intro h'Z F'Z N'Z; (try k_sweep)) | (k_here; (with_reducible show wpAny _ _ (subscriptTail _ _ (Value.ref _) (Value.int _ _)) _ _ _); k_dflt (refine' sub_list ?k1 ?k2 ?k3 ?k4 ?k5 ?_ ?k7; (case k1 => k_asm); (case k2 => k_mem); (case k3 => (first | lia | omega)); (case k4 => (first | lia | omega)); (case k5 => assumption); (case k7 => with_unfolding_all rfl); k_whole)) | ((with_reducible show Stop (codeAny _ _ (Code.call (Value.ref 35) _) _ _)); refine unstop ?_; (refine' code_mine ?k1 ?k2 ?k3 ?k4 ?k6 ?k7 ?k8 ?k9 ?kB ?_ ?c2 ?c3 ?c4 ?c5; (case k1 => k_asm); (case k2 => k_asm); (case k3 => k_asm); (case k4 => k_asm); (case k6 => k_is); (case k7 => k_is); (case k8 => ((try simp only [depth_under_make, depth_under_kw, depth_in1, depth_deeper, depth_caller]); (first | lia | omega))); (case k9 => first | exact BindsTo.of_eq rfl | exact binds_K (by k_in) rfl (by k_is) rfl rfl rfl); (case kB => exact locs rfl); (case c2 => exact rfl); (case c3 => exact rfl); (case c4 => exact rfl); (case c5 => decide); k_whole; intro g'Z L'Z h'Z FG'Z F'Z N'Z X'Z T'Z; (try dsimp only))) | (dsimp only; walk1) | walk1 | refine zP _ ?_ | refine zR0 _ _ ?_ | refine zP0 _ ?_ | refine zC _ ?_ | refine zR _ _ ?_ | refine zB _ ?_ | refine zE _ ?_ | fail "")
    all_goals (try (first | refine zP _ ?_ | dsimp only [LPost] | fail ""))
    · refine LEnd.intro _ (by assumption) (by assumption) (by k_mem) (fun p hp => .tail _ (.tail _ hp)) (ne_head hn2) ⟨Off.set (by decide) (Off.set (by decide) Off.of_ov), _, _, rfl, ?_⟩
      rw [hstep, sortStep_pos (decide_eq_true (by assumption))]
      simp only [List.map_set]
    · refine LEnd.intro _ (by assumption) (by assumption) (by k_mem) (fun p hp => .tail _ hp) (ne_head hn2) ⟨Off.set (by decide) (Off.set (by decide) Off.of_ov), _, _, rfl, ?_⟩
      rw [hstep, sortStep_neg (decide_eq_false (by assumption))]
  · intro m₁ news₁ h tk hJ F2 N2
    obtain ⟨hoff, _, c, rfl, rfl⟩ := hJ
    rw [Off.ov hoff] at F2
    dsimp only at F2 N2 ⊢
    clear F1 N1
    rw [hwl, List.take_length] at N2
    repeat' (first | (k_here; (with_reducible show wpAny _ _ (call (Value.ref 42) [_, _, _] _) _ _ _); k_dflt (refine' wpAny_call (compare_sum (Cx.of ?k1 ?k2 ?k3 ?k4 ?k5) ?k6 ?k7 ?k8 ?k9); (case k1 => k_asm); (case k2 => k_asm); (case k3 => k_asm); (case k4 => k_asm); (case k5 => (repeat' first | exact List.forall_mem_nil _ | k_mem | refine List.forall_mem_cons.mpr ⟨?_, ?_⟩)); (case k6 => k_asm); (case k7 => k_asm); (case k8 => ((try simp only [depth_under_make, depth_under_kw, depth_in1, depth_deeper, depth_caller]); (try dsimp only [Ar]); (first | lia | omega)))); (intro h'Z tk'Z t'Z hk'Z; (rename Fr _ _ _ _ => fX); (rename News _ _ _ _ => nX); (replace fX := Fr.keeps fX hk'Z); (replace nX := News.keeps nX hk'Z); clear hk'Z)) | (k_here; (with_reducible show wpAny _ _ (setItem (Value.ref _) (Value.int _ _) (Value.ref _)) _ _ _); k_dflt (refine' set_list ?k1 ?k2 ?k3 ?k4 ?k5 ?k6 ?_; (case k1 => k_asm); (case k2 => k_asm); (case k3 => k_upd); (case k4 => (first | lia | omega)); (case k5 => (simp only [List.length_set, List.length_map]; (first | lia | omega))); (case k6 => (first | lia | omega)); k_whole); intro h'Z F'Z N'Z; (try k_sweep)) | (k_here; (with_reducible show wpAny _ _ (subscriptTail _ _ (Value.ref _) (Value.int _ _)) _ _ _); k_dflt (refine' sub_list ?k1 ?k2 ?k3 ?k4 ?k5 ?_ ?k7; (case k1 => k_asm); (case k2 => k_mem); (case k3 => (first | lia | omega)); (case k4 => (first | lia | omega)); (case k5 => assumption); (case k7 => with_unfolding_all rfl); k_whole)) | ((with_reducible show Stop (codeAny _ _ (Code.call (Value.ref 35) _) _ _)); refine unstop ?_; (refine' code_mine ?k1 ?k2 ?k3 ?k4 ?k6 ?k7 ?k8 ?k9 ?kB ?_ ?c2 ?c3 ?c4 ?c5; (case k1 => k_asm); (case k2 => k_asm); (case k3 => k_asm); (case k4 => k_asm); (case k6 => k_is); (case k7 => k_is); (case k8 => ((try simp only [depth_under_make, depth_under_kw, depth_in1, depth_deeper, depth_caller]); (first | lia | omega))); (case k9 => first | exact BindsTo.of_eq rfl | exact binds_K (by k_in) rfl (by k_is) rfl rfl rfl); (case kB => exact locs rfl); (case c2 => exact rfl); (case c3 => exact rfl); (case c4 => exact rfl); (case c5 => decide); k_whole; intro g'Z L'Z h'Z FG'Z F'Z N'Z X'Z T'Z; (try dsimp only))) | (dsimp only; walk1) | walk1 | refine zP _ ?_ | refine zR0 _ _ ?_ | refine zP0 _ ?_ | refine zC _ ?_ | refine zR _ _ ?_ | refine zB _ ?_ | refine zE _ ?_ | fail "")
    try dsimp only
    exact ret _ _ _ c F2.keep (N2 _ (.head _)).1 (N2 _ (.head _)).2.2

end P3

theorem instAt_B {h₀ h : Heap} {L x dx C : Addr} {m : Str → Option Value} {od : Obj} (F : Fr h₀ L h m) (h1 : h₀.get? x = some (instObj C dx)) (h2 : h₀.get? dx = some od) : InstAt h x (instObj C dx) C (some od) := ⟨F.keep _ _ h1, rfl, rfl, F.keep _ _ h2⟩
theorem take_step {α β : Type} {f : β → α → β} {l : List α} {i : Nat} {p : α} {r row : β} (hp : l[i]? = some p) (hrow : (l.take i).foldl f r = row) : (l.take (i + 1)).foldl f r = f row p := by
  rw [List.take_add_one, hp]; simp [hrow]
local macro_rules | `(tactic| k_inst) => `(tactic| exact instAt_B (by k_asm) (by assumption) (by assumption))

theorem lt_sum {w : World} {dp un : Nat} {fr : Option (List Env)} {gd : Option (List Code)} {s : Shared} {R : Result → Shared → Prop} {mg mb : Str → Option Value}
   {x dx y dy : Addr} {hs hs' : Int} {t1 t2 t3 t4 : Tok} {xs ys : Str}
   (X : (Mine.hd.heap_39 w.params).In s.heap) (T : TopRead Mine.hd.view_39 Mine.hd.lz mg mb s.heap)
   (h1 : s.heap.get? x = some (instObj 235 dx)) (h2 : s.heap.get? dx = some (dictOf [⟨hs, .str (Str.ofString "text") t1, .str xs t2⟩] 1)) (h3 : s.heap.get? y = some (instObj 235 dy)) (h4 : s.heap.get? dy = some (dictOf [⟨hs', .str (Str.ofString "text") t3, .str ys t4⟩] 1))
   (hroom : dp + 2 < recursionLimit)
   (ret : ∀ h' tk, (∀ b o, s.heap.get? b = some o → h'.get? b = some o) → R (.ok (.ret (.bool (decide (xs.cps.toList < ys.cps.toList))))) { s with heap := h', toks := tk }) :
   codeAny (model prog w) (Ar dp un fr gd) (.call (.ref 211) ⟨[.ref x, .ref y], []⟩) R s := by
  refine' enter (T.nolimit) (X 211 _ (by k_is)) rfl (codeRec_of X (by k_is)) (show dp < _ by (first | lia | omega)) (BindsTo.of_eq rfl) (locs rfl) (by decide) ?_
  intro h₁ tk F
  refine hideD fun fr zQ0 zR0 zP0 => ?_
  have N : News s.heap s.heap.objs.size h₁ [] := News.nil
  repeat' (first | (dsimp only; walk1) | walk1 | refine zP _ ?_ | refine zR0 _ _ ?_ | refine zP0 _ ?_ | refine zC _ ?_ | refine zR _ _ ?_ | refine zB _ ?_ | refine zE _ ?_ | fail "")
  try dsimp only
  exact ret _ _ F.keep

/-- names: four instances of QName, by their places -/
noncomputable def NamesAt (h : Heap) (nm : Addr) (txt : Int → Str) : Prop :=
  ∃ (vn : List Value) (xa da : Int → Addr), h.IsList nm vn.toArray ∧ ∀ j : Int, 0 ≤ j → j < 4 → vn[j.toNat]? = some (Value.ref (xa j)) ∧ h.get? (xa j) = some (instObj 235 (da j)) ∧ ∃ (hs : Int) (t1 t2 : Tok), h.get? (da j) = some (dictOf [⟨hs, .str (Str.ofString "text") t1, .str (txt j) t2⟩] 1)
theorem getD_in {r : List Int} {k : Nat} (h : ∀ j ∈ r, 0 ≤ j ∧ j < 4) : 0 ≤ r.getD k 0 ∧ r.getD k 0 < 4 := by
  rw [List.getD_eq_getElem?_getD]
  cases q : r[k]? with
  | none => exact ⟨by decide, by decide⟩
  | some x => exact h x (List.mem_of_getElem? q)

theorem instAt_mk {h : Heap} {x dx C : Addr} {od : Obj} (h1 : h.get? x = some (instObj C dx)) (h2 : h.get? dx = some od) : InstAt h x (instObj C dx) C (some od) := ⟨h1, rfl, rfl, h2⟩

theorem lt_cmp {w : World} {dp un : Nat} {fr : Option (List Env)} {gd : Option (List Code)} {E : Value → Shared → Prop} {s : Shared} {Q : Value → Shared → Prop} {mg mb : Str → Option Value} {h₀ : Heap} {L : Addr} {m : Str → Option Value}
   {x dx y dy : Addr} {hs hs' : Int} {t1 t2 t3 t4 : Tok} {xs ys : Str} (F : Fr h₀ L s.heap m)
   (X : (Mine.hd.heap_39 w.params).In h₀) (T : TopRead Mine.hd.view_39 Mine.hd.lz mg mb h₀)
   (h1 : h₀.get? x = some (instObj 235 dx)) (h2 : h₀.get? dx = some (dictOf [⟨hs, .str (Str.ofString "text") t1, .str xs t2⟩] 1)) (h3 : h₀.get? y = some (instObj 235 dy)) (h4 : h₀.get? dy = some (dictOf [⟨hs', .str (Str.ofString "text") t3, .str ys t4⟩] 1))
   (hroom : dp + 2 < recursionLimit) (hun : un < cLine)
   (ret : ∀ h' tk, (∀ b o, s.heap.get? b = some o → h'.get? b = some o) → Q (.bool (decide (xs.cps.toList < ys.cps.toList))) { s with heap := h', toks := tk }) :
   wpAny (model prog w) (Ar dp un fr gd) (compareOp .Lt (.ref x) (.ref y)) Q E s := by
  refine cmp_ofLt (cmp_K (C := 235) (f := 211) (tb := .ref 235) hun F X (instAt_B F h1 h2) (InstAt.type (instAt_B F h3 h4)) (by k_is) (by k_is) (by k_is) ?_)
  refine wpAny_call (lt_sum (X.keeps F.keep) (T.keeps F.keep) (F.keep _ _ h1) (F.keep _ _ h2) (F.keep _ _ h3) (F.keep _ _ h4) hroom ?_)
  intro h' tk hk
  exact ret h' tk hk
theorem names_sum {w : World} {dp un : Nat} {fr : Option (List Env)} {gd : Option (List Code)} {s : Shared} {R : Result → Shared → Prop} {mg mb : Str → Option Value} {st wi nm : Addr} {wr : List (Int × Int)} {xs : List Value} {rs : List Int} {txt : Int → Str}
   (X : (Mine.hd.heap_39 w.params).In s.heap) (T : TopRead Mine.hd.view_39 Mine.hd.lz mg mb s.heap) (hroom : dp + 6 < recursionLimit) (hun : un + 20 < cLine)
   (hst : s.heap.IsList st xs.toArray) (hxs : IntsAre xs rs) (hlen : rs.length = 4) (hr4 : ∀ j ∈ rs, 0 ≤ j ∧ j < 4) (hnm : NamesAt s.heap nm txt) (hwi : WiresAt s.heap wi wr) (hwr : WiresOk wr)
   (ret : ∀ h' tk D vs c, (∀ b o, s.heap.get? b = some o → h'.get? b = some o) → h'.get? D = some (listOf vs.toArray c) → s.heap.get? D = none → IntsAre vs (wr.foldl (sortStep 0 fun a b => decide ((txt a).cps.toList < (txt b).cps.toList)) rs) → R (.ok (.ret (.ref D))) { s with heap := h', toks := tk }) :
   codeAny (model prog w) (Ar dp un fr gd) (.call (.ref 321) ⟨[.ref st, .ref wi, .ref nm], []⟩) R s := by
  refine' enter (T.nolimit) (X 321 _ (by k_is)) rfl (codeRec_of X (by k_is)) (show dp < _ by (first | lia | omega)) (BindsTo.of_eq rfl) (locs rfl) (by decide) ?_
  intro h₁ tk F
  refine hideD fun fr zQ0 zR0 zP0 => ?_
  have N : News s.heap s.heap.objs.size h₁ [] := News.nil
  have hl4 : xs.length = 4 := by rw [← hlen]; exact hxs.length
  repeat' (first | (k_here; (with_reducible show wpAny _ _ (compareOp CmpOp.Lt (Value.ref _) (Value.ref _)) _ _ _); k_dflt (refine' lt_cmp ?k1 ?k2 ?k3 ?k4 ?k5 ?k6 ?k7 ?k8 ?k9 ?_; (case k1 => k_asm); (case k2 => k_asm); (case k3 => k_asm); (case k4 => k_asm); (case k5 => k_asm); (case k6 => k_asm); (case k7 => k_asm); (case k8 => ((try simp only [depth_under_make, depth_under_kw, depth_in1, depth_deeper, depth_caller]); (try dsimp only [Ar]); (first | lia | omega))); (case k9 => ((try simp only [units_in1, units_deeper, Around.mark_units, units_caller]); (try dsimp only [Ar]); (first | lia | omega)))); intro h'Z tk'Z hk'Z; ((rename Fr _ _ _ _ => fX); (rename News _ _ _ _ => nX); (replace fX := Fr.keeps fX (by assumption)); (replace nX := News.keeps nX (by assumption)))) | (k_here; (with_reducible show wpAny _ _ (subscriptTail _ _ (Value.ref _) (Value.int _ _)) _ _ _); k_dflt (refine' sub_listB ?k1 ?k2 ?k3 ?k4 ?k5 ?_ ?k7; (case k1 => k_asm); (case k2 => k_asm); (case k3 => (first | lia | omega)); (case k4 => (first | lia | omega)); (case k5 => assumption); (case k7 => with_unfolding_all rfl); k_whole)) | (dsimp only; walk1) | walk1 | refine zP _ ?_ | refine zR0 _ _ ?_ | refine zP0 _ ?_ | refine zC _ ?_ | refine zR _ _ ?_ | refine zB _ ?_ | refine zE _ ?_ | fail "")
  rename Fr _ _ _ _ => F1
  rename News _ _ _ _ => N1
  refine wpAny_For ?_
  walk1
  obtain ⟨ws, hws, hwl, hwa⟩ := hwi
  obtain ⟨vn, xa, da, hvn, hna⟩ := hnm
  refine for_listB (items := ws) (fun i m' n' => Off [Str.ofString "low", Str.ofString "high"] m' _ ∧ ∃ vs c, n' = (_, listOf vs.toArray c) :: _ ∧ IntsAre vs ((wr.take i).foldl (sortStep 0 fun a b => decide ((txt a).cps.toList < (txt b).cps.toList)) rs)) rfl F1 N1 hws ⟨Off.refl, _, _, rfl, hxs⟩ ?_ ?_
  · intro I i v m₁ news₁ h tk oI hI hv hJ F2 N2 hn2
    refine hideL fun zQ zP zC zR zB => ?_
    obtain ⟨hoff, vs, c, rfl, hvs⟩ := hJ
    rw [Off.ov hoff] at F2
    have hi : i < wr.length := by
      rcases Nat.lt_or_ge i ws.length with q | q
      · (first | lia | omega)
      · simp [q] at hv
    obtain ⟨p, hp⟩ : ∃ p, wr[i]? = some p := ⟨wr[i], by simp [hi]⟩
    obtain ⟨a, tl, th, ha, hta⟩ := hwa i p hp
    obtain rfl : v = .ref a := by
      rw [ha] at hv; exact (Option.some.inj hv).symm
    obtain ⟨k1, k2, k3, k4, k5⟩ := hwr p (List.mem_of_getElem? hp)
    dsimp only at F2 N2 hI ⊢
    clear hoff F1 N1 hv
    refine unpackN_ F2 N2 (hta.keeps fun b o e => F2.keep b o e) rfl rfl rfl ?_
    intro h3 F3 N3
    clear F2 N2
    generalize hrow : (wr.take i).foldl (sortStep 0 fun a b => decide ((txt a).cps.toList < (txt b).cps.toList)) rs = row at *
    have hlr : row.length = 4 := by rw [← hrow, sort_length, hlen]
    have hr4' : ∀ j ∈ row, 0 ≤ j ∧ j < 4 := by rw [← hrow]; exact sort_mem (P := fun j => 0 ≤ j ∧ j < 4) ⟨by decide, by decide⟩ _ hr4
    have hDI := neN (hn2 _ (.head _))
    dsimp only at hDI
    have hstep : (wr.take (i + 1)).foldl (sortStep 0 fun a b => decide ((txt a).cps.toList < (txt b).cps.toList)) rs = sortStep 0 (fun a b => decide ((txt a).cps.toList < (txt b).cps.toList)) row p := take_step hp hrow
    obtain ⟨b1, b2⟩ := getD_in (k := p.1.toNat) hr4'
    obtain ⟨b3, b4⟩ := getD_in (k := p.2.toNat) hr4'
    obtain ⟨e1, e2, hs1, t11, t12, e3⟩ := hna _ b1 b2
    obtain ⟨f1, f2, hs2, t21, t22, f3⟩ := hna _ b3 b4
    repeat' (first | (k_here; (with_reducible show wpAny _ _ (compareOp CmpOp.Lt (Value.ref _) (Value.ref _)) _ _ _); k_dflt (refine' lt_cmp ?k1 ?k2 ?k3 ?k4 ?k5 ?k6 ?k7 ?k8 ?k9 ?_; (case k1 => k_asm); (case k2 => k_asm); (case k3 => k_asm); (case k4 => k_asm); (case k5 => k_asm); (case k6 => k_asm); (case k7 => k_asm); (case k8 => ((try simp only [depth_under_make, depth_under_kw, depth_in1, depth_deeper, depth_caller]); (try dsimp only [Ar]); (first | lia | omega))); (case k9 => ((try simp only [units_in1, units_deeper, Around.mark_units, units_caller]); (try dsimp only [Ar]); (first | lia | omega)))); intro h'Z tk'Z hk'Z; ((rename Fr _ _ _ _ => fX); (rename News _ _ _ _ => nX); (replace fX := Fr.keeps fX (by assumption)); (replace nX := News.keeps nX (by assumption)))) | (k_here; (with_reducible show wpAny _ _ (subscriptTail _ _ (Value.ref _) (Value.int _ _)) _ _ _); k_dflt (refine' sub_listB ?k1 ?k2 ?k3 ?k4 ?k5 ?_ ?k7; (case k1 => k_asm); (case k2 => k_asm); (case k3 => (first | lia | omega)); (case k4 => (first | lia | omega)); (case k5 => assumption); (case k7 => with_unfolding_all rfl); k_whole)) | (dsimp only; walk1) | walk1 | refine zP _ ?_ | refine zR0 _ _ ?_ | refine zP0 _ ?_ | refine zC _ ?_ | refine zR _ _ ?_ | refine zB _ ?_ | refine zE _ ?_ | fail "")
    all_goals (try (first | refine zP _ ?_ | dsimp only [LPost] | fail ""))
    · refine LEnd.intro _ (by assumption) (by assumption) (by k_mem) (fun p hp => .tail _ (.tail _ hp)) (ne_head hn2) ⟨Off.set (by decide) (Off.set (by decide) Off.of_ov), _, _, rfl, ?_⟩
      rw [hstep, sortStep_pos (decide_eq_true (by assumption))]
      assumption
    · refine LEnd.intro _ (by assumption) (by assumption) (by k_mem) (fun p hp => .tail _ hp) (ne_head hn2) ⟨Off.set (by decide) (Off.set (by decide) Off.of_ov), _, _, rfl, ?_⟩
      rw [hstep, sortStep_neg (decide_eq_false (by assumption))]
      assumption
  · intro m₁ news₁ h tk hJ F2 N2
    obtain ⟨hoff, vs, c, rfl, hvs⟩ := hJ
    rw [Off.ov hoff] at F2
    dsimp only at F2 N2 ⊢
    clear F1 N1
    rw [hwl, List.take_length] at hvs
    repeat' (first | (k_here; (with_reducible show wpAny _ _ (compareOp CmpOp.Lt (Value.ref _) (Value.ref _)) _ _ _); k_dflt (refine' lt_cmp ?k1 ?k2 ?k3 ?k4 ?k5 ?k6 ?k7 ?k8 ?k9 ?_; (case k1 => k_asm); (case k2 => k_asm); (case k3 => k_asm); (case k4 => k_asm); (case k5 => k_asm); (case k6 => k_asm); (case k7 => k_asm); (case k8 => ((try simp only [depth_under_make, depth_under_kw, depth_in1, depth_deeper, depth_caller]); (try dsimp only [Ar]); (first | lia | omega))); (case k9 => ((try simp only [units_in1, units_deeper, Around.mark_units, units_caller]); (try dsimp only [Ar]); (first | lia | omega)))); intro h'Z tk'Z hk'Z; ((rename Fr _ _ _ _ => fX); (rename News _ _ _ _ => nX); (replace fX := Fr.keeps fX (by assumption)); (replace nX := News.keeps nX (by assumption)))) | (k_here; (with_reducible show wpAny _ _ (subscriptTail _ _ (Value.ref _) (Value.int _ _)) _ _ _); k_dflt (refine' sub_listB ?k1 ?k2 ?k3 ?k4 ?k5 ?_ ?k7; (case k1 => k_asm); (case k2 => k_asm); (case k3 => (first | lia | omega)); (case k4 => (first | lia | omega)); (case k5 => assumption); (case k7 => with_unfolding_all rfl); k_whole)) | (dsimp only; walk1) | walk1 | refine zP _ ?_ | refine zR0 _ _ ?_ | refine zP0 _ ?_ | refine zC _ ?_ | refine zR _ _ ?_ | refine zB _ ?_ | refine zE _ ?_ | fail "")
    try dsimp only
    exact ret _ _ _ vs c F2.keep (N2 _ (.head _)).1 (N2 _ (.head _)).2.2 hvs

section P5

local macro_rules | `(tactic| walk_at "exec For Name Call cons nil") => `(tactic| with_unfolding_all refine wpAny_For ?_)
noncomputable abbrev wsDict (h1 h2 h3 h4 h5 : Int) (k1 k2 k3 k4 k5 tw tn tnt : Tok) (ws : Str) (n nt : Int) (nm : Addr) (sm : Bool) : Obj :=
  dictOf [⟨h1, .str (Str.ofString "raw") k1, .str ws tw⟩, ⟨h2, .str (Str.ofString "n") k2, .int n tn⟩, ⟨h3, .str (Str.ofString "nt") k3, .int nt tnt⟩, ⟨h4, .str (Str.ofString "norm") k4, .ref nm⟩, ⟨h5, .str (Str.ofString "is_simple") k5, .bool sm⟩] 5

noncomputable def indF (ts nt : Int) (cnt : List Int) (b : Int) : Int := b + ts * ((if ts = 2 ∧ cnt.length = 3 then cnt.getD 2 0 else 0) + nt)

section
variable {prog : Program} {w : World} {A : Around} {E : Value → Shared → Prop} {s : Shared} {h₀ : Heap} {L D : Addr} {m : Str → Option Value} {vs : List Value} {ns : List Int} {k : Int} {u : Tok}
theorem len_tupB {Q : Value → Shared → Prop} (F : Fr h₀ L s.heap m) (hl : IsTup h₀ D vs.toArray) (hi : IntsAre vs ns) (hfit : ns.length < 2 ^ 62) (h : Q (.int (ns.length : Nat) (s.toks + 1)) { s with toks := s.toks + 1 + 1 }) :
    wpAny (model prog w) A (call (.builtin "len") [.ref D]) Q E s := by
  have e : vs.toArray.size = ns.length := by simp [hi.length]
  refine PyProof.Rows.len_tuple (hl.keeps F.keep) (by (first | lia | omega)) ?_
  rw [e]; exact h
theorem sub_tupIB {value slice : PySem.Expr} {Q : Value → Shared → Prop} (F : Fr h₀ L s.heap m) (hl : IsTup h₀ D vs.toArray) (hi : IntsAre vs ns) (h0 : 0 ≤ k) (h1 : k < ns.length) (hfit : k < 2 ^ 63) (h : ∀ t, Q (.int (ns.getD k.toNat 0) t) s)
    (hs : subscripted slice false (.ref D) (.int k u) = operate [.ref D, .int k u] (getItem (.ref D) (.int k u)) := by with_unfolding_all rfl) :
    wpAny (model prog w) A (subscriptTail value slice (.ref D) (.int k u)) Q E s := by
  obtain ⟨t, hx⟩ := hi.get k.toNat _ (ints_getD h0 h1)
  have e : vs.length = ns.length := hi.length
  refine item_tupleT (hl.keeps F.keep) (by omega) hfit (j := k.toNat) ?_ hx (h t) hs
  unfold seqIndex?
  first
    | (rw [if_pos (by omega)])
    | (simp; omega)
end
theorem longest_sum {w : World} {dp un : Nat} {fr : Option (List Env)} {gd : Option (List Code)} {s : Shared} {R : Result → Shared → Prop} {mg mb : Str → Option Value}
   {x dx nm ct : Addr} {h1 h2 h3 h4 h5 : Int} {k1 k2 k3 k4 k5 tw tn tnt tb : Tok} {ws : Str} {n nt b : Int} {sm : Bool} {cvs : List Value} {cnt : List Int}
   (X : (Mine.hd.heap_39 w.params).In s.heap) (T : TopRead Mine.hd.view_39 Mine.hd.lz mg mb s.heap)
   (hx : s.heap.get? x = some (instObj 157 dx)) (hdx : s.heap.get? dx = some (wsDict h1 h2 h3 h4 h5 k1 k2 k3 k4 k5 tw tn tnt ws n nt nm sm)) (hnm : IsTup s.heap nm [Value.ref ct, .int b tb].toArray) (hct : IsTup s.heap ct cvs.toArray) (hc : IntsAre cvs cnt) (hlen : cnt.length ≤ 3) (hb : 0 ≤ b ∧ b < 10)
   (hroom : dp + 2 < recursionLimit) (hun : un + 20 < cLine)
   (ret : ∀ h' tk r t, (∀ b o, s.heap.get? b = some o → h'.get? b = some o) → r = max ((cnt.length : Int) - 1) b → R (.ok (.ret (.int r t))) { s with heap := h', toks := tk }) :
   codeAny (model prog w) (Ar dp un fr gd) (.call (.ref 119) ⟨[.ref x], []⟩) R s := by
  refine' enter (T.nolimit) (X 119 _ (by k_is)) rfl (codeRec_of X (by k_is)) (show dp < _ by (first | lia | omega)) (BindsTo.of_eq rfl) (locs rfl) (by decide) ?_
  intro h₁ tk F
  refine hideD fun fr zQ0 zR0 zP0 => ?_
  have N : News s.heap s.heap.objs.size h₁ [] := News.nil
  have hcl := hc.length
  repeat' (first | (k_here; (with_reducible show wpAny _ _ (subscriptTail _ _ (Value.ref _) (Value.int _ _)) _ _ _); k_dflt (refine' sub_tupIB ?k1 ?k2 ?k3 ?k4 ?k5 ?k6 ?_ ?k7; (case k1 => k_asm); (case k2 => k_asm); (case k3 => k_asm); (case k4 => (first | lia | omega)); (case k5 => (first | lia | omega)); (case k6 => (first | lia | omega)); (case k7 => with_unfolding_all rfl); k_whole); intro _) | (k_here; (with_reducible show wpAny _ _ (call (Value.builtin "len") [Value.ref _]) _ _ _); k_dflt (refine' len_tupB ?k1 ?k2 ?k3 ?k4 ?_; (case k1 => k_asm); (case k2 => k_asm); (case k3 => k_asm); (case k4 => (first | lia | omega)); k_whole)) | walk1 | (dsimp only; walk1) | refine zP _ ?_ | refine zR0 _ _ ?_ | refine zP0 _ ?_ | refine zC _ ?_ | refine zR _ _ ?_ | refine zB _ ?_ | refine zE _ ?_ | fail "")
  exact ret _ _ _ _ (Fr.keep (by assumption)) (by split <;> (first | lia | omega))

theorem indent_sum {w : World} {dp un : Nat} {fr : Option (List Env)} {gd : Option (List Code)} {s : Shared} {R : Result → Shared → Prop} {mg mb : Str → Option Value}
   {x dx nm ct : Addr} {h1 h2 h3 h4 h5 : Int} {k1 k2 k3 k4 k5 tw tn tnt tb tt : Tok} {ws : Str} {n nt b ts : Int} {sm : Bool} {cvs : List Value} {cnt : List Int}
   (X : (Mine.hd.heap_39 w.params).In s.heap) (T : TopRead Mine.hd.view_39 Mine.hd.lz mg mb s.heap)
   (hx : s.heap.get? x = some (instObj 157 dx)) (hdx : s.heap.get? dx = some (wsDict h1 h2 h3 h4 h5 k1 k2 k3 k4 k5 tw tn tnt ws n nt nm sm)) (hnm : IsTup s.heap nm [Value.ref ct, .int b tb].toArray) (hct : IsTup s.heap ct cvs.toArray) (hc : IntsAre cvs cnt) (hlen : cnt.length ≤ 3) (hb : 0 ≤ b ∧ b < 10)
   (hcb : ∀ c ∈ cnt, 0 ≤ c ∧ c < 10) (hnt : 0 ≤ nt ∧ nt < 10) (hts : ts = 2 ∨ ts = 3)
   (hroom : dp + 2 < recursionLimit) (hun : un + 20 < cLine)
   (ret : ∀ h' tk r t, (∀ b o, s.heap.get? b = some o → h'.get? b = some o) → r = indF ts nt cnt b → R (.ok (.ret (.int r t))) { s with heap := h', toks := tk }) :
   codeAny (model prog w) (Ar dp un fr gd) (.call (.ref 126) ⟨[.ref x, .int ts tt], []⟩) R s := by
  refine' enter (T.nolimit) (X 126 _ (by k_is)) rfl (codeRec_of X (by k_is)) (show dp < _ by (first | lia | omega)) (BindsTo.of_eq rfl) (locs rfl) (by decide) ?_
  intro h₁ tk F
  refine hideD fun fr zQ0 zR0 zP0 => ?_
  have N : News s.heap s.heap.objs.size h₁ [] := News.nil
  have hcl := hc.length
  repeat' (first | (k_here; (with_reducible show wpAny _ _ (subscriptTail _ _ (Value.ref _) (Value.int _ _)) _ _ _); k_dflt (refine' sub_tupIB ?k1 ?k2 ?k3 ?k4 ?k5 ?k6 ?_ ?k7; (case k1 => k_asm); (case k2 => k_asm); (case k3 => k_asm); (case k4 => (first | lia | omega)); (case k5 => (first | lia | omega)); (case k6 => (first | lia | omega)); (case k7 => with_unfolding_all rfl); k_whole); intro _) | (k_here; (with_reducible show wpAny _ _ (call (Value.builtin "len") [Value.ref _]) _ _ _); k_dflt (refine' len_tupB ?k1 ?k2 ?k3 ?k4 ?_; (case k1 => k_asm); (case k2 => k_asm); (case k3 => k_asm); (case k4 => (first | lia | omega)); k_whole)) | walk1 | (dsimp only; walk1) | refine zP _ ?_ | refine zR0 _ _ ?_ | refine zP0 _ ?_ | refine zC _ ?_ | refine zR _ _ ?_ | refine zB _ ?_ | refine zE _ ?_ | fail "")
  rename Fr _ _ _ _ => F1
  rename News _ _ _ _ => N1
  rename IsRange _ _ _ _ _ _ _ _ => R1
  have hn1 : ((cnt.length : Int) - ts).toNat ≤ 1 := by (first | lia | omega)
  refine for_range (n := ((cnt.length : Int) - ts).toNat) (fun i m' n' => Off [Str.ofString "il", Str.ofString "i"] m' _ ∧ n' = _ ∧ ∃ t, m' (Str.ofString "il") = some (.int (if i = 0 then 0 else cnt.getD 2 0) t)) rfl F1 N1 R1 (small_one (by l_bnd) (by l_bnd) (by l_bnd) (by l_bnd)) (rangeSize_nat _ _) ⟨Off.refl, rfl, _, rfl⟩ ?_ ?_
  · intro I i t m₁ news₁ h tk oI hI hi hJ F2 N2 hn2
    refine hideL fun zQ zP zC zR zB => ?_
    obtain ⟨hoff, rfl, til, hil⟩ := hJ
    rw [Off.ov hoff, ov_pin hil] at F2
    dsimp only at F2 N2 hI ⊢
    clear F1 N1
    obtain rfl : i = 0 := by (first | lia | omega)
    obtain rfl : ts = 2 := by (first | lia | omega)
    have hk : (2 : Int) + ((0 : Nat) : Int) * 1 = 2 := rfl
    rw [hk]
    have hc2 := hcb (cnt.getD 2 0) (by rw [List.getD_eq_getElem?_getD, List.getElem?_eq_getElem (show 2 < cnt.length by (first | lia | omega))]; exact List.getElem_mem _)
    repeat' (first | (k_here; (with_reducible show wpAny _ _ (subscriptTail _ _ (Value.ref _) (Value.int _ _)) _ _ _); k_dflt (refine' sub_tupIB ?k1 ?k2 ?k3 ?k4 ?k5 ?k6 ?_ ?k7; (case k1 => k_asm); (case k2 => k_asm); (case k3 => k_asm); (case k4 => (first | lia | omega)); (case k5 => (first | lia | omega)); (case k6 => (first | lia | omega)); (case k7 => with_unfolding_all rfl); k_whole); intro _) | (k_here; (with_reducible show wpAny _ _ (call (Value.builtin "len") [Value.ref _]) _ _ _); k_dflt (refine' len_tupB ?k1 ?k2 ?k3 ?k4 ?_; (case k1 => k_asm); (case k2 => k_asm); (case k3 => k_asm); (case k4 => (first | lia | omega)); k_whole)) | walk1 | (dsimp only; walk1) | refine zP _ ?_ | refine zR0 _ _ ?_ | refine zP0 _ ?_ | refine zC _ ?_ | refine zR _ _ ?_ | refine zB _ ?_ | refine zE _ ?_ | fail "")
    all_goals (try (first | refine zP _ ?_ | dsimp only [LPost] | fail ""))
    refine LEnd.intro [] (by assumption) (by assumption) (by k_mem) (fun _ hp => (nomatch hp)) (fun _ hp => (nomatch hp)) ⟨by (repeat' first | with_reducible exact Off.of_ov | with_reducible exact Off.refl | (with_reducible refine Off.set ?_ ?_; (focus decide)) | exact Off.refl | exact Off.of_ov | exact Off.sub (by decide) Off.of_ov | refine Off.set (by decide) ?_), rfl, _, congrArg some (congrArg (fun z => Value.int z _) ?_)⟩
    show (0 : Int) + 1 * cnt.getD 2 0 = cnt.getD 2 0
    rw [Int.one_mul, Int.zero_add]
  · intro m₁ news₁ h tk hJ F2 N2
    obtain ⟨hoff, rfl, til, hil⟩ := hJ
    rw [Off.ov hoff, ov_pin hil] at F2
    dsimp only at F2 N2 ⊢
    clear F1 N1
    have hc2 : 0 ≤ (if ((cnt.length : Int) - ts).toNat = 0 then 0 else cnt.getD 2 0) ∧ (if ((cnt.length : Int) - ts).toNat = 0 then 0 else cnt.getD 2 0) < 10 := by
      split
      · (first | lia | omega)
      · exact hcb (cnt.getD 2 0) (by rw [List.getD_eq_getElem?_getD, List.getElem?_eq_getElem (show 2 < cnt.length by (first | lia | omega))]; exact List.getElem_mem _)
    generalize hg : (if ((cnt.length : Int) - ts).toNat = 0 then 0 else cnt.getD 2 0) = il at *
    repeat' (first | (k_here; (with_reducible show wpAny _ _ (subscriptTail _ _ (Value.ref _) (Value.int _ _)) _ _ _); k_dflt (refine' sub_tupIB ?k1 ?k2 ?k3 ?k4 ?k5 ?k6 ?_ ?k7; (case k1 => k_asm); (case k2 => k_asm); (case k3 => k_asm); (case k4 => (first | lia | omega)); (case k5 => (first | lia | omega)); (case k6 => (first | lia | omega)); (case k7 => with_unfolding_all rfl); k_whole); intro _) | (k_here; (with_reducible show wpAny _ _ (call (Value.builtin "len") [Value.ref _]) _ _ _); k_dflt (refine' len_tupB ?k1 ?k2 ?k3 ?k4 ?_; (case k1 => k_asm); (case k2 => k_asm); (case k3 => k_asm); (case k4 => (first | lia | omega)); k_whole)) | walk1 | (dsimp only; walk1) | refine zP _ ?_ | refine zR0 _ _ ?_ | refine zP0 _ ?_ | refine zC _ ?_ | refine zR _ _ ?_ | refine zB _ ?_ | refine zE _ ?_ | fail "")
    try dsimp only
    refine ret _ _ _ _ F2.keep ?_
    have e : il = if ts = 2 ∧ cnt.length = 3 then cnt.getD 2 0 else 0 := by
      rw [← hg]; split <;> split <;> first | rfl | (exfalso; (first | lia | omega))
    unfold indF; rw [e]

noncomputable def lessF (n nt : Int) (cnt : List Int) (b : Int) (sm : Bool) (n' nt' : Int) (cnt' : List Int) (b' : Int) (sm' : Bool) : Bool :=
  if n' ≤ n then false else if sm && sm' then decide (nt ≤ nt') else
    (List.range (max (max ((cnt.length : Int) - 1) b) (max ((cnt'.length : Int) - 1) b')).toNat).all fun k => decide (indF (2 + k) nt cnt b < indF (2 + k) nt' cnt' b')

/-- a Whitespace and what it holds -/
structure WsAt (h : Heap) (x : Addr) (n nt : Int) (cnt : List Int) (b : Int) (sm : Bool) : Prop where
  at_ : ∃ (dx nm ct : Addr) (h1 h2 h3 h4 h5 : Int) (k1 k2 k3 k4 k5 tw tn tnt tb : Tok) (ws : Str) (cvs : List Value), h.get? x = some (instObj 157 dx) ∧ h.get? dx = some (wsDict h1 h2 h3 h4 h5 k1 k2 k3 k4 k5 tw tn tnt ws n nt nm sm) ∧
    IsTup h nm [Value.ref ct, .int b tb].toArray ∧ IsTup h ct cvs.toArray ∧ IntsAre cvs cnt
  lo : 0 ≤ n ∧ n < 20
  nt : 0 ≤ nt ∧ nt < 10
  len : cnt.length ≤ 3
  cnt : ∀ c ∈ cnt, 0 ≤ c ∧ c < 10
  b : 0 ≤ b ∧ b ≤ 2

theorem longest_at {w : World} {dp un : Nat} {fr : Option (List Env)} {gd : Option (List Code)} {s : Shared} {R : Result → Shared → Prop} {mg mb : Str → Option Value} {h₀ : Heap} {L : Addr} {m : Str → Option Value}
   {x : Addr} {n nt b : Int} {sm : Bool} {cnt : List Int} (F : Fr h₀ L s.heap m)
   (X : (Mine.hd.heap_39 w.params).In h₀) (T : TopRead Mine.hd.view_39 Mine.hd.lz mg mb h₀) (W : WsAt h₀ x n nt cnt b sm)
   (hroom : dp + 2 < recursionLimit) (hun : un + 20 < cLine)
   (ret : ∀ h' tk r t, (∀ b o, s.heap.get? b = some o → h'.get? b = some o) → r = max ((cnt.length : Int) - 1) b → R (.ok (.ret (.int r t))) { s with heap := h', toks := tk }) :
   codeAny (model prog w) (Ar dp un fr gd) (.call (.ref 119) ⟨[.ref x], []⟩) R s := by
  obtain ⟨⟨dx, nm, ct, h1, h2, h3, h4, h5, k1, k2, k3, k4, k5, tw, tn, tnt, tb, ws, cvs, a1, a2, a3, a4, a5⟩, lo, hnt, hlen, hcb, hb⟩ := W
  exact longest_sum (X.keeps F.keep) (T.keeps F.keep) (F.keep _ _ a1) (F.keep _ _ a2) (a3.keeps F.keep) (a4.keeps F.keep) a5 hlen ⟨hb.1, by (first | lia | omega)⟩ hroom hun ret
theorem indent_at {w : World} {dp un : Nat} {fr : Option (List Env)} {gd : Option (List Code)} {s : Shared} {R : Result → Shared → Prop} {mg mb : Str → Option Value} {h₀ : Heap} {L : Addr} {m : Str → Option Value}
   {x : Addr} {n nt b ts : Int} {tt : Tok} {sm : Bool} {cnt : List Int} (F : Fr h₀ L s.heap m)
   (X : (Mine.hd.heap_39 w.params).In h₀) (T : TopRead Mine.hd.view_39 Mine.hd.lz mg mb h₀) (W : WsAt h₀ x n nt cnt b sm) (hts : ts = 2 ∨ ts = 3)
   (hroom : dp + 2 < recursionLimit) (hun : un + 20 < cLine)
   (ret : ∀ h' tk r t, (∀ b o, s.heap.get? b = some o → h'.get? b = some o) → r = indF ts nt cnt b → R (.ok (.ret (.int r t))) { s with heap := h', toks := tk }) :
   codeAny (model prog w) (Ar dp un fr gd) (.call (.ref 126) ⟨[.ref x, .int ts tt], []⟩) R s := by
  obtain ⟨⟨dx, nm, ct, h1, h2, h3, h4, h5, k1, k2, k3, k4, k5, tw, tn, tnt, tb, ws, cvs, a1, a2, a3, a4, a5⟩, lo, hnt, hlen, hcb, hb⟩ := W
  exact indent_sum (X.keeps F.keep) (T.keeps F.keep) (F.keep _ _ a1) (F.keep _ _ a2) (a3.keeps F.keep) (a4.keeps F.keep) a5 hlen ⟨hb.1, by (first | lia | omega)⟩ hcb hnt hts hroom hun ret
theorem less_sum {w : World} {dp un : Nat} {fr : Option (List Env)} {gd : Option (List Code)} {s : Shared} {R : Result → Shared → Prop} {mg mb : Str → Option Value}
   {x y : Addr} {n nt b n' nt' b' : Int} {sm sm' : Bool} {cnt cnt' : List Int}
   (X : (Mine.hd.heap_39 w.params).In s.heap) (T : TopRead Mine.hd.view_39 Mine.hd.lz mg mb s.heap)
   (W : WsAt s.heap x n nt cnt b sm) (W' : WsAt s.heap y n' nt' cnt' b' sm') (hroom : dp + 6 < recursionLimit) (hun : un + 40 < cLine)
   (ret : ∀ h' tk r, (∀ b o, s.heap.get? b = some o → h'.get? b = some o) → r = lessF n nt cnt b sm n' nt' cnt' b' sm' → R (.ok (.ret (.bool r))) { s with heap := h', toks := tk }) :
   codeAny (model prog w) (Ar dp un fr gd) (.call (.ref 147) ⟨[.ref x, .ref y], []⟩) R s := by
  obtain ⟨⟨dx, nm, ct, h1, h2, h3, h4, h5, k1, k2, k3, k4, k5, tw, tn, tnt, tb, ws, cvs, a1, a2, a3, a4, a5⟩, lo, hnt, hlen, hcb, hb⟩ := id W
  obtain ⟨⟨dy, nm', ct', h1', h2', h3', h4', h5', k1', k2', k3', k4', k5', tw', tn', tnt', tb', ws', cvs', a1', a2', a3', a4', a5'⟩, lo', hnt', hlen', hcb', hb'⟩ := id W'
  refine' enter (T.nolimit) (X 147 _ (by k_is)) rfl (codeRec_of X (by k_is)) (show dp < _ by (first | lia | omega)) (BindsTo.of_eq rfl) (locs rfl) (by decide) ?_
  intro h₁ tk F
  refine hideD fun fr zQ0 zR0 zP0 => ?_
  have N : News s.heap s.heap.objs.size h₁ [] := News.nil
  repeat' (first | ((with_reducible show Stop (codeAny _ _ (Code.call (Value.ref 126) _) _ _)); refine unstop ?_; (refine' indent_at ?k1 ?k2 ?k3 ?k4 ?k5 ?k8 ?k9 ?_; (case k1 => k_asm); (case k2 => k_asm); (case k3 => k_asm); (case k4 => assumption); (case k5 => (first | lia | omega)); (case k8 => ((try simp only [depth_under_make, depth_under_kw, depth_in1, depth_deeper, depth_caller]); (try dsimp only [Ar]); (first | lia | omega))); (case k9 => ((try simp only [units_in1, units_deeper, Around.mark_units, units_caller]); (try dsimp only [Ar]); (first | lia | omega)))); k_whole; intro h'Z tk'Z r'Z t'Z hk'Z hr'Z; ((rename Fr _ _ _ _ => fX); (rename News _ _ _ _ => nX); (replace fX := Fr.keeps fX (by assumption)); (replace nX := News.keeps nX (by assumption)))) | ((with_reducible show Stop (codeAny _ _ (Code.call (Value.ref 119, _).fst _) _ _)); refine unstop ?_; (refine' longest_at ?k1 ?k2 ?k3 ?k4 ?k8 ?k9 ?_; (case k1 => k_asm); (case k2 => k_asm); (case k3 => k_asm); (case k4 => assumption); (case k8 => ((try simp only [depth_under_make, depth_under_kw, depth_in1, depth_deeper, depth_caller]); (try dsimp only [Ar]); (first | lia | omega))); (case k9 => ((try simp only [units_in1, units_deeper, Around.mark_units, units_caller]); (try dsimp only [Ar]); (first | lia | omega)))); k_whole; intro h'Z tk'Z r'Z t'Z hk'Z hr'Z; ((rename Fr _ _ _ _ => fX); (rename News _ _ _ _ => nX); (replace fX := Fr.keeps fX (by assumption)); (replace nX := News.keeps nX (by assumption)))) | (k_here; (with_reducible show wpAny _ _ (subscriptTail _ _ (Value.ref _) (Value.int _ _)) _ _ _); k_dflt (refine' sub_tupIB ?k1 ?k2 ?k3 ?k4 ?k5 ?k6 ?_ ?k7; (case k1 => k_asm); (case k2 => k_asm); (case k3 => k_asm); (case k4 => (first | lia | omega)); (case k5 => (first | lia | omega)); (case k6 => (first | lia | omega)); (case k7 => with_unfolding_all rfl); k_whole); intro _) | (k_here; (with_reducible show wpAny _ _ (call (Value.builtin "len") [Value.ref _]) _ _ _); k_dflt (refine' len_tupB ?k1 ?k2 ?k3 ?k4 ?_; (case k1 => k_asm); (case k2 => k_asm); (case k3 => k_asm); (case k4 => (first | lia | omega)); k_whole)) | walk1 | (dsimp only; walk1) | refine zP _ ?_ | refine zR0 _ _ ?_ | refine zP0 _ ?_ | refine zC _ ?_ | refine zR _ _ ?_ | refine zB _ ?_ | refine zE _ ?_ | fail "")
  · dsimp only
    exact ret _ _ _ F.keep (by unfold lessF; rw [if_pos (by assumption)])
  · dsimp only
    exact ret _ _ _ F.keep (by unfold lessF; rw [if_neg (by assumption), if_pos (by simp [*])])
  all_goals
    have hsm : (sm && sm') = false := by simp [*]
    rename Fr _ _ _ _ => F1
    rename News _ _ _ _ => N1
    rename IsRange _ _ _ _ _ _ _ _ => R1
    have hmx : ∀ a b : Int, (if b > a then b else a) = max a b := fun a b => by split <;> (first | lia | omega)
    simp only [hmx] at R1
    rename _ = max ((cnt.length : Int) - 1) b => hr1
    rename _ = max ((cnt'.length : Int) - 1) b' => hr2
    rw [hr1, hr2] at R1
    generalize hM : max (max ((cnt.length : Int) - 1) b) (max ((cnt'.length : Int) - 1) b') = M at *
    have hM2 : M ≤ 2 := by (first | lia | omega)
    have hM0 : 0 ≤ M := by (first | lia | omega)
    refine for_range (n := M.toNat) (fun i m' n' => Off [Str.ofString "ts"] m' _ ∧ n' = _ ∧ ∀ k : Nat, k < i → indF (2 + k) nt cnt b < indF (2 + k) nt' cnt' b') rfl F1 N1 R1 (small_one (by l_bnd) (by l_bnd) (by l_bnd) (by l_bnd)) ((rangeSize_nat _ _).trans (by (first | lia | omega))) ⟨Off.refl, rfl, fun k hk => (nomatch hk)⟩ ?_ ?_
    · intro I i t m₁ news₁ h tk oI hI hi hJ F2 N2 hn2
      refine hideL fun zQ zP zC zR zB => ?_
      obtain ⟨hoff, rfl, hall⟩ := hJ
      rw [Off.ov hoff] at F2
      dsimp only at F2 N2 hI ⊢
      clear F1 N1
      generalize hts : (2 : Int) + (i : Int) * 1 = ts at *
      have hts2 : ts = 2 ∨ ts = 3 := by (first | lia | omega)
      repeat' (first | ((with_reducible show Stop (codeAny _ _ (Code.call (Value.ref 126) _) _ _)); refine unstop ?_; (refine' indent_at ?k1 ?k2 ?k3 ?k4 ?k5 ?k8 ?k9 ?_; (case k1 => k_asm); (case k2 => k_asm); (case k3 => k_asm); (case k4 => assumption); (case k5 => (first | lia | omega)); (case k8 => ((try simp only [depth_under_make, depth_under_kw, depth_in1, depth_deeper, depth_caller]); (try dsimp only [Ar]); (first | lia | omega))); (case k9 => ((try simp only [units_in1, units_deeper, Around.mark_units, units_caller]); (try dsimp only [Ar]); (first | lia | omega)))); k_whole; intro h'Z tk'Z r'Z t'Z hk'Z hr'Z; ((rename Fr _ _ _ _ => fX); (rename News _ _ _ _ => nX); (replace fX := Fr.keeps fX (by assumption)); (replace nX := News.keeps nX (by assumption)))) | ((with_reducible show Stop (codeAny _ _ (Code.call (Value.ref 119, _).fst _) _ _)); refine unstop ?_; (refine' longest_at ?k1 ?k2 ?k3 ?k4 ?k8 ?k9 ?_; (case k1 => k_asm); (case k2 => k_asm); (case k3 => k_asm); (case k4 => assumption); (case k8 => ((try simp only [depth_under_make, depth_under_kw, depth_in1, depth_deeper, depth_caller]); (try dsimp only [Ar]); (first | lia | omega))); (case k9 => ((try simp only [units_in1, units_deeper, Around.mark_units, units_caller]); (try dsimp only [Ar]); (first | lia | omega)))); k_whole; intro h'Z tk'Z r'Z t'Z hk'Z hr'Z; ((rename Fr _ _ _ _ => fX); (rename News _ _ _ _ => nX); (replace fX := Fr.keeps fX (by assumption)); (replace nX := News.keeps nX (by assumption)))) | (k_here; (with_reducible show wpAny _ _ (subscriptTail _ _ (Value.ref _) (Value.int _ _)) _ _ _); k_dflt (refine' sub_tupIB ?k1 ?k2 ?k3 ?k4 ?k5 ?k6 ?_ ?k7; (case k1 => k_asm); (case k2 => k_asm); (case k3 => k_asm); (case k4 => (first | lia | omega)); (case k5 => (first | lia | omega)); (case k6 => (first | lia | omega)); (case k7 => with_unfolding_all rfl); k_whole); intro _) | (k_here; (with_reducible show wpAny _ _ (call (Value.builtin "len") [Value.ref _]) _ _ _); k_dflt (refine' len_tupB ?k1 ?k2 ?k3 ?k4 ?_; (case k1 => k_asm); (case k2 => k_asm); (case k3 => k_asm); (case k4 => (first | lia | omega)); k_whole)) | walk1 | (dsimp only; walk1) | refine zP _ ?_ | refine zR0 _ _ ?_ | refine zP0 _ ?_ | refine zC _ ?_ | refine zR _ _ ?_ | refine zB _ ?_ | refine zE _ ?_ | fail "")
      all_goals (try (first | refine zP _ ?_ | dsimp only [LPost] | fail ""))
      all_goals (rename _ = indF ts nt cnt b => hi1; rename _ = indF ts nt' cnt' b' => hi2)
      · refine ret _ _ _ (Fr.keep (by assumption)) ?_
        unfold lessF
        rw [if_neg (by assumption), hsm, if_neg Bool.false_ne_true, hM]
        refine Eq.symm (List.all_eq_false.mpr ⟨i, List.mem_range.mpr hi, ?_⟩)
        rw [show (2 : Int) + (i : Int) = ts by (first | lia | omega), ← hi1, ← hi2, decide_eq_true_iff]
        (first | lia | omega)
      · refine LEnd.intro [] (by assumption) (by assumption) (by k_mem) (fun _ hp => (nomatch hp)) (fun _ hp => (nomatch hp)) ⟨by (repeat' first | with_reducible exact Off.of_ov | with_reducible exact Off.refl | (with_reducible refine Off.set ?_ ?_; (focus decide)) | exact Off.refl | exact Off.of_ov | exact Off.sub (by decide) Off.of_ov | refine Off.set (by decide) ?_), rfl, fun k hk => ?_⟩
        rcases Nat.lt_or_ge k i with q | q
        · exact hall k q
        · obtain rfl : k = i := by (first | lia | omega)
          rw [show (2 : Int) + (k : Int) = ts by (first | lia | omega), ← hi1, ← hi2]
          (first | lia | omega)
    · intro m₁ news₁ h tk hJ F2 N2
      obtain ⟨hoff, rfl, hall⟩ := hJ
      rw [Off.ov hoff] at F2
      dsimp only at F2 N2 ⊢
      clear F1 N1
      repeat' (first | ((with_reducible show Stop (codeAny _ _ (Code.call (Value.ref 126) _) _ _)); refine unstop ?_; (refine' indent_at ?k1 ?k2 ?k3 ?k4 ?k5 ?k8 ?k9 ?_; (case k1 => k_asm); (case k2 => k_asm); (case k3 => k_asm); (case k4 => assumption); (case k5 => (first | lia | omega)); (case k8 => ((try simp only [depth_under_make, depth_under_kw, depth_in1, depth_deeper, depth_caller]); (try dsimp only [Ar]); (first | lia | omega))); (case k9 => ((try simp only [units_in1, units_deeper, Around.mark_units, units_caller]); (try dsimp only [Ar]); (first | lia | omega)))); k_whole; intro h'Z tk'Z r'Z t'Z hk'Z hr'Z; ((rename Fr _ _ _ _ => fX); (rename News _ _ _ _ => nX); (replace fX := Fr.keeps fX (by assumption)); (replace nX := News.keeps nX (by assumption)))) | ((with_reducible show Stop (codeAny _ _ (Code.call (Value.ref 119, _).fst _) _ _)); refine unstop ?_; (refine' longest_at ?k1 ?k2 ?k3 ?k4 ?k8 ?k9 ?_; (case k1 => k_asm); (case k2 => k_asm); (case k3 => k_asm); (case k4 => assumption); (case k8 => ((try simp only [depth_under_make, depth_under_kw, depth_in1, depth_deeper, depth_caller]); (try dsimp only [Ar]); (first | lia | omega))); (case k9 => ((try simp only [units_in1, units_deeper, Around.mark_units, units_caller]); (try dsimp only [Ar]); (first | lia | omega)))); k_whole; intro h'Z tk'Z r'Z t'Z hk'Z hr'Z; ((rename Fr _ _ _ _ => fX); (rename News _ _ _ _ => nX); (replace fX := Fr.keeps fX (by assumption)); (replace nX := News.keeps nX (by assumption)))) | (k_here; (with_reducible show wpAny _ _ (subscriptTail _ _ (Value.ref _) (Value.int _ _)) _ _ _); k_dflt (refine' sub_tupIB ?k1 ?k2 ?k3 ?k4 ?k5 ?k6 ?_ ?k7; (case k1 => k_asm); (case k2 => k_asm); (case k3 => k_asm); (case k4 => (first | lia | omega)); (case k5 => (first | lia | omega)); (case k6 => (first | lia | omega)); (case k7 => with_unfolding_all rfl); k_whole); intro _) | (k_here; (with_reducible show wpAny _ _ (call (Value.builtin "len") [Value.ref _]) _ _ _); k_dflt (refine' len_tupB ?k1 ?k2 ?k3 ?k4 ?_; (case k1 => k_asm); (case k2 => k_asm); (case k3 => k_asm); (case k4 => (first | lia | omega)); k_whole)) | walk1 | (dsimp only; walk1) | refine zP _ ?_ | refine zR0 _ _ ?_ | refine zP0 _ ?_ | refine zC _ ?_ | refine zR _ _ ?_ | refine zB _ ?_ | refine zE _ ?_ | fail "")
      try dsimp only
      refine ret _ _ _ F2.keep ?_
      unfold lessF
      rw [if_neg (by assumption), hsm, if_neg Bool.false_ne_true, hM]
      exact (List.all_eq_true.mpr fun k hk => decide_eq_true (hall k (List.mem_range.mp hk))).symm

end P5
section P6

structure Wp where
  n : Int
  nt : Int
  cnt : List Int
  b : Int
  sm : Bool
noncomputable abbrev Wp.less (p q : Wp) : Bool := lessF p.n p.nt p.cnt p.b p.sm q.n q.nt q.cnt q.b q.sm
noncomputable abbrev Wp.At (h : Heap) (x : Addr) (p : Wp) : Prop := WsAt h x p.n p.nt p.cnt p.b p.sm
noncomputable def LeadsAt (h : Heap) (l : Addr) (pr : Int → Wp) : Prop :=
  ∃ (vn : List Value) (xa : Int → Addr), h.IsList l vn.toArray ∧ ∀ j : Int, 0 ≤ j → j < 4 → vn[j.toNat]? = some (Value.ref (xa j)) ∧ Wp.At h (xa j) (pr j)
theorem WsAt.keeps {h h' : Heap} {x : Addr} {n nt b : Int} {cnt : List Int} {sm : Bool} (W : WsAt h x n nt cnt b sm) (hk : ∀ b o, h.get? b = some o → h'.get? b = some o) : WsAt h' x n nt cnt b sm := by
  obtain ⟨⟨dx, nm, ct, h1, h2, h3, h4, h5, k1, k2, k3, k4, k5, tw, tn, tnt, tb, ws, cvs, a1, a2, a3, a4, a5⟩, r1, r2, r3, r4, r5⟩ := W
  exact ⟨⟨dx, nm, ct, h1, h2, h3, h4, h5, k1, k2, k3, k4, k5, tw, tn, tnt, tb, ws, cvs, hk _ _ a1, hk _ _ a2, a3.keeps hk, a4.keeps hk, a5⟩, r1, r2, r3, r4, r5⟩
theorem less_at {w : World} {dp un : Nat} {fr : Option (List Env)} {gd : Option (List Code)} {s : Shared} {R : Result → Shared → Prop} {mg mb : Str → Option Value} {h₀ : Heap} {L : Addr} {m : Str → Option Value}
   {x y : Addr} {p q : Wp} (F : Fr h₀ L s.heap m)
   (X : (Mine.hd.heap_39 w.params).In h₀) (T : TopRead Mine.hd.view_39 Mine.hd.lz mg mb h₀) (W : p.At h₀ x) (W' : q.At h₀ y)
   (hroom : dp + 6 < recursionLimit) (hun : un + 40 < cLine)
   (ret : ∀ h' tk r, (∀ b o, s.heap.get? b = some o → h'.get? b = some o) → r = p.less q → R (.ok (.ret (.bool r))) { s with heap := h', toks := tk }) :
   codeAny (model prog w) (Ar dp un fr gd) (.call (.ref 147) ⟨[.ref x, .ref y], []⟩) R s :=
  less_sum (X.keeps F.keep) (T.keeps F.keep) (WsAt.keeps W F.keep) (WsAt.keeps W' F.keep) hroom hun ret
theorem leads_sum {w : World} {dp un : Nat} {fr : Option (List Env)} {gd : Option (List Code)} {s : Shared} {R : Result → Shared → Prop} {mg mb : Str → Option Value} {st wi nm : Addr} {wr : List (Int × Int)} {xs : List Value} {rs : List Int} {pr : Int → Wp}
   (X : (Mine.hd.heap_39 w.params).In s.heap) (T : TopRead Mine.hd.view_39 Mine.hd.lz mg mb s.heap) (hroom : dp + 9 < recursionLimit) (hun : un + 60 < cLine)
   (hst : s.heap.IsList st xs.toArray) (hxs : IntsAre xs rs) (hlen : rs.length = 4) (hr4 : ∀ j ∈ rs, 0 ≤ j ∧ j < 4) (hnm : LeadsAt s.heap nm pr) (hwi : WiresAt s.heap wi wr) (hwr : WiresOk wr)
   (ret : ∀ h' tk D vs c, (∀ b o, s.heap.get? b = some o → h'.get? b = some o) → h'.get? D = some (listOf vs.toArray c) → s.heap.get? D = none → IntsAre vs (wr.foldl (sortStep 0 fun a b => (pr a).less (pr b)) rs) → R (.ok (.ret (.ref D))) { s with heap := h', toks := tk }) :
   codeAny (model prog w) (Ar dp un fr gd) (.call (.ref 314) ⟨[.ref st, .ref wi, .ref nm], []⟩) R s := by
  refine' enter (T.nolimit) (X 314 _ (by k_is)) rfl (codeRec_of X (by k_is)) (show dp < _ by (first | lia | omega)) (BindsTo.of_eq rfl) (locs rfl) (by decide) ?_
  intro h₁ tk F
  refine hideD fun fr zQ0 zR0 zP0 => ?_
  have N : News s.heap s.heap.objs.size h₁ [] := News.nil
  have hl4 : xs.length = 4 := by rw [← hlen]; exact hxs.length
  repeat' (first | ((with_reducible show Stop (codeAny _ _ (Code.call (Value.ref 147) _) _ _)); refine unstop ?_; (refine' less_at ?k1 ?k2 ?k3 ?k4 ?k5 ?k8 ?k9 ?_; (case k1 => k_asm); (case k2 => k_asm); (case k3 => k_asm); (case k4 => assumption); (case k5 => assumption); (case k8 => ((try simp only [depth_under_make, depth_under_kw, depth_in1, depth_deeper, depth_caller]); (try dsimp only [Ar]); (first | lia | omega))); (case k9 => ((try simp only [units_in1, units_deeper, Around.mark_units, units_caller]); (try dsimp only [Ar]); (first | lia | omega)))); k_whole; intro h'Z tk'Z r'Z hk'Z hr'Z; ((rename Fr _ _ _ _ => fX); (rename News _ _ _ _ => nX); (replace fX := Fr.keeps fX (by assumption)); (replace nX := News.keeps nX (by assumption))); subst hr'Z) | (k_here; (with_reducible show wpAny _ _ (subscriptTail _ _ (Value.ref _) (Value.int _ _)) _ _ _); k_dflt (refine' sub_listB ?k1 ?k2 ?k3 ?k4 ?k5 ?_ ?k7; (case k1 => k_asm); (case k2 => k_asm); (case k3 => (first | lia | omega)); (case k4 => (first | lia | omega)); (case k5 => assumption); (case k7 => with_unfolding_all rfl); k_whole)) | (dsimp only; walk1) | walk1 | refine zP _ ?_ | refine zR0 _ _ ?_ | refine zP0 _ ?_ | refine zC _ ?_ | refine zR _ _ ?_ | refine zB _ ?_ | refine zE _ ?_ | fail "")
  rename Fr _ _ _ _ => F1
  rename News _ _ _ _ => N1
  refine wpAny_For ?_
  walk1
  obtain ⟨ws, hws, hwl, hwa⟩ := hwi
  obtain ⟨vn, xa, hvn, hna⟩ := hnm
  refine for_listB (items := ws) (fun i m' n' => Off [Str.ofString "low", Str.ofString "high"] m' _ ∧ ∃ vs c, n' = (_, listOf vs.toArray c) :: _ ∧ IntsAre vs ((wr.take i).foldl (sortStep 0 fun a b => (pr a).less (pr b)) rs)) rfl F1 N1 hws ⟨Off.refl, _, _, rfl, hxs⟩ ?_ ?_
  · intro I i v m₁ news₁ h tk oI hI hv hJ F2 N2 hn2
    refine hideL fun zQ zP zC zR zB => ?_
    obtain ⟨hoff, vs, c, rfl, hvs⟩ := hJ
    rw [Off.ov hoff] at F2
    have hi : i < wr.length := by
      rcases Nat.lt_or_ge i ws.length with q | q
      · (first | lia | omega)
      · simp [q] at hv
    obtain ⟨p, hp⟩ : ∃ p, wr[i]? = some p := ⟨wr[i], by simp [hi]⟩
    obtain ⟨a, tl, th, ha, hta⟩ := hwa i p hp
    obtain rfl : v = .ref a := by
      rw [ha] at hv; exact (Option.some.inj hv).symm
    obtain ⟨k1, k2, k3, k4, k5⟩ := hwr p (List.mem_of_getElem? hp)
    dsimp only at F2 N2 hI ⊢
    clear hoff F1 N1 hv
    refine unpackN_ F2 N2 (hta.keeps fun b o e => F2.keep b o e) rfl rfl rfl ?_
    intro h3 F3 N3
    clear F2 N2
    generalize hrow : (wr.take i).foldl (sortStep 0 fun a b => (pr a).less (pr b)) rs = row at *
    have hlr : row.length = 4 := by rw [← hrow, sort_length, hlen]
    have hr4' : ∀ j ∈ row, 0 ≤ j ∧ j < 4 := by rw [← hrow]; exact sort_mem (P := fun j => 0 ≤ j ∧ j < 4) ⟨by decide, by decide⟩ _ hr4
    have hDI := neN (hn2 _ (.head _))
    dsimp only at hDI
    have hstep : (wr.take (i + 1)).foldl (sortStep 0 fun a b => (pr a).less (pr b)) rs = sortStep 0 (fun a b => (pr a).less (pr b)) row p := take_step hp hrow
    obtain ⟨b1, b2⟩ := getD_in (k := p.1.toNat) hr4'
    obtain ⟨b3, b4⟩ := getD_in (k := p.2.toNat) hr4'
    obtain ⟨e1, e2⟩ := hna _ b1 b2
    obtain ⟨f1, f2⟩ := hna _ b3 b4
    obtain ⟨⟨dx, nm1, ct, h1, h2, h3, h4, h5, q1, q2, q3, q4, q5, tw, tn, tnt, tb, ws1, cvs, a1, a2, a3, a4, a5⟩, _⟩ := id e2
    obtain ⟨⟨dy, nm1', ct', h1', h2', h3', h4', h5', q1', q2', q3', q4', q5', tw', tn', tnt', tb', ws1', cvs', a1', a2', a3', a4', a5'⟩, _⟩ := id f2
    repeat' (first | ((with_reducible show Stop (codeAny _ _ (Code.call (Value.ref 147) _) _ _)); refine unstop ?_; (refine' less_at ?k1 ?k2 ?k3 ?k4 ?k5 ?k8 ?k9 ?_; (case k1 => k_asm); (case k2 => k_asm); (case k3 => k_asm); (case k4 => assumption); (case k5 => assumption); (case k8 => ((try simp only [depth_under_make, depth_under_kw, depth_in1, depth_deeper, depth_caller]); (try dsimp only [Ar]); (first | lia | omega))); (case k9 => ((try simp only [units_in1, units_deeper, Around.mark_units, units_caller]); (try dsimp only [Ar]); (first | lia | omega)))); k_whole; intro h'Z tk'Z r'Z hk'Z hr'Z; ((rename Fr _ _ _ _ => fX); (rename News _ _ _ _ => nX); (replace fX := Fr.keeps fX (by assumption)); (replace nX := News.keeps nX (by assumption))); subst hr'Z) | (k_here; (with_reducible show wpAny _ _ (subscriptTail _ _ (Value.ref _) (Value.int _ _)) _ _ _); k_dflt (refine' sub_listB ?k1 ?k2 ?k3 ?k4 ?k5 ?_ ?k7; (case k1 => k_asm); (case k2 => k_asm); (case k3 => (first | lia | omega)); (case k4 => (first | lia | omega)); (case k5 => assumption); (case k7 => with_unfolding_all rfl); k_whole)) | (dsimp only; walk1) | walk1 | refine zP _ ?_ | refine zR0 _ _ ?_ | refine zP0 _ ?_ | refine zC _ ?_ | refine zR _ _ ?_ | refine zB _ ?_ | refine zE _ ?_ | fail "")
    all_goals (try (first | refine zP _ ?_ | dsimp only [LPost] | fail ""))
    · refine LEnd.intro _ (by assumption) (by assumption) (by k_mem) (fun p hp => .tail _ (.tail _ hp)) (ne_head hn2) ⟨Off.set (by decide) (Off.set (by decide) Off.of_ov), _, _, rfl, ?_⟩
      rw [hstep, sortStep_pos ((by assumption))]
      assumption
    · refine LEnd.intro _ (by assumption) (by assumption) (by k_mem) (fun p hp => .tail _ hp) (ne_head hn2) ⟨Off.set (by decide) (Off.set (by decide) Off.of_ov), _, _, rfl, ?_⟩
      rw [hstep, sortStep_neg ((by assumption))]
      assumption
  · intro m₁ news₁ h tk hJ F2 N2
    obtain ⟨hoff, vs, c, rfl, hvs⟩ := hJ
    rw [Off.ov hoff] at F2
    dsimp only at F2 N2 ⊢
    clear F1 N1
    rw [hwl, List.take_length] at hvs
    repeat' (first | ((with_reducible show Stop (codeAny _ _ (Code.call (Value.ref 147) _) _ _)); refine unstop ?_; (refine' less_at ?k1 ?k2 ?k3 ?k4 ?k5 ?k8 ?k9 ?_; (case k1 => k_asm); (case k2 => k_asm); (case k3 => k_asm); (case k4 => assumption); (case k5 => assumption); (case k8 => ((try simp only [depth_under_make, depth_under_kw, depth_in1, depth_deeper, depth_caller]); (try dsimp only [Ar]); (first | lia | omega))); (case k9 => ((try simp only [units_in1, units_deeper, Around.mark_units, units_caller]); (try dsimp only [Ar]); (first | lia | omega)))); k_whole; intro h'Z tk'Z r'Z hk'Z hr'Z; ((rename Fr _ _ _ _ => fX); (rename News _ _ _ _ => nX); (replace fX := Fr.keeps fX (by assumption)); (replace nX := News.keeps nX (by assumption))); subst hr'Z) | (k_here; (with_reducible show wpAny _ _ (subscriptTail _ _ (Value.ref _) (Value.int _ _)) _ _ _); k_dflt (refine' sub_listB ?k1 ?k2 ?k3 ?k4 ?k5 ?_ ?k7; (case k1 => k_asm); (case k2 => k_asm); (case k3 => (first | lia | omega)); (case k4 => (first | lia | omega)); (case k5 => assumption); (case k7 => with_unfolding_all rfl); k_whole)) | (dsimp only; walk1) | walk1 | refine zP _ ?_ | refine zR0 _ _ ?_ | refine zP0 _ ?_ | refine zC _ ?_ | refine zR _ _ ?_ | refine zB _ ?_ | refine zE _ ?_ | fail "")
    try dsimp only
    exact ret _ _ _ vs c F2.keep (N2 _ (.head _)).1 (N2 _ (.head _)).2.2 hvs

end P6
section P7


noncomputable def sb (c : Nat) (z : List Nat) (a : Nat) : List Nat := if a = c then z else [a]
theorem sb_free {c : Nat} {z : List Nat} : ∀ {l : List Nat}, c ∉ l → l.flatMap (sb c z) = l
  | [], _ => rfl
  | k :: r, h => by
    have h1 : ¬ k = c := fun e => h (e ▸ List.mem_cons_self ..)
    have h2 : c ∉ r := fun m => h (List.mem_cons_of_mem _ m)
    rw [List.flatMap_cons, sb_free h2, sb, if_neg h1]; rfl
theorem sb_join (c : Nat) (z : Str) : ∀ parts : List Str, (∀ p ∈ parts, c ∉ p.cps.toList) → (Str.join ⟨#[c]⟩ parts).cps.toList.flatMap (sb c z.cps.toList) = (Str.join z parts).cps.toList
  | [], _ => rfl
  | [p], h => sb_free (h p (List.mem_singleton.mpr rfl))
  | p :: q :: r, h => by
    have ih := sb_join c z (q :: r) fun a ha => h a (List.mem_cons_of_mem _ ha)
    show (p ++ ⟨#[c]⟩ ++ Str.join ⟨#[c]⟩ (q :: r)).cps.toList.flatMap _ = (p ++ z ++ Str.join z (q :: r)).cps.toList
    simp only [Str.cps_append, Array.toList_append, List.flatMap_append]
    rw [ih, sb_free (h p (List.mem_cons_self ..))]
    show p.cps.toList ++ [c].flatMap (sb c z.cps.toList) ++ _ = _
    rw [List.flatMap_cons, sb, if_pos rfl, List.flatMap_nil, List.append_nil]
theorem sb_replace (x z : Str) (c : Nat) : (Txt.replace x ⟨#[c]⟩ z).cps.toList = x.cps.toList.flatMap (sb c z.cps.toList) := by
  rw [StrLaws.replace_one, ← sb_join c _ _ (StrLaws.split_free x c), StrLaws.join_split]
theorem sb_len {c : Nat} {z : List Nat} {b : Nat} (hz : z.length ≤ b) (hb : 1 ≤ b) : ∀ l : List Nat, (l.flatMap (sb c z)).length ≤ b * l.length
  | [] => by simp
  | k :: r => by
    have ih := sb_len (c := c) hz hb r
    rw [List.flatMap_cons, List.length_append, List.length_cons, Nat.mul_succ]
    have : (sb c z k).length ≤ b := by unfold sb; split; exact hz; exact hb
    (first | lia | omega)
section
variable {prog : Program} {w : World} {A : Around} {E : Value → Shared → Prop} {s : Shared} {h₀ : Heap} {L a : Addr} {m : Str → Option Value} {news : List (Addr × Obj)} {cn : Str} {cs : Scope} {ccd : Value} {cl : List (Str × Addr)} {Q : Flow → Shared → Prop}
theorem Fr.congr {h : Heap} {m' : Str → Option Value} (F : Fr h₀ L h m) (e : ∀ z, m z = m' z) : Fr h₀ L h m' := by
  have : m = m' := funext e
  rw [← this]; exact F
theorem enterT {w : World} {A : Around} {s : Shared} {R : Result → Shared → Prop} {f : Addr} {fo : Obj} {name qual : Str} {params : Arguments} {body : List Stmt} {scope : Scope} {dV kV doc pm cdv ct : Value} {an : Option Addr} {args : Args} {binds : List (Str × Value)}
    (hlim : s.heap.NoLimit) (ho : s.heap.get? f = some fo) (hd : fo.data = .func (fnX name qual params body scope [] dV kV doc pm an cdv ct)) (hcd : s.heap.CodeRec cdv qual) (hroom : A.depth < recursionLimit)
    (hbind : BindsTo s (fnX name qual params body scope [] dV kV doc pm an cdv ct) args binds) (hloc : ∀ y ∈ binds, scope.names.lookup y.1 = some .local)
    (hcell : ∀ x ∈ scope.names, x.2 ≠ .cell)
    (h : ∀ h₁ tk, tk = s.toks + binds.length → Fr s.heap s.heap.objs.size h₁ (fun y => binds.reverse.lookup y) →
      wpAny (model Mine.prog w) (A.deeper (envX qual scope s.heap.objs.size f cdv [])) (execs body (envX qual scope s.heap.objs.size f cdv []))
        (fun fl s' => R (.ok (.ret (match fl with | .ret v => v | _ => .none))) s') (fun _ _ => False) { s with heap := h₁, toks := tk })
    (hco : scope.isCoroutine = false := by rfl) (hgen : scope.isGenerator = false := by rfl) (hk : scope.kind = .function := by rfl) : codeAny (model Mine.prog w) A (.call (.ref f) args) R s := by
  refine codeAny_call_def (fd := fnX name qual params body scope [] dV kV doc pm an cdv ct) (body := body) (binds := binds) hroom ho hd hlim hcd rfl hbind hcell hloc (fun h₁ hns hk₁ => ?_) hco hgen hk
  exact wpAny_mono (h h₁ _ rfl ⟨hns, hk₁, Nat.le_refl _⟩) (fun _ _ x => x) fun _ _ x => x.elim
noncomputable def RepPost (h₀ : Heap) (L : Addr) (m : Str → Option Value) (news : List (Addr × Obj)) (s : Shared) (l : List Nat) (B : Nat) (f : Flow) (s' : Shared) : Prop :=
  f = .next ∧ ∃ h' tk y' t', s' = { s with heap := h', toks := tk } ∧ y'.cps.toList = l ∧ y'.length ≤ B ∧ Fr h₀ L h' (fun w => if w = "text" then some (.str y' t') else m w) ∧ News h₀ L h' news
theorem rep_cut {env : Env} {C y z x rp : Str} {t : Tok} {B c k1 k2 k3 : Nat} {p1 p2 p3 p4 p5 p6 p7 p8 p9 pa pb : Pos} (F : Fr h₀ L s.heap m) (N : News h₀ L s.heap news) (hm : m "text" = some (.str y t)) (hC : C = ⟨#[c]⟩) (hz : z.cps.toList.length ≤ 6)
    (hy : y.length ≤ B) (hB : B ≤ 1000000) (ht : 1 ≤ s.toks)
    (h : y.length ≤ 1000000 → wpAny (model prog w) A (isTrue (.Compare (.Constant (.str C) k1 p1) [.In] [.Name x p2] p3) env (eval (.Compare (.Constant (.str C) k1 p1) [.In] [.Name x p2] p3) env))
      (fun b s₂ => 1 ≤ s₂.toks → if b then wpAny (model prog w) A (execs [.Assign [.Name x p9] (.Call (.Attribute (.Name x p4) rp p5) [.Constant (.str C) k2 p6, .Constant (.str z) k3 p7] [] p8) pa] env) (RepPost h₀ L m news s (y.cps.toList.flatMap (sb c z.cps.toList)) (6 * B)) E s₂
        else wpAny (model prog w) A (execs [] env) (RepPost h₀ L m news s (y.cps.toList.flatMap (sb c z.cps.toList)) (6 * B)) E s₂) E s)
    (k : ∀ h' tk y' t', 1 ≤ tk → y'.cps.toList = y.cps.toList.flatMap (sb c z.cps.toList) → y'.length ≤ 6 * B → Fr h₀ L h' (fun w => if w = "text" then some (.str y' t') else m w) → News h₀ L h' news → Q .next { s with heap := h', toks := tk }) :
    wpAny (model prog w) A (exec (.If (.Compare (.Constant (.str C) k1 p1) [.In] [.Name x p2] p3) [.Assign [.Name x p9] (.Call (.Attribute (.Name x p4) rp p5) [.Constant (.str C) k2 p6, .Constant (.str z) k3 p7] [] p8) pa] [] pb) env) Q E s :=
  wpAny_mono (wpAny_toks_of (n := 1) ht (wpAny_If (wpAny_with_toks (n := 1) ht (wpAny_mono (h (Nat.le_trans hy hB)) (fun _ _ x => x) fun _ _ x _ => x)))) (fun f s' hp => by obtain ⟨h1, rfl, h', tk, y', t', rfl, a1, a2, a3, a4⟩ := hp; exact k h' tk y' t' h1 a1 a2 a3 a4) fun _ _ x => x.2
theorem try_calm {env : Env} {body orelse : List Stmt} {h₀ : ExceptHandler} {hs : List ExceptHandler} {pos : Pos}
    (h : wpAny (model prog w) A (execs body env) (fun f s₁ => match f with | .next => wpAny (model prog w) A (execs orelse env) Q (fun _ _ => False) s₁ | f => Q f s₁) (fun _ _ => False) s) :
    wpAny (model prog w) A (exec (.Try body (h₀ :: hs) orelse [] pos) env) Q (fun _ _ => False) s :=
  wpAny_Try_except (wpAny_mono h (fun _ _ x => x) fun _ _ x => x.elim)
theorem len_eq (y : Str) : y.length = y.cps.toList.length := by simp [Str.length]
theorem rep_no {C y z : Str} {t : Tok} {c B tk : Nat} (F : Fr h₀ L s.heap m) (N : News h₀ L s.heap news) (hm : m "text" = some (.str y t)) (hC : C = ⟨#[c]⟩) (hy : y.length ≤ B) (ho : (Builtin.Str.occurrences y C 0 y.length 1).isEmpty = true) :
    RepPost h₀ L m news s (y.cps.toList.flatMap (sb c z.cps.toList)) (6 * B) .next { s with heap := s.heap, toks := tk } := by
  subst hC
  have hf := StrLaws.found_one y c
  rw [ho] at hf
  have hn : c ∉ y.cps.toList := fun q => by rw [decide_eq_true q] at hf; cases hf
  refine ⟨rfl, s.heap, tk, y, t, rfl, (sb_free hn).symm, by (first | lia | omega), Fr.congr F fun w => ?_, N⟩
  show m w = if w = "text" then some (.str y t) else m w
  split
  · rename_i e; rw [e, hm]
  · rfl
theorem rep_yes {C y z : Str} {t' : Tok} {c B tk : Nat} {h' : Heap} (hC : C = ⟨#[c]⟩) (hz : z.cps.toList.length ≤ 6) (hy : y.length ≤ B) (F' : Fr h₀ L h' (fun w => if w = "text" then some (.str (Txt.replace y C z) t') else m w)) (N' : News h₀ L h' news) :
    RepPost h₀ L m news s (y.cps.toList.flatMap (sb c z.cps.toList)) (6 * B) .next { s with heap := h', toks := tk } := by
  subst hC
  refine ⟨rfl, h', tk, _, t', rfl, sb_replace y z c, ?_, F', N'⟩
  rw [len_eq, sb_replace]
  have := sb_len (c := c) hz (by decide) y.cps.toList
  rw [len_eq] at hy
  (first | lia | omega)
end
local macro_rules | `(tactic| walk_at "exec Try") => `(tactic| (with_unfolding_all refine try_calm ?_))
local macro_rules | `(tactic| walk_at "call builtin:str.replace") => `(tactic| (refine SC.replaceW (by (show @Ne Nat _ _); (try dsimp only); (first | lia | omega)) (by (show @Ne Nat _ _); (try dsimp only); (first | lia | omega)) (by (show @Ne Nat _ _); (try dsimp only); (first | lia | omega)) (by decide) (by (first | lia | omega)) (by decide) ?_; intro _ _))
local macro_rules | `(tactic| walk_at "execs cons") => `(tactic| ((with_reducible refine wpAny_execs_cons ?_); (try dsimp only)))
local macro_rules | `(tactic| walk_at "exec If") => `(tactic| (k_here; k_dflt (refine' rep_cut ?k1 ?k2 ?k3 ?k4 ?k5 ?k6 ?k7 ?k8 ?_ ?_; (case k1 => k_asm); (case k2 => k_asm); (case k3 => rfl); (case k4 => rfl); (case k5 => decide); (case k6 => assumption); (case k7 => decide); (case k8 => (show 1 ≤ _); (first | lia | omega))); rotate_left; intro h' tk' y' t' htk' hr' hl' F' N'; (try dsimp only); rotate_left; intro hl0))
noncomputable def zs (x : String) : List Nat := (Str.ofString x).cps.toList
noncomputable def escF : Nat → List Nat → List Nat
  | 253, l => ((l.flatMap (sb 38 (zs "&amp;"))).flatMap (sb 60 (zs "&lt;"))).flatMap (sb 62 (zs "&gt;"))
  | 260, l => ((((((l.flatMap (sb 38 (zs "&amp;"))).flatMap (sb 60 (zs "&lt;"))).flatMap (sb 62 (zs "&gt;"))).flatMap (sb 34 (zs "&quot;"))).flatMap (sb 13 (zs "&#13;"))).flatMap (sb 10 (zs "&#10;"))).flatMap (sb 9 (zs "&#09;"))
  | 267, l => ((l.flatMap (sb 38 (zs "&amp;"))).flatMap (sb 62 (zs "&gt;"))).flatMap (sb 34 (zs "&quot;"))
  | 274, l => (((l.flatMap (sb 38 (zs "&amp;"))).flatMap (sb 60 (zs "&lt;"))).flatMap (sb 62 (zs "&gt;"))).flatMap (sb 13 (zs "&#xD;"))
  | 281, l => (((((l.flatMap (sb 38 (zs "&amp;"))).flatMap (sb 60 (zs "&lt;"))).flatMap (sb 34 (zs "&quot;"))).flatMap (sb 9 (zs "&#x9;"))).flatMap (sb 10 (zs "&#xA;"))).flatMap (sb 13 (zs "&#xD;"))
  | _, l => l
theorem cdata_sum {w : World} {dp un : Nat} {fr : Option (List Env)} {gd : Option (List Code)} {s : Shared} {R : Result → Shared → Prop} {mg mb : Str → Option Value} {x : Str} {t : Tok}
   (X : (Mine.hd.heap_39 w.params).In s.heap) (T : TopRead Mine.hd.view_39 Mine.hd.lz mg mb s.heap) (hroom : dp + 6 < recursionLimit) (hun : un + 20 < cLine) (hx : x.length ≤ 4)
   (ret : ∀ h' tk r t, (∀ b o, s.heap.get? b = some o → h'.get? b = some o) → r.cps.toList = escF 253 x.cps.toList → R (.ok (.ret (.str r t))) { s with heap := h', toks := tk }) :
   codeAny (model prog w) (Ar dp un fr gd) (.call (.ref 253) ⟨[.str x t], []⟩) R s := by
  refine' enterT (T.nolimit) (X 253 _ (by k_is)) rfl (codeRec_of X (by k_is)) (show dp < _ by (first | lia | omega)) (BindsTo.of_eq rfl) (locs rfl) (by decide) ?_
  intro h₁ tk htk F
  have htk1 : 1 ≤ tk := by rw [htk]; exact Nat.le_add_left _ _
  have N : News s.heap s.heap.objs.size h₁ [] := News.nil
  repeat' (first | (dsimp only; walk1) | walk1 | refine zP _ ?_ | refine zR0 _ _ ?_ | refine zP0 _ ?_ | refine zC _ ?_ | refine zR _ _ ?_ | refine zB _ ?_ | refine zE _ ?_ | fail "" | (first | (refine wpAny_execs_nil ?_; exact rep_no (by assumption) (by assumption) (by rfl) (by rfl) (by assumption) (by assumption)) | exact rep_no (by assumption) (by assumption) (by rfl) (by rfl) (by assumption) (by assumption) | exact rep_yes (by rfl) (by decide) (by assumption) (by assumption) (by assumption)) | (intro (htk2 : 1 ≤ _)))
  refine ret _ _ _ _ (Fr.keep (by assumption)) ?_
  simp only [*]
  rfl
theorem attrib_sum {w : World} {dp un : Nat} {fr : Option (List Env)} {gd : Option (List Code)} {s : Shared} {R : Result → Shared → Prop} {mg mb : Str → Option Value} {x : Str} {t : Tok}
   (X : (Mine.hd.heap_39 w.params).In s.heap) (T : TopRead Mine.hd.view_39 Mine.hd.lz mg mb s.heap) (hroom : dp + 6 < recursionLimit) (hun : un + 20 < cLine) (hx : x.length ≤ 4)
   (ret : ∀ h' tk r t, (∀ b o, s.heap.get? b = some o → h'.get? b = some o) → r.cps.toList = escF 260 x.cps.toList → R (.ok (.ret (.str r t))) { s with heap := h', toks := tk }) :
   codeAny (model prog w) (Ar dp un fr gd) (.call (.ref 260) ⟨[.str x t], []⟩) R s := by
  refine' enterT (T.nolimit) (X 260 _ (by k_is)) rfl (codeRec_of X (by k_is)) (show dp < _ by (first | lia | omega)) (BindsTo.of_eq rfl) (locs rfl) (by decide) ?_
  intro h₁ tk htk F
  have htk1 : 1 ≤ tk := by rw [htk]; exact Nat.le_add_left _ _
  have N : News s.heap s.heap.objs.size h₁ [] := News.nil
  repeat' (first | (dsimp only; walk1) | walk1 | refine zP _ ?_ | refine zR0 _ _ ?_ | refine zP0 _ ?_ | refine zC _ ?_ | refine zR _ _ ?_ | refine zB _ ?_ | refine zE _ ?_ | fail "" | (first | (refine wpAny_execs_nil ?_; exact rep_no (by assumption) (by assumption) (by rfl) (by rfl) (by assumption) (by assumption)) | exact rep_no (by assumption) (by assumption) (by rfl) (by rfl) (by assumption) (by assumption) | exact rep_yes (by rfl) (by decide) (by assumption) (by assumption) (by assumption)) | (intro (htk2 : 1 ≤ _)))
  refine ret _ _ _ _ (Fr.keep (by assumption)) ?_
  simp only [*]
  rfl
theorem html_sum {w : World} {dp un : Nat} {fr : Option (List Env)} {gd : Option (List Code)} {s : Shared} {R : Result → Shared → Prop} {mg mb : Str → Option Value} {x : Str} {t : Tok}
   (X : (Mine.hd.heap_39 w.params).In s.heap) (T : TopRead Mine.hd.view_39 Mine.hd.lz mg mb s.heap) (hroom : dp + 6 < recursionLimit) (hun : un + 20 < cLine) (hx : x.length ≤ 4)
   (ret : ∀ h' tk r t, (∀ b o, s.heap.get? b = some o → h'.get? b = some o) → r.cps.toList = escF 267 x.cps.toList → R (.ok (.ret (.str r t))) { s with heap := h', toks := tk }) :
   codeAny (model prog w) (Ar dp un fr gd) (.call (.ref 267) ⟨[.str x t], []⟩) R s := by
  refine' enterT (T.nolimit) (X 267 _ (by k_is)) rfl (codeRec_of X (by k_is)) (show dp < _ by (first | lia | omega)) (BindsTo.of_eq rfl) (locs rfl) (by decide) ?_
  intro h₁ tk htk F
  have htk1 : 1 ≤ tk := by rw [htk]; exact Nat.le_add_left _ _
  have N : News s.heap s.heap.objs.size h₁ [] := News.nil
  repeat' (first | (dsimp only; walk1) | walk1 | refine zP _ ?_ | refine zR0 _ _ ?_ | refine zP0 _ ?_ | refine zC _ ?_ | refine zR _ _ ?_ | refine zB _ ?_ | refine zE _ ?_ | fail "" | (first | (refine wpAny_execs_nil ?_; exact rep_no (by assumption) (by assumption) (by rfl) (by rfl) (by assumption) (by assumption)) | exact rep_no (by assumption) (by assumption) (by rfl) (by rfl) (by assumption) (by assumption) | exact rep_yes (by rfl) (by decide) (by assumption) (by assumption) (by assumption)) | (intro (htk2 : 1 ≤ _)))
  refine ret _ _ _ _ (Fr.keep (by assumption)) ?_
  simp only [*]
  rfl
theorem cdatac_sum {w : World} {dp un : Nat} {fr : Option (List Env)} {gd : Option (List Code)} {s : Shared} {R : Result → Shared → Prop} {mg mb : Str → Option Value} {x : Str} {t : Tok}
   (X : (Mine.hd.heap_39 w.params).In s.heap) (T : TopRead Mine.hd.view_39 Mine.hd.lz mg mb s.heap) (hroom : dp + 6 < recursionLimit) (hun : un + 20 < cLine) (hx : x.length ≤ 4)
   (ret : ∀ h' tk r t, (∀ b o, s.heap.get? b = some o → h'.get? b = some o) → r.cps.toList = escF 274 x.cps.toList → R (.ok (.ret (.str r t))) { s with heap := h', toks := tk }) :
   codeAny (model prog w) (Ar dp un fr gd) (.call (.ref 274) ⟨[.str x t], []⟩) R s := by
  refine' enterT (T.nolimit) (X 274 _ (by k_is)) rfl (codeRec_of X (by k_is)) (show dp < _ by (first | lia | omega)) (BindsTo.of_eq rfl) (locs rfl) (by decide) ?_
  intro h₁ tk htk F
  have htk1 : 1 ≤ tk := by rw [htk]; exact Nat.le_add_left _ _
  have N : News s.heap s.heap.objs.size h₁ [] := News.nil
  repeat' (first | (dsimp only; walk1) | walk1 | refine zP _ ?_ | refine zR0 _ _ ?_ | refine zP0 _ ?_ | refine zC _ ?_ | refine zR _ _ ?_ | refine zB _ ?_ | refine zE _ ?_ | fail "" | (first | (refine wpAny_execs_nil ?_; exact rep_no (by assumption) (by assumption) (by rfl) (by rfl) (by assumption) (by assumption)) | exact rep_no (by assumption) (by assumption) (by rfl) (by rfl) (by assumption) (by assumption) | exact rep_yes (by rfl) (by decide) (by assumption) (by assumption) (by assumption)) | (intro (htk2 : 1 ≤ _)))
  refine ret _ _ _ _ (Fr.keep (by assumption)) ?_
  simp only [*]
  rfl
theorem attribc_sum {w : World} {dp un : Nat} {fr : Option (List Env)} {gd : Option (List Code)} {s : Shared} {R : Result → Shared → Prop} {mg mb : Str → Option Value} {x : Str} {t : Tok}
   (X : (Mine.hd.heap_39 w.params).In s.heap) (T : TopRead Mine.hd.view_39 Mine.hd.lz mg mb s.heap) (hroom : dp + 6 < recursionLimit) (hun : un + 20 < cLine) (hx : x.length ≤ 4)
   (ret : ∀ h' tk r t, (∀ b o, s.heap.get? b = some o → h'.get? b = some o) → r.cps.toList = escF 281 x.cps.toList → R (.ok (.ret (.str r t))) { s with heap := h', toks := tk }) :
   codeAny (model prog w) (Ar dp un fr gd) (.call (.ref 281) ⟨[.str x t], []⟩) R s := by
  refine' enterT (T.nolimit) (X 281 _ (by k_is)) rfl (codeRec_of X (by k_is)) (show dp < _ by (first | lia | omega)) (BindsTo.of_eq rfl) (locs rfl) (by decide) ?_
  intro h₁ tk htk F
  have htk1 : 1 ≤ tk := by rw [htk]; exact Nat.le_add_left _ _
  have N : News s.heap s.heap.objs.size h₁ [] := News.nil
  repeat' (first | (dsimp only; walk1) | walk1 | refine zP _ ?_ | refine zR0 _ _ ?_ | refine zP0 _ ?_ | refine zC _ ?_ | refine zR _ _ ?_ | refine zB _ ?_ | refine zE _ ?_ | fail "" | (first | (refine wpAny_execs_nil ?_; exact rep_no (by assumption) (by assumption) (by rfl) (by rfl) (by assumption) (by assumption)) | exact rep_no (by assumption) (by assumption) (by rfl) (by rfl) (by assumption) (by assumption) | exact rep_yes (by rfl) (by decide) (by assumption) (by assumption) (by assumption)) | (intro (htk2 : 1 ≤ _)))
  refine ret _ _ _ _ (Fr.keep (by assumption)) ?_
  simp only [*]
  rfl

end P7
section P8


noncomputable def writF (hand : Int) (l : List Nat) : List Nat := if hand = 0 then escF 281 l else if hand = 1 then escF 274 l else if hand = 2 then escF 267 l else if hand = 3 then escF 260 l else escF 253 l
theorem written_sum {w : World} {dp un : Nat} {fr : Option (List Env)} {gd : Option (List Code)} {s : Shared} {R : Result → Shared → Prop} {mg mb : Str → Option Value} {x : Str} {t th : Tok} {hand : Int}
   (X : (Mine.hd.heap_39 w.params).In s.heap) (T : TopRead Mine.hd.view_39 Mine.hd.lz mg mb s.heap) (hroom : dp + 9 < recursionLimit) (hun : un + 40 < cLine) (hx : x.length ≤ 4)
   (ret : ∀ h' tk r t, (∀ b o, s.heap.get? b = some o → h'.get? b = some o) → r.cps.toList = writF hand x.cps.toList → R (.ok (.ret (.str r t))) { s with heap := h', toks := tk }) :
   codeAny (model prog w) (Ar dp un fr gd) (.call (.ref 288) ⟨[.str x t, .int hand th], []⟩) R s := by
  refine' enter (T.nolimit) (X 288 _ (by k_is)) rfl (codeRec_of X (by k_is)) (show dp < _ by (first | lia | omega)) (BindsTo.of_eq rfl) (locs rfl) (by decide) ?_
  intro h₁ tk F
  refine hideD fun fr zQ0 zR0 zP0 => ?_
  have N : News s.heap s.heap.objs.size h₁ [] := News.nil
  repeat' (first | ((with_reducible show Stop (codeAny _ _ (Code.call (Value.ref 281) _) _ _)); refine unstop ?_; (rename Fr _ _ _ _ => fY); (refine' attribc_sum (Frag.In.keeps (by k_asm) (Fr.keep fY)) (TopRead.keeps (by k_asm) (Fr.keep fY)) ?k8 ?k9 ?k5 ?_; (case k5 => assumption); (case k8 => ((try simp only [depth_under_make, depth_under_kw, depth_in1, depth_deeper, depth_caller]); (try dsimp only [Ar]); (first | lia | omega))); (case k9 => ((try simp only [units_in1, units_deeper, Around.mark_units, units_caller]); (try dsimp only [Ar]); (first | lia | omega)))); k_whole; intro h'Z tk'Z r'Z t'Z hk'Z hr'Z; ((rename Fr _ _ _ _ => fX); (rename News _ _ _ _ => nX); (replace fX := Fr.keeps fX (by assumption)); (replace nX := News.keeps nX (by assumption)))) | ((with_reducible show Stop (codeAny _ _ (Code.call (Value.ref 274) _) _ _)); refine unstop ?_; (rename Fr _ _ _ _ => fY); (refine' cdatac_sum (Frag.In.keeps (by k_asm) (Fr.keep fY)) (TopRead.keeps (by k_asm) (Fr.keep fY)) ?k8 ?k9 ?k5 ?_; (case k5 => assumption); (case k8 => ((try simp only [depth_under_make, depth_under_kw, depth_in1, depth_deeper, depth_caller]); (try dsimp only [Ar]); (first | lia | omega))); (case k9 => ((try simp only [units_in1, units_deeper, Around.mark_units, units_caller]); (try dsimp only [Ar]); (first | lia | omega)))); k_whole; intro h'Z tk'Z r'Z t'Z hk'Z hr'Z; ((rename Fr _ _ _ _ => fX); (rename News _ _ _ _ => nX); (replace fX := Fr.keeps fX (by assumption)); (replace nX := News.keeps nX (by assumption)))) | ((with_reducible show Stop (codeAny _ _ (Code.call (Value.ref 267) _) _ _)); refine unstop ?_; (rename Fr _ _ _ _ => fY); (refine' html_sum (Frag.In.keeps (by k_asm) (Fr.keep fY)) (TopRead.keeps (by k_asm) (Fr.keep fY)) ?k8 ?k9 ?k5 ?_; (case k5 => assumption); (case k8 => ((try simp only [depth_under_make, depth_under_kw, depth_in1, depth_deeper, depth_caller]); (try dsimp only [Ar]); (first | lia | omega))); (case k9 => ((try simp only [units_in1, units_deeper, Around.mark_units, units_caller]); (try dsimp only [Ar]); (first | lia | omega)))); k_whole; intro h'Z tk'Z r'Z t'Z hk'Z hr'Z; ((rename Fr _ _ _ _ => fX); (rename News _ _ _ _ => nX); (replace fX := Fr.keeps fX (by assumption)); (replace nX := News.keeps nX (by assumption)))) | ((with_reducible show Stop (codeAny _ _ (Code.call (Value.ref 260) _) _ _)); refine unstop ?_; (rename Fr _ _ _ _ => fY); (refine' attrib_sum (Frag.In.keeps (by k_asm) (Fr.keep fY)) (TopRead.keeps (by k_asm) (Fr.keep fY)) ?k8 ?k9 ?k5 ?_; (case k5 => assumption); (case k8 => ((try simp only [depth_under_make, depth_under_kw, depth_in1, depth_deeper, depth_caller]); (try dsimp only [Ar]); (first | lia | omega))); (case k9 => ((try simp only [units_in1, units_deeper, Around.mark_units, units_caller]); (try dsimp only [Ar]); (first | lia | omega)))); k_whole; intro h'Z tk'Z r'Z t'Z hk'Z hr'Z; ((rename Fr _ _ _ _ => fX); (rename News _ _ _ _ => nX); (replace fX := Fr.keeps fX (by assumption)); (replace nX := News.keeps nX (by assumption)))) | ((with_reducible show Stop (codeAny _ _ (Code.call (Value.ref 253) _) _ _)); refine unstop ?_; (rename Fr _ _ _ _ => fY); (refine' cdata_sum (Frag.In.keeps (by k_asm) (Fr.keep fY)) (TopRead.keeps (by k_asm) (Fr.keep fY)) ?k8 ?k9 ?k5 ?_; (case k5 => assumption); (case k8 => ((try simp only [depth_under_make, depth_under_kw, depth_in1, depth_deeper, depth_caller]); (try dsimp only [Ar]); (first | lia | omega))); (case k9 => ((try simp only [units_in1, units_deeper, Around.mark_units, units_caller]); (try dsimp only [Ar]); (first | lia | omega)))); k_whole; intro h'Z tk'Z r'Z t'Z hk'Z hr'Z; ((rename Fr _ _ _ _ => fX); (rename News _ _ _ _ => nX); (replace fX := Fr.keeps fX (by assumption)); (replace nX := News.keeps nX (by assumption)))) | (dsimp only; walk1) | walk1 | refine zP _ ?_ | refine zR0 _ _ ?_ | refine zP0 _ ?_ | refine zC _ ?_ | refine zR _ _ ?_ | refine zB _ ?_ | refine zE _ ?_ | fail "")
  all_goals
    try dsimp only
    refine ret _ _ _ _ (Fr.keep (by assumption)) ?_
    unfold writF
    simp [*]

end P8
section P10


theorem slice_ss {x : Str} {a b : Nat} {l : List Nat} (hab : a ≤ b) (hb : b ≤ x.length) (hl : (x.cps.toList.drop a).take (b - a) = l) : Txt.slice x (some (a : Int)) (some (b : Int)) = ⟨l.toArray⟩ := by
  unfold Txt.slice
  have e := StrLaws.sliced_plain x hab hb
  split
  · rename_i h
    simp only [beq_self_eq_true, Bool.true_and, beq_iff_eq] at h
    rw [StrLaws.strSliceIndices_plain hab hb, List.length_map, List.length_range] at h
    have h1 : a = 0 ∧ b = x.length := by (first | lia | omega)
    rw [← hl, h1.1, h1.2, List.drop_zero, Nat.sub_zero, List.take_of_length_le (by rw [len_eq]; exact Nat.le_refl _)]
  · rw [e, hl]
theorem slice_ns {x : Str} {b : Nat} {l : List Nat} (hb : b ≤ x.length) (hl : x.cps.toList.take b = l) : Txt.slice x none (some (b : Int)) = ⟨l.toArray⟩ := by
  have h := slice_ss (x := x) (a := 0) (b := b) (l := l) (Nat.zero_le _) hb (by simpa using hl)
  unfold Txt.slice at h ⊢
  rw [StrLaws.sliceIdx_none_lo]
  exact h
/-- what the loop reads: a doubled quote stands for one, a single one ends -/
theorem item_at {x : Str} {i c : Nat} (h : x.cps.toList[i]? = some c) : Txt.item x (i : Int) = ⟨#[c]⟩ := by
  have hi : i < x.cps.toList.length := by
    rcases Nat.lt_or_ge i x.cps.toList.length with q | q
    · exact q
    · rw [List.getElem?_eq_none q] at h; cases h
  have h2 : x.cps[i]? = some c := by simpa using h
  unfold Txt.item Txt.charAt
  have e : seqIndex? (i : Int) x.length = some i := by
    unfold seqIndex?
    have : x.length = x.cps.toList.length := len_eq x
    simp; (first | lia | omega)
  simp [e, h2]
theorem drop_at {l : List Nat} {i c : Nat} (h : l[i]? = some c) : l.drop i = c :: l.drop (i + 1) := by
  have hi : i < l.length := by
    rcases Nat.lt_or_ge i l.length with q | q
    · exact q
    · rw [List.getElem?_eq_none q] at h; cases h
  rw [List.drop_eq_getElem_cons hi]
  rw [List.getElem?_eq_getElem hi] at h
  cases h; rfl
theorem one_str {c : Nat} : ((⟨#[c]⟩ : Str) == Str.ofString "\"") = decide (c = 34) := by
  have e : Str.ofString "\"" = ⟨#[34]⟩ := rfl
  rw [e]
  by_cases h : c = 34
  · subst h; decide
  · rw [decide_eq_false h]
    exact beq_eq_false_iff_ne.mpr fun q => h (by injection q with q; injection q with q; injection q with q)
noncomputable def scan : List Nat → List Nat
  | [] => []
  | [c] => if c = 34 then [] else [c]
  | c :: d :: r => if c = 34 then (if d = 34 then 34 :: scan r else []) else c :: scan (d :: r)
theorem scan_q {c : Nat} {r : List Nat} (h : c ≠ 34) : scan (34 :: c :: r) = [] := by rw [scan, if_pos rfl, if_neg h]
theorem scan_qq {r : List Nat} : scan (34 :: 34 :: r) = 34 :: scan r := by rw [scan, if_pos rfl, if_pos rfl]
theorem scan_o {c : Nat} {r : List Nat} (h : c ≠ 34) : scan (c :: r) = c :: scan r := by
  cases r with
  | nil => simp [scan, h]
  | cons d r => rw [scan, if_neg h]
theorem parse_sum {w : World} {dp un : Nat} {fr : Option (List Env)} {gd : Option (List Code)} {s : Shared} {R : Result → Shared → Prop} {mg mb : Str → Option Value} {x : Str} {t : Tok} {rest : List Nat}
   (X : (Mine.hd.heap_39 w.params).In s.heap) (T : TopRead Mine.hd.view_39 Mine.hd.lz mg mb s.heap) (hroom : dp + 9 < recursionLimit) (hun : un + 40 < cLine) (hx : x.cps.toList = 50 :: 53 :: 55 :: 32 :: 34 :: rest) (hlen : rest.length ≤ 20)
   (ret : ∀ h' tk r t, (∀ b o, s.heap.get? b = some o → h'.get? b = some o) → r.cps.toList = scan rest → R (.ok (.ret (.str r t))) { s with heap := h', toks := tk }) :
   codeAny (model prog w) (Ar dp un fr gd) (.call (.ref 95) ⟨[.str x t], []⟩) R s := by
  have hxl : x.length = rest.length + 5 := by rw [len_eq, hx]; rfl
  have hxm : x.length ≤ 40 := by (first | lia | omega)
  have hs1 : Txt.slice x none (some 3) = Str.ofString "257" := (slice_ns (b := 3) (by (first | lia | omega)) (by rw [hx]; rfl)).trans rfl
  have hs2 : Txt.slice x (some 3) (some 5) = Str.ofString " \"" := (slice_ss (a := 3) (b := 5) (by (first | lia | omega)) (by (first | lia | omega)) (by rw [hx]; rfl)).trans rfl
  refine' enter (T.nolimit) (X 95 _ (by k_is)) rfl (codeRec_of X (by k_is)) (show dp < _ by (first | lia | omega)) (BindsTo.of_eq rfl) (locs rfl) (by decide) ?_
  intro h₁ tk F
  refine hideD fun fr zQ0 zR0 zP0 => ?_
  have N : News s.heap s.heap.objs.size h₁ [] := News.nil
  repeat' (first | ((with_reducible show wpAny _ _ (exec (Stmt.While _ _ _ _) _) _ _ _); refine stop ?_) | (dsimp only; walk1) | walk1 | refine zP _ ?_ | refine zR0 _ _ ?_ | refine zP0 _ ?_ | refine zC _ ?_ | refine zR _ _ ?_ | refine zB _ ?_ | refine zE _ ?_ | fail "" | (simp only [hs1, hs2]))
  · rename (_ != _) = true => q
    rw [hs2] at q
    exact absurd q (by decide)
  rename Fr _ _ _ _ => F1
  rename News _ _ _ _ => N1
  refine unstop (while_walk (J := fun k m' n' => Off [Str.ofString "i", Str.ofString "dirname", Str.ofString "c"] m' _ ∧ n' = _ ∧ ∃ (i : Nat) (acc : Str) (ti ta : Tok), m' (Str.ofString "i") = some (.int i ti) ∧ m' (Str.ofString "dirname") = some (.str acc ta) ∧ 5 ≤ i ∧ i ≤ x.length ∧ acc.length ≤ i ∧ acc.cps.toList ++ scan (x.cps.toList.drop i) = scan rest ∧ k + i = x.length + 5) x.length F1 N1 ⟨Off.refl, rfl, 5, Str.ofString "", _, _, rfl, rfl, Nat.le_refl _, by (first | lia | omega), Nat.zero_le _, by rw [hx]; rfl, by (first | lia | omega)⟩ ?_)
  intro k m₁ news₁ h tk hJ F2 N2
  obtain ⟨hoff, rfl, i, acc, ti, ta, hi, hacc, i5, iN, al, hsc, hk⟩ := hJ
  rw [Off.ov hoff, ov_pin2 (by decide) hi, ov_pin2 (by decide) hacc] at F2
  clear F1 N1
  dsimp only at F2 N2 ⊢
  repeat' (first | ((with_reducible show wpAny _ _ (exec (Stmt.While _ _ _ _) _) _ _ _); refine stop ?_) | (dsimp only; walk1) | walk1 | refine zP _ ?_ | refine zR0 _ _ ?_ | refine zP0 _ ?_ | refine zC _ ?_ | refine zR _ _ ?_ | refine zB _ ?_ | refine zE _ ?_ | fail "" | dsimp only [WPost])
  · -- the quote stands last
    obtain ⟨c, hc⟩ : ∃ c, x.cps.toList[i]? = some c := ⟨x.cps.toList[i]'(by rw [← len_eq]; (first | lia | omega)), List.getElem?_eq_getElem _⟩
    have q1 : (Txt.item x (i : Int) == Str.ofString "\"") = true := by assumption
    rw [item_at hc, one_str] at q1
    obtain rfl := of_decide_eq_true q1
    refine ret _ _ _ _ (Fr.keep (by assumption)) ?_
    rw [drop_at hc, List.drop_eq_nil_of_le (by rw [← len_eq]; (first | lia | omega))] at hsc
    rw [← hsc]; simp [scan]
  · obtain ⟨c, hc⟩ : ∃ c, x.cps.toList[i]? = some c := ⟨x.cps.toList[i]'(by rw [← len_eq]; (first | lia | omega)), List.getElem?_eq_getElem _⟩
    obtain ⟨d, hd⟩ : ∃ d, x.cps.toList[i + 1]? = some d := ⟨x.cps.toList[i + 1]'(by rw [← len_eq]; (first | lia | omega)), List.getElem?_eq_getElem _⟩
    have q1 : (Txt.item x (i : Int) == Str.ofString "\"") = true := by assumption
    have q2 : (Txt.item x ((i : Int) + 1) != Str.ofString "\"") = true := by assumption
    rw [item_at hc, one_str] at q1
    have e1 : (i : Int) + 1 = ((i + 1 : Nat) : Int) := by (first | lia | omega)
    rw [e1, item_at hd, bne, one_str] at q2
    obtain rfl := of_decide_eq_true q1
    have q3 : d ≠ 34 := by intro e; rw [decide_eq_true e] at q2; cases q2
    refine ret _ _ _ _ (Fr.keep (by assumption)) ?_
    rw [drop_at hc, drop_at hd, scan_q q3, List.append_nil] at hsc
    exact hsc
  · obtain ⟨c, hc⟩ : ∃ c, x.cps.toList[i]? = some c := ⟨x.cps.toList[i]'(by rw [← len_eq]; (first | lia | omega)), List.getElem?_eq_getElem _⟩
    obtain ⟨d, hd⟩ : ∃ d, x.cps.toList[i + 1]? = some d := ⟨x.cps.toList[i + 1]'(by rw [← len_eq]; (first | lia | omega)), List.getElem?_eq_getElem _⟩
    have q1 : (Txt.item x (i : Int) == Str.ofString "\"") = true := by assumption
    have q2 : (Txt.item x ((i : Int) + 1) != Str.ofString "\"") = false := by assumption
    have e1 : (i : Int) + 1 = ((i + 1 : Nat) : Int) := by (first | lia | omega)
    have e2 : (i : Int) + 1 + 1 = ((i + 2 : Nat) : Int) := by (first | lia | omega)
    rw [e1, item_at hd, bne, one_str] at q2
    have hit := item_at hc
    rw [hit, one_str] at q1
    obtain rfl := of_decide_eq_true q1
    have q3 : d = 34 := by
      by_cases e : d = 34
      · exact e
      · rw [decide_eq_false e] at q2; cases q2
    subst q3
    rw [drop_at hc, drop_at hd, scan_qq] at hsc
    refine WEnd.intro (k - 2) (by (first | lia | omega)) (by assumption) (by assumption) ⟨by (repeat' first | with_reducible exact Off.of_ov | with_reducible exact Off.refl | (with_reducible refine Off.set ?_ ?_; (focus decide)) | exact Off.refl | exact Off.of_ov | exact Off.sub (by decide) Off.of_ov | refine Off.set (by decide) ?_), rfl, i + 2, _, _, _, by rw [← e2]; rfl, rfl, by (first | lia | omega), by (first | lia | omega), ?_, ?_, by (first | lia | omega)⟩
    · rw [hit, len_eq, Str.cps_append, Array.toList_append, List.length_append, ← len_eq]; show acc.length + 1 ≤ _; (first | lia | omega)
    · rw [hit, Str.cps_append, Array.toList_append, List.append_assoc]; exact hsc
  · obtain ⟨c, hc⟩ : ∃ c, x.cps.toList[i]? = some c := ⟨x.cps.toList[i]'(by rw [← len_eq]; (first | lia | omega)), List.getElem?_eq_getElem _⟩
    have q1 : (Txt.item x (i : Int) == Str.ofString "\"") = false := by assumption
    have e1 : (i : Int) + 1 = ((i + 1 : Nat) : Int) := by (first | lia | omega)
    have hit := item_at hc
    rw [hit, one_str] at q1
    have q3 : c ≠ 34 := of_decide_eq_false q1
    rw [drop_at hc, scan_o q3] at hsc
    refine WEnd.intro (k - 1) (by (first | lia | omega)) (by assumption) (by assumption) ⟨by (repeat' first | with_reducible exact Off.of_ov | with_reducible exact Off.refl | (with_reducible refine Off.set ?_ ?_; (focus decide)) | exact Off.refl | exact Off.of_ov | exact Off.sub (by decide) Off.of_ov | refine Off.set (by decide) ?_), rfl, i + 1, _, _, _, by rw [← e1]; rfl, rfl, by (first | lia | omega), by (first | lia | omega), ?_, ?_, by (first | lia | omega)⟩
    · rw [hit, len_eq, Str.cps_append, Array.toList_append, List.length_append, ← len_eq]; show acc.length + 1 ≤ _; (first | lia | omega)
    · rw [hit, Str.cps_append, Array.toList_append, List.append_assoc]; exact hsc
  · refine ret _ _ _ _ (Fr.keep (by assumption)) ?_
    rw [List.drop_eq_nil_of_le (by rw [← len_eq]; (first | lia | omega))] at hsc
    rw [← hsc]; simp [scan]

end P10
local macro_rules | `(tactic| walk_at "exec For Name Call cons nil") => `(tactic| with_unfolding_all refine wpAny_For ?_)
local macro_rules | `(tactic| walk_at "exec For Name Name cons nil") => `(tactic| with_unfolding_all refine wpAny_For ?_)
local macro_rules | `(tactic| walk_at "exec For") => `(tactic| with_unfolding_all refine wpAny_For ?_)
section P11


structure Wst where
  n : Int
  nt : Int
  b : Int
  cnt : List Int
noncomputable def padF (cnt : List Int) (b : Int) : List Int := if (cnt.length : Int) ≤ b then cnt ++ (List.replicate (b - cnt.length + 1).toNat [0]).flatten else cnt
noncomputable def wsStep (σ : Wst) (c : Nat) : Wst := if c = 32 then ⟨σ.n + 1, σ.nt, σ.b + 1, σ.cnt⟩ else ⟨σ.n + 1, σ.nt + 1, 0, (padF σ.cnt σ.b).set σ.b.toNat ((padF σ.cnt σ.b).getD σ.b.toNat 0 + 1)⟩
noncomputable def wsFold : List Nat → Wst → Wst
  | [], σ => σ
  | c :: r, σ => if c = 32 ∨ c = 9 then wsFold r (wsStep σ c) else σ
local macro_rules | `(tactic| walk_at "exec For Name Attribute cons nil") => `(tactic| with_unfolding_all refine wpAny_For ?_)
structure WsJ (ws : List Nat) (σ : Wst) (i : Nat) (σ' : Wst) : Prop where
  fold : wsFold (ws.drop i) σ' = σ
  n : 0 ≤ σ'.n ∧ σ'.n ≤ i
  b : 0 ≤ σ'.b ∧ σ'.b ≤ i
  nt : 0 ≤ σ'.nt ∧ σ'.nt ≤ i
  len : σ'.cnt.length ≤ i
  cnt : ∀ z ∈ σ'.cnt, 0 ≤ z ∧ z ≤ i
  no : ∀ j : Nat, j < i → ws[j]? ≠ some 119
theorem no_step {ws : List Nat} {i c : Nat} (h : ∀ j : Nat, j < i → ws[j]? ≠ some 119) (hc : ws[i]? = some c) (h9 : c ≠ 119) : ∀ j : Nat, j < i + 1 → ws[j]? ≠ some 119 := fun j hj => by
  rcases Nat.lt_or_ge j i with q | q
  · exact h j q
  · obtain rfl : j = i := by (first | lia | omega)
    rw [hc]; intro e; injection e with e; exact h9 e
theorem WsJ.space {ws : List Nat} {σ σ' : Wst} {i : Nat} (h : WsJ ws σ i σ') (hc : ws[i]? = some 32) : WsJ ws σ (i + 1) ⟨σ'.n + 1, σ'.nt, σ'.b + 1, σ'.cnt⟩ := by
  obtain ⟨h1, h2, h3, h4, h5, h6, h7⟩ := h
  refine ⟨?_, ?_, ?_, ?_, ?_, fun z hz => ?_, no_step h7 hc (by decide)⟩
  · have hd : ws.drop i = 32 :: ws.drop (i + 1) := by
      have hi : i < ws.length := by
        rcases Nat.lt_or_ge i ws.length with q | q
        · exact q
        · rw [List.getElem?_eq_none q] at hc; cases hc
      rw [List.drop_eq_getElem_cons hi]
      rw [List.getElem?_eq_getElem hi] at hc
      injection hc with hc; rw [hc]
    rw [hd, wsFold, if_pos (.inl rfl)] at h1
    exact h1
  · constructor <;> simp only <;> push_cast <;> (first | lia | omega)
  · constructor <;> simp only <;> push_cast <;> (first | lia | omega)
  · constructor <;> simp only <;> push_cast <;> (first | lia | omega)
  · simp only; (first | lia | omega)
  · have := h6 z hz; push_cast; (first | lia | omega)
theorem padF_len {cnt : List Int} {b : Int} (hb : 0 ≤ b) : ((padF cnt b).length : Int) = max (cnt.length : Int) (b + 1) := by
  unfold padF
  split
  · simp only [List.length_append, List.length_flatten, List.map_replicate, List.length_singleton, List.sum_replicate_nat, Nat.mul_one]
    push_cast
    (first | lia | omega)
  · (first | lia | omega)
theorem padF_mem {cnt : List Int} {b z : Int} {i : Int} (h : ∀ z ∈ cnt, 0 ≤ z ∧ z ≤ i) (hi : 0 ≤ i) (hz : z ∈ padF cnt b) : 0 ≤ z ∧ z ≤ i := by
  unfold padF at hz
  split at hz
  · rcases List.mem_append.mp hz with q | q
    · exact h z q
    · obtain ⟨l, hl, hzl⟩ := List.mem_flatten.mp q
      rw [List.eq_of_mem_replicate hl] at hzl
      rw [List.mem_singleton.mp hzl]
      (first | lia | omega)
  · exact h z hz
theorem WsJ.tab {ws : List Nat} {σ σ' : Wst} {i : Nat} (h : WsJ ws σ i σ') (hc : ws[i]? = some 9) : WsJ ws σ (i + 1) ⟨σ'.n + 1, σ'.nt + 1, 0, (padF σ'.cnt σ'.b).set σ'.b.toNat ((padF σ'.cnt σ'.b).getD σ'.b.toNat 0 + 1)⟩ := by
  obtain ⟨h1, h2, h3, h4, h5, h6, h7⟩ := h
  refine ⟨?_, ?_, ?_, ?_, ?_, fun z hz => ?_, no_step h7 hc (by decide)⟩
  · have hd : ws.drop i = 9 :: ws.drop (i + 1) := by
      have hi : i < ws.length := by
        rcases Nat.lt_or_ge i ws.length with q | q
        · exact q
        · rw [List.getElem?_eq_none q] at hc; cases hc
      rw [List.drop_eq_getElem_cons hi]
      rw [List.getElem?_eq_getElem hi] at hc
      injection hc with hc; rw [hc]
    rw [hd, wsFold, if_pos (.inr rfl)] at h1
    exact h1
  · constructor <;> simp only <;> push_cast <;> (first | lia | omega)
  · constructor <;> simp only <;> push_cast <;> (first | lia | omega)
  · constructor <;> simp only <;> push_cast <;> (first | lia | omega)
  · simp only [List.length_set]
    have := padF_len (cnt := σ'.cnt) h3.1
    (first | lia | omega)
  · rcases List.mem_or_eq_of_mem_set hz with q | q
    · have := padF_mem h6 (by (first | lia | omega)) q
      push_cast; (first | lia | omega)
    · have : 0 ≤ (padF σ'.cnt σ'.b).getD σ'.b.toNat 0 ∧ (padF σ'.cnt σ'.b).getD σ'.b.toNat 0 ≤ i := by
        rw [List.getD_eq_getElem?_getD]
        cases q : (padF σ'.cnt σ'.b)[σ'.b.toNat]? with
        | none => exact ⟨by simp, by simp⟩
        | some y => exact padF_mem h6 (by (first | lia | omega)) (List.mem_of_getElem? q)
      rw [q]; push_cast; (first | lia | omega)
theorem WsJ.stop {ws : List Nat} {σ σ' : Wst} {i c : Nat} (h : WsJ ws σ i σ') (hc : ws[i]? = some c) (h1 : c ≠ 32) (h2 : c ≠ 9) : σ' = σ := by
  have hi : i < ws.length := by
    rcases Nat.lt_or_ge i ws.length with q | q
    · exact q
    · rw [List.getElem?_eq_none q] at hc; cases hc
  have hf := h.fold
  rw [List.drop_eq_getElem_cons hi] at hf
  rw [List.getElem?_eq_getElem hi] at hc
  injection hc with hc
  rw [hc, wsFold, if_neg (by rintro (q | q); exact h1 q; exact h2 q)] at hf
  exact hf
theorem sp_eq {c : Nat} : ((⟨#[c]⟩ : Str) == Str.ofString " ") = decide (c = 32) := by
  have e : Str.ofString " " = ⟨#[32]⟩ := rfl
  rw [e]
  by_cases h : c = 32
  · subst h; decide
  · rw [decide_eq_false h]
    exact beq_eq_false_iff_ne.mpr fun q => h (by injection q with q; injection q with q; injection q with q)
theorem tb_eq {c : Nat} : ((⟨#[c]⟩ : Str) == Str.ofString "\t") = decide (c = 9) := by
  have e : Str.ofString "\t" = ⟨#[9]⟩ := rfl
  rw [e]
  by_cases h : c = 9
  · subst h; decide
  · rw [decide_eq_false h]
    exact beq_eq_false_iff_ne.mpr fun q => h (by injection q with q; injection q with q; injection q with q)
theorem News.drop34 {h₀ h : Heap} {L : Addr} {a b c d : Addr × Obj} {r : List (Addr × Obj)} (N : News h₀ L h (a :: b :: c :: d :: r)) : News h₀ L h (a :: b :: r) := fun p hp => N p (by
  rcases List.mem_cons.mp hp with rfl | hp
  · exact .head _
  rcases List.mem_cons.mp hp with rfl | hp
  · exact .tail _ (.head _)
  · exact .tail _ (.tail _ (.tail _ (.tail _ hp))))
theorem mem_pick {α : Type} {a b c d e f g : α} : ∀ p ∈ [a, f, g], p ∈ [a, b, c, d, e, f, g] := fun p hp => by
  rcases List.mem_cons.mp hp with rfl | hp
  · exact .head _
  · exact .tail _ (.tail _ (.tail _ (.tail _ (.tail _ hp))))
theorem mem_4th {α : Type} {a b c d : α} {r : List α} : d ∈ a :: b :: c :: d :: r := .tail _ (.tail _ (.tail _ (.head _)))
theorem ne_cons {I : Addr} {a b : Addr × Obj} {r : List (Addr × Obj)} (h : ∀ p ∈ a :: r, p.1 ≠ I) (hb : b.1 ≠ I) : ∀ p ∈ b :: r, p.1 ≠ I := fun p hp => by
  rcases List.mem_cons.mp hp with rfl | hp
  · exact hb
  · exact h p (.tail _ hp)
theorem Gr.back {h₀ s g h' : Heap} {L L' : Addr} {m m' : Str → Option Value} {own all news : List (Addr × Obj)} (G : Gr s own g) (st : ∀ b o, h₀.get? b = some o → g.get? b = some o) (F : Fr h₀ L s m) (N : News h₀ L s (own ++ news)) (hd : ∀ p ∈ news, p.1 ∉ own.map (·.1))
    (F' : Fr g L' h' m') (N' : News g L' h' all) : Fr h₀ L h' m ∧ News h₀ L h' (all ++ news) := by
  obtain ⟨oL, es, ep, hL, hr⟩ := id F.ns
  have nL : L ∉ own.map (·.1) := fun q => by
    obtain ⟨p, hp, e⟩ := List.mem_map.mp q
    exact (N p (List.mem_append_left _ hp)).2.1 e
  have hLg := G.old _ _ hL nL
  refine ⟨⟨⟨oL, es, ep, F'.keep _ _ hLg, hr⟩, fun b o e => F'.keep _ _ (st b o e), F.above⟩, fun p hp => ?_⟩
  rcases List.mem_append.mp hp with hp | hp
  · refine ⟨(N' p hp).1, fun q => ?_, ?_⟩
    · have := (N' p hp).2.2; rw [q, hLg] at this; cases this
    · cases q : h₀.get? p.1 with
      | none => rfl
      | some o => have := (N' p hp).2.2; rw [st _ _ q] at this; cases this
  · have z := N p (List.mem_append_right _ hp)
    exact ⟨F'.keep _ _ (G.old _ _ z.1 (hd p hp)), z.2⟩
theorem News.drop2 {h₀ h : Heap} {L : Addr} {a b : Addr × Obj} {r : List (Addr × Obj)} (N : News h₀ L h (a :: b :: r)) : News h₀ L h (a :: r) := fun p hp => N p (by
  rcases List.mem_cons.mp hp with rfl | hp
  · exact .head _
  · exact .tail _ (.tail _ hp))
theorem len_listN {prog : Program} {w : World} {A : Around} {E : Value → Shared → Prop} {s : Shared} {h₀ : Heap} {L D : Addr} {news : List (Addr × Obj)} {vs : List Value} {ns : List Int} {n : Nat} {Q : Value → Shared → Prop} (N : News h₀ L s.heap news) (hm : (D, listOf vs.toArray n) ∈ news) (hi : IntsAre vs ns) (hfit : ns.length < 2 ^ 62) (h : Q (.int (ns.length : Nat) (s.toks + 1)) { s with toks := s.toks + 1 + 1 }) :
    wpAny (model prog w) A (call (.builtin "len") [.ref D]) Q E s := by
  have e : vs.toArray.size = ns.length := by simp [hi.length]
  refine PyProof.Rows.len_list (N.isList hm) (by (first | lia | omega)) ?_
  rw [e]; exact h
theorem init_at {w : World} {dp un : Nat} {fr : Option (List Env)} {gd : Option (List Code)} {s : Shared} {R : Result → Shared → Prop} {mg mb : Str → Option Value} {h₀ : Heap} {L : Addr} {m : Str → Option Value} {news : List (Addr × Obj)} {x dx : Addr} {ws : Str} {t : Tok}
   (F : Fr h₀ L s.heap m) (N : News h₀ L s.heap ((x, instObj 157 dx) :: (dx, dictOf [] 0) :: news)) (hne : dx < x) (hnx : ∀ p ∈ news, p.1 ≠ x) (hnd : ∀ p ∈ news, p.1 ≠ dx)
   (X : (Mine.hd.heap_39 w.params).In h₀) (T : TopRead Mine.hd.view_39 Mine.hd.lz mg mb h₀) (hroom : dp + 9 < recursionLimit) (hun : un + 40 < cLine) (hlen : ws.length ≤ 20) (hw : ∃ k : Nat, ws.cps[k]? = some 119) (σ : Wst) (hσ : wsFold ws.cps.toList ⟨0, 0, 0, []⟩ = σ)
   (ret : ∀ h' tk nm ct h1 h2 h3 h4 h5 k1 k2 k3 k4 k5 tw tn tnt tb cvs c1 c2, Fr h₀ L h' m → News h₀ L h' ((nm, tupOf [Value.ref ct, .int σ.b tb] c1) :: (ct, tupOf cvs c2) :: (x, instObj 157 dx) :: (dx, wsDict h1 h2 h3 h4 h5 k1 k2 k3 k4 k5 tw tn tnt ws σ.n σ.nt nm (decide (σ.cnt.length ≤ 1))) :: news) → IntsAre cvs σ.cnt → (∀ p ∈ news, p.1 ≠ nm ∧ p.1 ≠ ct) → R (.ok (.ret .none)) { s with heap := h', toks := tk }) :
   codeAny (model prog w) (Ar dp un fr gd) (.call (.ref 112) ⟨[.ref x, .str ws t], []⟩) R s := by
  refine' enterH (own := [(x, instObj 157 dx), (dx, dictOf [] 0)]) (Cx.of X T F N (fun p hp => by rcases List.mem_cons.mp hp with rfl | hp; exact .head _; rcases List.mem_cons.mp hp with rfl | hp; exact .tail _ (.head _); cases hp)) (by k_is) (by k_is) (show dp < _ by omega) (BindsTo.of_eq rfl) (locs rfl) (by decide) ?_
  intro g L' h₁ tk G st X' T' F' N' hlt
  refine hideD fun fr zQ0 zR0 zP0 => ?_
  obtain ⟨hb1, hb2⟩ := List.forall_mem_cons.mp hlt
  replace hne := ltN hne
  clear hlt
  repeat' (first | (k_here; (with_reducible show wpAny _ _ (call (Value.type _) [Value.ref _]) _ _ _); k_dflt (refine' kde_tupleOf ?k1 ?k2 ?k3 ?k4 ?k5 ?_; (case k1 => k_asm); (case k2 => k_asm); (case k3 => exact News.isList (by k_asm) (by k_mem)); (case k4 => (simp only [List.size_toArray]; omega)); (case k5 => rfl); k_whole); intro D'Z h'Z F'Z N'Z l1; (try k_lt l1); (try k_sweep)) | (k_here; (with_reducible show wpAny _ _ (call (Value.builtin "len") [Value.ref _]) _ _ _); k_dflt (refine' len_listN ?k1 ?k2 ?k3 ?k4 ?_; (case k1 => k_asm); (case k2 => k_mem); (case k3 => assumption); (case k4 => omega); k_whole)) | (dsimp only; walk1) | walk1 | refine zP _ ?_ | refine zR0 _ _ ?_ | refine zP0 _ ?_ | refine zC _ ?_ | refine zR _ _ ?_ | refine zB _ ?_ | refine zE _ ?_ | fail "")
  rename Fr _ _ _ _ => F1
  rename News _ _ _ _ => N1
  replace N1 := News.drop2 N1
  refine for_str (fun i m' n' => Off [Str.ofString "ch", Str.ofString "n", Str.ofString "b", Str.ofString "nt", Str.ofString "count"] m' _ ∧ ∃ (σ' : Wst) (l : Nat) (vs : List Value) (c : Nat) (t1 t2 t3 : Tok), n' = (l, listOf vs.toArray c) :: _ ∧ IntsAre vs σ'.cnt ∧ (@LT.lt Nat _ x l ∧ @LT.lt Nat _ dx l) ∧
    m' (Str.ofString "count") = some (.ref l) ∧ m' (Str.ofString "n") = some (.int σ'.n t1) ∧ m' (Str.ofString "b") = some (.int σ'.b t2) ∧ m' (Str.ofString "nt") = some (.int σ'.nt t3) ∧
    WsJ ws.cps.toList σ i σ') rfl F1 N1
    ⟨Off.refl, ⟨0, 0, 0, []⟩, _, [], 0, _, _, _, rfl, .nil, by omega, rfl, rfl, rfl, rfl, ⟨by simpa using hσ, by decide, by decide, by decide, by decide, fun _ hz => (nomatch hz), fun _ hj => (nomatch hj)⟩⟩ ?_ ?_
  · intro I i c u m₁ news₁ h tk oI hI hc hJ F2 N2 hn2
    refine hideL fun zQ zP zC zR zB => ?_
    obtain ⟨hoff, σ', l, vs, cc, t1, t2, t3, rfl, hvs, hl, e1, e2, e3, e4, hW⟩ := hJ
    rw [Off.ov hoff, ov_pin2 (by decide) e1, ov_pin2 (by decide) e2, ov_pin2 (by decide) e3, ov_pin2 (by decide) e4] at F2
    dsimp only at F2 N2 hI ⊢
    clear F1 N1
    have hi20 : i < 20 := by
      have h1 : i < ws.cps.size := by
        rcases Nat.lt_or_ge i ws.cps.size with q | q
        · exact q
        · rw [Array.getElem?_eq_none q] at hc; cases hc
      exact Nat.lt_of_lt_of_le h1 hlen
    obtain ⟨hfold, hb1, hb2, hb3, hb4, hb5, hb6⟩ := id hW
    have hc' : ws.cps.toList[i]? = some c := by simpa using hc
    have hvl : vs.length = σ'.cnt.length := hvs.length
    have hq1 := neN (hn2 _ (.head _))
    have hq2 := neN (hn2 _ (.tail _ (.head _)))
    have hq3 := neN (hn2 _ (.tail _ (.tail _ (.head _))))
    dsimp only at hq1 hq2 hq3
    repeat' (first | (k_here; (with_reducible show wpAny _ _ (call (Value.type _) [Value.ref _]) _ _ _); k_dflt (refine' kde_tupleOf ?k1 ?k2 ?k3 ?k4 ?k5 ?_; (case k1 => k_asm); (case k2 => k_asm); (case k3 => exact News.isList (by k_asm) (by k_mem)); (case k4 => (simp only [List.size_toArray]; omega)); (case k5 => rfl); k_whole); intro D'Z h'Z F'Z N'Z l1; (try k_lt l1); (try k_sweep)) | (k_here; (with_reducible show wpAny _ _ (call (Value.builtin "len") [Value.ref _]) _ _ _); k_dflt (refine' len_listN ?k1 ?k2 ?k3 ?k4 ?_; (case k1 => k_asm); (case k2 => k_mem); (case k3 => assumption); (case k4 => omega); k_whole)) | (dsimp only; walk1) | walk1 | refine zP _ ?_ | refine zR0 _ _ ?_ | refine zP0 _ ?_ | refine zC _ ?_ | refine zR _ _ ?_ | refine zB _ ?_ | refine zE _ ?_ | fail "" | (dsimp only [LPost]; walk1))
    · have q : ((⟨#[c]⟩ : Str) == Str.ofString " ") = true := by assumption
      rw [sp_eq] at q
      obtain rfl := of_decide_eq_true q
      rename Fr _ _ _ _ => F9
      rename News _ _ _ _ => N9
      refine LEnd.intro _ F9 N9 (by k_mem) ?_ ?_ ⟨by (repeat' first | with_reducible exact Off.of_ov | with_reducible exact Off.refl | (with_reducible refine Off.set ?_ ?_; (focus decide)) | exact Off.refl | exact Off.of_ov | exact Off.sub (by decide) Off.of_ov | refine Off.set (by decide) ?_), ⟨σ'.n + 1, σ'.nt, σ'.b + 1, σ'.cnt⟩, _, _, cc, _, _, _, rfl, hvs, hl, rfl, rfl, rfl, rfl, hW.space hc'⟩
      · exact fun p hp => .tail _ hp
      · exact hn2
    · have q : ((⟨#[c]⟩ : Str) == Str.ofString "\t") = true := by assumption
      rw [tb_eq] at q
      obtain rfl := of_decide_eq_true q
      have hp : padF σ'.cnt σ'.b = σ'.cnt ++ (List.replicate (σ'.b - σ'.cnt.length + 1).toNat [0]).flatten := if_pos (by assumption)
      have hT := hW.tab hc'
      rw [hp] at hT
      rename Fr _ _ _ _ => F9
      rename News _ _ _ _ => N9
      rename IntsAre _ _ => I9
      refine LEnd.intro _ F9 N9 mem_4th ?_ ?_ ⟨by (repeat' first | with_reducible exact Off.of_ov | with_reducible exact Off.refl | (with_reducible refine Off.set ?_ ?_; (focus decide)) | exact Off.refl | exact Off.of_ov | exact Off.sub (by decide) Off.of_ov | refine Off.set (by decide) ?_), _, _, _, 0, _, _, _, rfl, I9, ⟨by omega, by omega⟩, rfl, rfl, rfl, rfl, hT⟩
      · exact mem_pick
      · exact ne_cons hn2 (by k_ne)
    · have q : ((⟨#[c]⟩ : Str) == Str.ofString "\t") = true := by assumption
      rw [tb_eq] at q
      obtain rfl := of_decide_eq_true q
      have hp : padF σ'.cnt σ'.b = σ'.cnt := if_neg (by assumption)
      have hT := hW.tab hc'
      rw [hp] at hT
      rename Fr _ _ _ _ => F9
      rename News _ _ _ _ => N9
      rename IntsAre _ _ => I9
      refine LEnd.intro _ F9 N9 (by k_mem) ?_ ?_ ⟨by (repeat' first | with_reducible exact Off.of_ov | with_reducible exact Off.refl | (with_reducible refine Off.set ?_ ?_; (focus decide)) | exact Off.refl | exact Off.of_ov | exact Off.sub (by decide) Off.of_ov | refine Off.set (by decide) ?_), _, _, _, cc, _, _, _, rfl, I9, hl, rfl, rfl, rfl, rfl, hT⟩
      · exact fun p hp => .tail _ hp
      · exact ne_head hn2
    · have q1 : ((⟨#[c]⟩ : Str) == Str.ofString " ") = false := by assumption
      have q2 : ((⟨#[c]⟩ : Str) == Str.ofString "\t") = false := by assumption
      rw [sp_eq] at q1
      rw [tb_eq] at q2
      obtain rfl := hW.stop hc' (of_decide_eq_false q1) (of_decide_eq_false q2)
      rename Fr _ _ _ _ => F9
      rename News _ _ _ _ => N9
      obtain ⟨FF, NN⟩ := G.back st F N (fun p hp q => by
        rcases List.mem_cons.mp q with e | q
        · exact hnx p hp e
        · exact hnd p hp (List.mem_singleton.mp q)) F9 N9
      have hsm : (decide ((σ'.cnt.length : Int) ≤ 1)) = decide (σ'.cnt.length ≤ 1) := decide_eq_decide.mpr (by omega)
      rw [hsm] at NN
      have e1 := (N9 _ (.head _)).2.2
      have e2 := (N9 _ (.tail _ (.head _))).2.2
      dsimp only at e1 e2
      refine ret _ _ _ _ _ _ _ _ _ _ _ _ _ _ _ _ _ _ _ _ _ FF (News.drop34 NN) hvs (fun p hp => ?_)
      have e3 := G.old p.1 p.2 (N p (.tail _ (.tail _ hp))).1 (fun q => by
        rcases List.mem_cons.mp q with e | q
        · exact hnx p hp e
        · exact hnd p hp (List.mem_singleton.mp q))
      exact ⟨fun e => (by rw [e, e1] at e3; cases e3), fun e => (by rw [e, e2] at e3; cases e3)⟩
  · intro m₁ news₁ h tk hJ F2 N2
    obtain ⟨hoff, σ', l, vs, cc, t1, t2, t3, rfl, hvs, hl, e1, e2, e3, e4, hW⟩ := hJ
    obtain ⟨k, hk⟩ := hw
    refine absurd (show ws.cps.toList[k]? = some 119 by simpa using hk) (hW.no k (by
      rcases Nat.lt_or_ge k ws.cps.size with q | q
      · exact q
      · rw [Array.getElem?_eq_none q] at hk; cases hk))

end P11
section P12


theorem ws_new {w : World} {dp un : Nat} {fr : Option (List Env)} {gd : Option (List Code)} {E : Value → Shared → Prop} {s : Shared} {Q : Value → Shared → Prop} {mg mb : Str → Option Value} {h₀ : Heap} {L : Addr} {m : Str → Option Value} {news : List (Addr × Obj)} {ws : Str} {t : Tok}
   (F : Fr h₀ L s.heap m) (N : News h₀ L s.heap news)
   (X : (Mine.hd.heap_39 w.params).In h₀) (T : TopRead Mine.hd.view_39 Mine.hd.lz mg mb h₀) (hroom : dp + 12 < recursionLimit) (hun : un + 60 < cLine) (hlen : ws.length ≤ 20) (hw : ∃ k : Nat, ws.cps[k]? = some 119) (σ : Wst) (hσ : wsFold ws.cps.toList ⟨0, 0, 0, []⟩ = σ)
   (ret : ∀ h' tk (x dx : Addr) nm ct h1 h2 h3 h4 h5 k1 k2 k3 k4 k5 tw tn tnt tb cvs c1 c2, (∀ p ∈ news, p.1 < dx) → dx < x → Fr h₀ L h' m → News h₀ L h' ((nm, tupOf [Value.ref ct, .int σ.b tb] c1) :: (ct, tupOf cvs c2) :: (x, instObj 157 dx) :: (dx, wsDict h1 h2 h3 h4 h5 k1 k2 k3 k4 k5 tw tn tnt ws σ.n σ.nt nm (decide (σ.cnt.length ≤ 1))) :: news) → IntsAre cvs σ.cnt → (∀ p ∈ news, p.1 ≠ nm ∧ p.1 ≠ ct) → Q (.ref x) { s with heap := h', toks := tk }) :
   wpAny (model prog w) (Ar dp un fr gd) (call (.ref 157) [.str ws t]) Q E s := by
  refine' call_cls F X N (by k_is) (by k_is) (by k_is) ?_
  intro x dx h' F' N' l1 l2
  refine init_at F' N' l2 (fun p hp => Nat.ne_of_lt (Nat.lt_trans (l1 p hp) l2)) (fun p hp => Nat.ne_of_lt (l1 p hp)) X T ?hr ?hu hlen hw σ hσ ?_
  case hr => (show dp + 1 + 9 < recursionLimit); (first | lia | omega)
  case hu => exact Nat.lt_of_le_of_lt (Nat.add_le_add_right (Nat.add_le_add_left (show _ ≤ 10 from Nat.le_of_ble_eq_true rfl) _) _) (show un + 10 + 40 < cLine by (first | lia | omega))
  intro h'' tk nm ct h1 h2 h3 h4 h5 k1 k2 k3 k4 k5 tw tn tnt tb cvs c1 c2 F'' N'' hc hf
  exact ⟨rfl, ret h'' tk x dx nm ct h1 h2 h3 h4 h5 k1 k2 k3 k4 k5 tw tn tnt tb cvs c1 c2 l1 l2 F'' N'' hc hf⟩
theorem WsAt.of {h₀ h : Heap} {L : Addr} {all : List (Addr × Obj)} {x dx nm ct : Addr} {h1 h2 h3 h4 h5 : Int} {k1 k2 k3 k4 k5 tw tn tnt tb : Tok} {cvs : List Value} {c1 c2 : Nat} {ws : Str} {σ : Wst} {sm : Bool} (N : News h₀ L h all)
    (m1 : (nm, tupOf [Value.ref ct, .int σ.b tb] c1) ∈ all) (m2 : (ct, tupOf cvs c2) ∈ all) (m3 : (x, instObj 157 dx) ∈ all) (m4 : (dx, wsDict h1 h2 h3 h4 h5 k1 k2 k3 k4 k5 tw tn tnt ws σ.n σ.nt nm sm) ∈ all) (hc : IntsAre cvs σ.cnt)
    (b1 : 0 ≤ σ.n ∧ σ.n < 20) (b2 : 0 ≤ σ.nt ∧ σ.nt < 10) (b3 : σ.cnt.length ≤ 3) (b4 : ∀ c ∈ σ.cnt, 0 ≤ c ∧ c < 10) (b5 : 0 ≤ σ.b ∧ σ.b ≤ 2) : WsAt h x σ.n σ.nt σ.cnt σ.b sm :=
  ⟨⟨dx, nm, ct, h1, h2, h3, h4, h5, k1, k2, k3, k4, k5, tw, tn, tnt, tb, ws, cvs, (N _ m3).1, (N _ m4).1, News.isTup N m1, News.isTup N m2, hc⟩, b1, b2, b3, b4, b5⟩
/-- the four leads -/
noncomputable def leadS (i : Nat) : List Nat := if i = 0 then [] else if i = 1 then [9] else if i = 2 then [32, 9] else [32, 32, 9]
noncomputable def pieceS (i : Nat) : List Nat := if i = 0 then [32, 32] else if i = 1 then [9, 32] else if i = 2 then [32, 9] else [9, 9]
noncomputable def leadW (a b j : Nat) : List Nat := leadS a ++ (if j % 2 = 0 then [9] else [32, 9]) ++ (if j < 2 then [] else pieceS b) ++ [119]
noncomputable def leadP (a b j : Nat) : Wp := let σ := wsFold (leadW a b j) ⟨0, 0, 0, []⟩; ⟨σ.n, σ.nt, σ.cnt, σ.b, decide (σ.cnt.length ≤ 1)⟩
noncomputable def okLeads : Bool := (List.range 4).all fun a => (List.range 4).all fun b => (List.range 4).all fun i => (List.range 4).all fun j => (leadP a b i).less (leadP a b j) == decide (i / 2 < j / 2)
theorem leads_ok : okLeads = true := by decide +kernel
noncomputable def okBounds : Bool := (List.range 4).all fun a => (List.range 4).all fun b => (List.range 4).all fun i => let p := leadP a b i; decide (0 ≤ p.n ∧ p.n < 20) && decide (0 ≤ p.nt ∧ p.nt < 10) && decide (p.cnt.length ≤ 3) && p.cnt.all (fun c => decide (0 ≤ c ∧ c < 10)) && decide (0 ≤ p.b ∧ p.b ≤ 2)
theorem bounds_ok : okBounds = true := by decide +kernel

end P12
section P13


theorem entry_itemiter : entryFor table "dict_itemiterator.__iter__" = some Builtin.«dict_keyiterator.__iter__» :=
  entryFor_alias (id' := "dict_keyiterator.__iter__") (by kernel_rfl) rfl (by decide +kernel) (by kernel_rfl)
theorem Iter.items {prg : Program} {w : World} {A : Around} {K : Type} [DecidableEq K] {knd : KeyKind prg w K} {elts : List PySem.Expr} {x1} {tp : Pos} (hh : A.handled = none) (I d : Addr) (hne : d ≠ I) (kvs : List (K × Value)) (ep : Nat) :
    Iter prg w A (.Tuple elts x1 tp) I [I, d] kvs.length (fun i v ex => ∃ k x key a, kvs[i]? = some (k, x) ∧ knd.is k key = true ∧ v = .ref a ∧ ex = [(a, tupOf [key, x] 0)])
      (fun i h => (∃ ok ov, IsItemIter h I d i kvs.length ep ok ov) ∧ h.DictAt knd d kvs ep) where
  frame := fun _ _ _ st hk => ⟨let ⟨ok, ov, e⟩ := st.1; ⟨ok, ov, hk I (by simp) _ e⟩, st.2.at' fun o e => hk d (by simp) o e⟩
  alive := fun _ _ st => let ⟨_, _, e⟩ := st.1; ⟨_, e⟩
  item := fun i s Q E hi st hQ => by
    obtain ⟨⟨ok, ov, hit⟩, hm⟩ := st
    obtain ⟨⟨k, x⟩, hx⟩ : ∃ p, kvs[i]? = some p := ⟨kvs[i], by simp [hi]⟩
    have hIlt : I < s.heap.objs.size := Heap.lt_size hit
    refine wpAny_pyNext_items_item hit hm hx fun key h' hkey hout htup hsz hk => ?_
    refine hQ _ [(s.heap.objs.size, tupOf [key, x] 0)] h' s.toks ⟨k, x, key, _, hx, hkey, rfl, rfl⟩ (fun Q' E' kk => ?_) (fun p hp => ?_) (fun b o hb e => hk b o hb e)
    · refine wpAny_letOwnedTupleGo_items hout fun h'' hit'' hs => ?_
      exact kk h'' ⟨⟨_, _, hit''⟩, (hm.at' fun o e => hs.extBut _ _ hne (hk d o hne e))⟩ fun b o hb e => hs.extBut b o hb e
    · rw [List.mem_singleton.mp hp]; exact ⟨htup, Nat.le_refl _⟩
  done := fun s Q E st hQ => by
    obtain ⟨⟨ok, ov, hit⟩, hm⟩ := st
    exact wpAny_pyNext_items_end hh hit hm (by simp) fun h' he => hQ h' s.toks fun b o hb e => he b o hb e
  self := fun _ s _ _ st hQ => by
    obtain ⟨⟨ok, ov, hit⟩, hm⟩ := st
    have hT : s.TypeIs (.ref I) "dict_itemiterator" := ⟨_, hit, rfl⟩
    refine wpAny_pyIter_slot hT F.slot_dict_itemiterator_iter (wpAny_call_entry F.slot_dict_itemiterator_iter hT entry_itemiter ?_ (F.args_dict_itemiterator_iter_1 _))
    show wpAny _ _ (ret (.ref I)) _ _ s
    exact wpAny_pure ⟨_, rfl, "dict_itemiterator", _, hT, F.slot_dict_itemiterator_next.lookup, hQ⟩
theorem for_items {prg : Program} {w : World} {A : Around} {E E' : Value → Shared → Prop} {s : Shared} {h₀ : Heap} {env : Env} {m : Str → Option Value} {news : List (Addr × Obj)} {K : Type} [DecidableEq K] {knd : KeyKind prg w K} {elts : List PySem.Expr} {x1} {tp : Pos} {body : List Stmt} {Q : Flow → Shared → Prop} {d : Addr} {kvs : List (K × Value)} (J : Nat → (Str → Option Value) → List (Addr × Obj) → Prop) (hh : A.handled = none)
    (F : Fr h₀ env.locals s.heap m) (N : News h₀ env.locals s.heap news) (hd : h₀.DictOf knd d kvs) (lo : (d == sysModules) = false)
    (hj : J 0 m news)
    (turn : ∀ I i k x key a m₁ news₁ h tk oI, s.heap.objs.size < I → kvs[i]? = some (k, x) → knd.is k key = true → J i m₁ news₁ → Fr h₀ env.locals h m₁ → News h₀ env.locals h ((I, oI) :: (a, tupOf [key, x] 0) :: news₁) → (∀ p ∈ news₁, p.1 ≠ I) →
      wpAny (model prg w) A (assign (.Tuple elts x1 tp) env (.ref a)) (fun _ s₂ => wpAny (model prg w) A (execs body env) (LPost h₀ env.locals I oI (J (i + 1)) { s with heap := h, toks := tk } Q) (fun _ _ => False) s₂) (fun _ _ => False) { s with heap := h, toks := tk })
    (done : ∀ m₁ news₁ h tk, J kvs.length m₁ news₁ → Fr h₀ env.locals h m₁ → News h₀ env.locals h news₁ → Q .next { s with heap := h, toks := tk }) :
    wpAny (model prg w) A (call (.builtin "dict.items") [.ref d]) (fun x s₁ => wpAny (model prg w) A (pyIter x) (fun it s₂ => codeAny (model prg w) A (.forLoop (.Tuple elts x1 tp) it body [] env) (fun r s' => match r with | .ok f => Q f s' | .error e => E' e s') s₂) E s₁) E s := by
  obtain ⟨o, es, ep, ho, hx⟩ := id hd
  have hds : s.heap.DictOf knd d kvs := ⟨o, es, ep, F.keep _ _ ho, hx⟩
  refine call_meetsIn PySem.F.slot_dict_items hds.mapOf.typeIs PySem.F.entry_dict_items (PySem.F.args_dict_items_1 _) (meets_dict_items knd d lo) ⟨⟨_, hds⟩, ?_⟩
  generalize hV : ({ cls := .type "dict_items", data := .fields #[.ref d] } : Obj) = V
  have hat : (s.heap.push V).DictAt knd d kvs ep := ⟨o, es, Heap.get?_push_of_some _ (F.keep _ _ ho), hx⟩
  refine wpAny_pyIter_items (s := { s with heap := s.heap.push V }) (d := d) (ep := ep) ⟨V, Heap.get?_push_size _ (by rw [← hV]; rfl), by rw [← hV], by rw [← hV]⟩ hat ?_
  refine for_new (s := { s with heap := s.heap.push V }) J (Iter.items (knd := knd) hh (s.heap.push V).objs.size d (Nat.ne_of_lt (Heap.lt_size (Heap.get?_push_of_some V (F.keep _ _ ho)))) kvs ep) (F.push _) (fun p hp => ⟨Heap.get?_push_of_some _ (N p hp).1, (N p hp).2⟩)
    ⟨⟨_, _, Heap.get?_push_size _ rfl⟩, hat.at' fun o e => Heap.get?_push_of_some _ e⟩ (fun b hb hbI => ?_) hj (fun I i v ex m₁ news₁ h tk oI hI hi hP hj' F' N' hn' => ?_) done
  · rcases List.mem_cons.mp hb with h | h
    · exact absurd h hbI
    · rw [List.mem_singleton.mp h]; exact ⟨o, fun _ _ _ _ _ F' _ => F'.keep _ _ ho⟩
  · obtain ⟨k, x, key, a, hx, hkey, rfl, rfl⟩ := hP
    exact turn I i k x key a m₁ news₁ h tk oI (by rw [hI]; show s.heap.objs.size < (s.heap.push V).objs.size; rw [Heap.size_push]; exact Nat.lt_succ_self _) hx hkey hj' F' N' hn'
noncomputable def dOf (l : List (Int × Int)) : List (PyData × PyData) := l.map fun p => (.int p.1, .int p.2)
noncomputable def putL (k c : Int) (l : List (Int × Int)) : List (Int × Int) := if l.any (fun p => decide (p.1 = k)) then l.map (fun p => if p.1 = k then (p.1, c) else p) else l ++ [(k, c)]
noncomputable def getL (k : Int) : List (Int × Int) → Option Int
  | [] => none
  | (a, b) :: r => if a = k then some b else getL k r
noncomputable def addL (l : List (Int × Int)) (p : Int × Int) : List (Int × Int) := match getL p.1 l with | some b => putL p.1 (b + p.2) l | none => putL p.1 p.2 l
theorem put_dOf (k c : Int) (l : List (Int × Int)) : PyProof.V.putD (.int k) (.int c) (dOf l) = dOf (putL k c l) := by
  unfold PyProof.V.putD putL dOf
  have e : (l.map fun p => ((PyData.int p.1, PyData.int p.2) : PyData × PyData)).any (fun p => PySem.Spec.same p.1 (.int k)) = l.any (fun p => decide (p.1 = k)) := by
    rw [List.any_map]
    congr 1 <;> (funext p; simp [PyProof.V.same_int])
  rw [e]
  split
  · rw [List.map_map, List.map_map]
    refine List.map_congr_left fun p _ => ?_
    simp only [Function.comp, PyProof.V.same_int]
    by_cases h : p.1 = k <;> simp [h]
  · simp
theorem get_dOf (k : Int) : ∀ l, PySem.Spec.lookup (.int k) (dOf l) = (getL k l).map .int
  | [] => rfl
  | (a, b) :: r => by
    have ih := get_dOf k r
    simp only [dOf, List.map_cons, PySem.Spec.lookup, PyProof.V.same_int, getL] at ih ⊢
    by_cases h : a = k
    · subst h; simp
    · simp [h, ih]
theorem dOf_at : ∀ {kvs : List (Int × Value)} {l : List (Int × Int)} {i : Nat} {k : Int} {x : Value}, PyProof.V.FlatPairs PyData.int kvs (dOf l) → kvs[i]? = some (k, x) → ∃ c t, l[i]? = some (k, c) ∧ x = .int c t
  | [], _, _, _, _, _, h => by simp at h
  | (k', v) :: r, [], _, _, _, hf, _ => by cases hf
  | (k', v) :: r, (a, b) :: l, i, k, x, hf, h => by
    have e : dOf ((a, b) :: l) = (PyData.int a, PyData.int b) :: dOf l := rfl
    rw [e] at hf
    cases hf with
    | cons h1 h2 =>
      cases i with
      | zero =>
        simp only [List.getElem?_cons_zero, Option.some.injEq, Prod.mk.injEq] at h
        obtain ⟨rfl, rfl⟩ := h
        obtain ⟨t, rfl⟩ := h1.int_inv
        exact ⟨b, t, rfl, rfl⟩
      | succ i =>
        have h' : r[i]? = some (k, x) := by simpa using h
        obtain ⟨c, t, e1, e2⟩ := dOf_at h2 h'
        exact ⟨c, t, by simpa using e1, e2⟩
theorem putL_len (k c : Int) (l : List (Int × Int)) : (putL k c l).length ≤ l.length + 1 := by
  unfold putL
  split <;> simp
theorem foldl_len {f : List (Int × Int) → Int × Int → List (Int × Int)} (hf : ∀ l p, (f l p).length ≤ l.length + 1) : ∀ (ps l : List (Int × Int)), (ps.foldl f l).length ≤ l.length + ps.length
  | [], l => by simp
  | p :: ps, l => by
    have h1 := foldl_len hf ps (f l p)
    have h2 := hf l p
    simp only [List.foldl_cons, List.length_cons]
    (first | lia | omega)
theorem addL_len (l : List (Int × Int)) (p : Int × Int) : (addL l p).length ≤ l.length + 1 := by
  unfold addL
  split <;> exact putL_len _ _ _
theorem set_dict {prog : Program} {w : World} {A : Around} {E : Value → Shared → Prop} {s : Shared} {h₀ : Heap} {L d : Addr} {m : Str → Option Value} {news : List (Addr × Obj)} {g : Obj → List (Addr × Obj)} {o : Obj} {kvs : List (Int × Value)} {l : List (Int × Int)} {k c : Int} {t u : Tok} {Q : Unit → Shared → Prop}
    (F : Fr h₀ L s.heap m) (N : News h₀ L s.heap news) (U : UpdF d o news g) (hd : Obj.IsDictOf (intKind prog w) o kvs) (hf : PyProof.V.FlatPairs PyData.int kvs (dOf l)) (hsz : l.length ≤ 1000)
    (h : ∀ h' o' kvs', Fr h₀ L h' m → News h₀ L h' (g o') → Obj.IsDictOf (intKind prog w) o' kvs' → PyProof.V.FlatPairs PyData.int kvs' (dOf (putL k c l)) → Q () { s with heap := h', toks := s.toks + 1 }) :
    wpAny (model prog w) A (setItem (.ref d) (.int k t) (.int c u)) Q E s :=
  setItem_K PyProof.V.same_int (intKind_is prog w k t) (PyProof.V.Flat.int c u) F N U hd hf (fun h' o' F' N' hd' hf' => h h' o' _ F' N' hd' (by rw [put_dOf] at hf'; exact hf')) (by rw [dOf, List.length_map]; exact Nat.le_trans hsz (by decide))
theorem add_sum {w : World} {dp un : Nat} {fr : Option (List Env)} {gd : Option (List Code)} {s : Shared} {R : Result → Shared → Prop} {mg mb : Str → Option Value} {dt ds : Addr} {lt ls : List (Int × Int)}
   (X : (Mine.hd.heap_39 w.params).In s.heap) (T : TopRead Mine.hd.view_39 Mine.hd.lz mg mb s.heap) (hroom : dp + 9 < recursionLimit) (hun : un + 40 < cLine)
   (ht : PyProof.Rows.IntTab prog w s.heap dt (dOf lt)) (hs : PyProof.Rows.IntTab prog w s.heap ds (dOf ls)) (hlt : lt.length ≤ 100) (hls : ls.length ≤ 100)
   (ret : ∀ h' tk r, (∀ b o, s.heap.get? b = some o → h'.get? b = some o) → PyProof.Rows.IntTab prog w h' r (dOf (ls.foldl addL (lt.foldl (fun l p => putL p.1 p.2 l) []))) → s.heap.get? r = none → R (.ok (.ret (.ref r))) { s with heap := h', toks := tk }) :
   codeAny (model prog w) (Ar dp un fr gd) (.call (.ref 56) ⟨[.ref dt, .ref ds], []⟩) R s := by
  obtain ⟨lo1, kt, hkt, hft⟩ := id ht
  obtain ⟨lo2, ks, hks, hfs⟩ := id hs
  refine' enter (T.nolimit) (X 56 _ (by k_is)) rfl (codeRec_of X (by k_is)) (show dp < _ by (first | lia | omega)) (BindsTo.of_eq rfl) (locs rfl) (by decide) ?_
  intro h₁ tk F
  refine hideD fun fr zQ0 zR0 zP0 => ?_
  have N : News s.heap s.heap.objs.size h₁ [] := News.nil
  repeat' (first | (k_here; (with_reducible show wpAny _ _ (setItem (Value.ref _) (Value.int _ _) (Value.int _ _)) _ _ _); k_dflt (refine' set_dict ?k1 ?k2 ?k3 ?k4 ?k5 ?k6 ?_; (case k1 => k_asm); (case k2 => k_asm); (case k3 => k_updF); (case k4 => assumption); (case k5 => assumption); (case k6 => (first | lia | omega)); k_whole); intro h'Z o'Z kvs'Z F'Z N'Z hd'Z hf'Z; (try dsimp only at N'Z); (try k_sweep)) | walk1 | (dsimp only; walk1) | refine zP _ ?_ | refine zR0 _ _ ?_ | refine zP0 _ ?_ | refine zC _ ?_ | refine zR _ _ ?_ | refine zB _ ?_ | refine zE _ ?_ | fail "")
  rename Fr _ _ _ _ => F1
  rename News _ _ _ _ => N1
  rename Obj.IsDictOf (intKind _ _) _ _ => hd1
  rename PyProof.V.FlatPairs PyData.int _ _ => hf1
  rename Addr => D0
  have hsys := (by assumption : (D0 == sysModules) = false)
  show wpAny _ _ (call (.builtin "dict.items") [.ref dt]) _ _ _
  refine for_items (knd := intKind prog w) (kvs := kt) (fun i m' n' => Off [Str.ofString "func", Str.ofString "caller"] m' _ ∧ ∃ (o : Obj) (kvs : List (Int × Value)), n' = [(D0, o)] ∧ Obj.IsDictOf (intKind prog w) o kvs ∧ PyProof.V.FlatPairs PyData.int kvs (dOf ((lt.take i).foldl (fun l p => putL p.1 p.2 l) []))) rfl F1 N1 hkt lo1 ⟨Off.refl, _, _, rfl, hd1, hf1⟩ ?_ ?_
  · intro I i k x key a m₁ news₁ h tk oI hI hx hkey hJ F2 N2 hn2
    refine hideL fun zQ zP zC zR zB => ?_
    obtain ⟨hoff, o, kvs, rfl, hd2, hf2⟩ := hJ
    rw [Off.ov hoff] at F2
    dsimp only at F2 N2 ⊢
    clear F1 N1
    obtain ⟨c, tc, hl, rfl⟩ := dOf_at hft hx
    obtain ⟨tkey, rfl⟩ := Value.isInt_shape hkey
    have hq2 := neN (show a ≠ D0 from fun e => by
      have x1 := (N2 _ (.tail _ (.head _))).1
      have x2 := (N2 _ (.tail _ (.tail _ (.head _)))).1
      obtain ⟨es, ep, _, hdata, _⟩ := hd2
      dsimp only at x1 x2
      rw [e, x2] at x1
      injection x1 with x1
      rw [x1] at hdata
      cases hdata)
    refine unpackN_ F2 N2 (News.isTup N2 (.tail _ (.head _))) rfl rfl rfl ?_
    intro h3 F3 N3
    clear F2 N2
    have hq1 := neN (hn2 _ (.head _))
    dsimp only at hq1
    have hstep := take_step (f := fun (l : List (Int × Int)) (p : Int × Int) => putL p.1 p.2 l) (r := []) hl rfl
    have hlen := foldl_len (f := fun l p => putL p.1 p.2 l) (fun l p => putL_len _ _ _) (lt.take i) []
    have hlen2 : (lt.take i).length ≤ 100 := by rw [List.length_take]; (first | lia | omega)
    simp only [List.length_nil] at hlen
    generalize hrow : (lt.take i).foldl (fun l p => putL p.1 p.2 l) [] = row at *
    repeat' (first | (k_here; (with_reducible show wpAny _ _ (setItem (Value.ref _) (Value.int _ _) (Value.int _ _)) _ _ _); k_dflt (refine' set_dict ?k1 ?k2 ?k3 ?k4 ?k5 ?k6 ?_; (case k1 => k_asm); (case k2 => k_asm); (case k3 => k_updF); (case k4 => assumption); (case k5 => assumption); (case k6 => (first | lia | omega)); k_whole); intro h'Z o'Z kvs'Z F'Z N'Z hd'Z hf'Z; (try dsimp only at N'Z); (try k_sweep)) | walk1 | (dsimp only; walk1) | refine zP _ ?_ | refine zR0 _ _ ?_ | refine zP0 _ ?_ | refine zC _ ?_ | refine zR _ _ ?_ | refine zB _ ?_ | refine zE _ ?_ | fail "")
    all_goals (try (first | refine zP _ ?_ | dsimp only [LPost] | fail ""))
    rename Fr _ _ _ _ => F9
    rename News _ _ _ _ => N9
    rename Obj.IsDictOf (intKind _ _) _ _ => d9
    rename PyProof.V.FlatPairs PyData.int _ _ => f9
    exact LEnd.one F9 N9 (.head _) (.tail _ (.tail _ (.head _))) hq1 ⟨by (repeat' first | with_reducible exact Off.of_ov | with_reducible exact Off.refl | (with_reducible refine Off.set ?_ ?_; (focus decide)) | exact Off.refl | exact Off.of_ov | exact Off.sub (by decide) Off.of_ov | refine Off.set (by decide) ?_), _, _, rfl, d9, by rw [hstep]; exact f9⟩
  · intro m₁ news₁ h tk hJ F2 N2
    obtain ⟨hoff, o, kvs, rfl, hd2, hf2⟩ := hJ
    rw [Off.ov hoff] at F2
    dsimp only at F2 N2 ⊢
    clear F1 N1 hd1 hf1
    have e1 : lt.take kt.length = lt := by rw [← hft.length, dOf, List.length_map, List.take_length]
    rw [e1] at hf2
    have hlen := foldl_len (f := fun l p => putL p.1 p.2 l) (fun l p => putL_len _ _ _) lt []
    simp only [List.length_nil] at hlen
    generalize hrow : lt.foldl (fun l p => putL p.1 p.2 l) [] = row at *
    repeat' (first | (k_here; (with_reducible show wpAny _ _ (setItem (Value.ref _) (Value.int _ _) (Value.int _ _)) _ _ _); k_dflt (refine' set_dict ?k1 ?k2 ?k3 ?k4 ?k5 ?k6 ?_; (case k1 => k_asm); (case k2 => k_asm); (case k3 => k_updF); (case k4 => assumption); (case k5 => assumption); (case k6 => (first | lia | omega)); k_whole); intro h'Z o'Z kvs'Z F'Z N'Z hd'Z hf'Z; (try dsimp only at N'Z); (try k_sweep)) | walk1 | (dsimp only; walk1) | refine zP _ ?_ | refine zR0 _ _ ?_ | refine zP0 _ ?_ | refine zC _ ?_ | refine zR _ _ ?_ | refine zB _ ?_ | refine zE _ ?_ | fail "")
    rename Fr _ _ _ _ => F1
    rename News _ _ _ _ => N1
    refine for_items (knd := intKind prog w) (kvs := ks) (fun i m' n' => Off [Str.ofString "func", Str.ofString "caller"] m' _ ∧ ∃ (o : Obj) (kvs : List (Int × Value)), n' = [(D0, o)] ∧ Obj.IsDictOf (intKind prog w) o kvs ∧ PyProof.V.FlatPairs PyData.int kvs (dOf ((ls.take i).foldl addL row))) rfl F1 N1 hks lo2 ⟨Off.refl, _, _, rfl, hd2, hf2⟩ ?_ ?_
    · intro I i k x key a m₂ news₂ h2 tk2 oI hI hx hkey hJ F2 N2 hn2
      refine hideL fun zQ zP zC zR zB => ?_
      obtain ⟨hoff2, o2, kvs2, rfl, hd3, hf3⟩ := hJ
      rw [Off.ov hoff2] at F2
      dsimp only at F2 N2 ⊢
      clear F1 N1
      obtain ⟨c, tc, hl, rfl⟩ := dOf_at hfs hx
      obtain ⟨tkey, rfl⟩ := Value.isInt_shape hkey
      have hq2 := neN (show a ≠ D0 from fun e => by
        have x1 := (N2 _ (.tail _ (.head _))).1
        have x2 := (N2 _ (.tail _ (.tail _ (.head _)))).1
        obtain ⟨es, ep, _, hdata, _⟩ := hd3
        dsimp only at x1 x2
        rw [e, x2] at x1
        injection x1 with x1
        rw [x1] at hdata
        cases hdata)
      refine unpackN_ F2 N2 (News.isTup N2 (.tail _ (.head _))) rfl rfl rfl ?_
      intro h3 F3 N3
      clear F2 N2
      have hq1 := neN (hn2 _ (.head _))
      dsimp only at hq1
      have hstep := take_step (f := addL) (r := row) hl rfl
      have hlen3 := foldl_len (f := addL) addL_len (ls.take i) row
      have hlen2 : (ls.take i).length ≤ 100 := by rw [List.length_take]; (first | lia | omega)
      generalize hrow2 : (ls.take i).foldl addL row = row2 at *
      cases hg : getL k row2 with
      | none =>
        have hlk : PySem.Spec.lookup (.int k) (dOf row2) = none := by rw [get_dOf, hg]; rfl
        repeat' (first | (k_here; (with_reducible show wpAny _ _ (setItem (Value.ref _) (Value.int _ _) (Value.int _ _)) _ _ _); k_dflt (refine' set_dict ?k1 ?k2 ?k3 ?k4 ?k5 ?k6 ?_; (case k1 => k_asm); (case k2 => k_asm); (case k3 => k_updF); (case k4 => assumption); (case k5 => assumption); (case k6 => (first | lia | omega)); k_whole); intro h'Z o'Z kvs'Z F'Z N'Z hd'Z hf'Z; (try dsimp only at N'Z); (try k_sweep)) | walk1 | (dsimp only; walk1) | refine zP _ ?_ | refine zR0 _ _ ?_ | refine zP0 _ ?_ | refine zC _ ?_ | refine zR _ _ ?_ | refine zB _ ?_ | refine zE _ ?_ | fail "")
        · exfalso; rename Option.isSome _ = true => q; rw [hlk] at q; cases q
        · skip
          all_goals (try (first | refine zP _ ?_ | dsimp only [LPost] | fail ""))
          rename Fr _ _ _ _ => F9
          rename News _ _ _ _ => N9
          rename Obj.IsDictOf (intKind _ _) _ _ => d9
          rename PyProof.V.FlatPairs PyData.int _ _ => f9
          exact LEnd.one F9 N9 (.head _) (.tail _ (.tail _ (.head _))) hq1 ⟨by (repeat' first | with_reducible exact Off.of_ov | with_reducible exact Off.refl | (with_reducible refine Off.set ?_ ?_; (focus decide)) | exact Off.refl | exact Off.of_ov | exact Off.sub (by decide) Off.of_ov | refine Off.set (by decide) ?_), _, _, rfl, d9, by rw [hstep]; unfold addL; rw [hg]; exact f9⟩
      | some b =>
        have hlk : PySem.Spec.lookup (.int k) (dOf row2) = some (.int b) := by rw [get_dOf, hg]; rfl
        repeat' (first | (k_here; (with_reducible show wpAny _ _ (setItem (Value.ref _) (Value.int _ _) (Value.int _ _)) _ _ _); k_dflt (refine' set_dict ?k1 ?k2 ?k3 ?k4 ?k5 ?k6 ?_; (case k1 => k_asm); (case k2 => k_asm); (case k3 => k_updF); (case k4 => assumption); (case k5 => assumption); (case k6 => (first | lia | omega)); k_whole); intro h'Z o'Z kvs'Z F'Z N'Z hd'Z hf'Z; (try dsimp only at N'Z); (try k_sweep)) | walk1 | (dsimp only; walk1) | refine zP _ ?_ | refine zR0 _ _ ?_ | refine zP0 _ ?_ | refine zC _ ?_ | refine zR _ _ ?_ | refine zB _ ?_ | refine zE _ ?_ | fail "")
        · skip
          all_goals (try (first | refine zP _ ?_ | dsimp only [LPost] | fail ""))
          rename Fr _ _ _ _ => F9
          rename News _ _ _ _ => N9
          rename Obj.IsDictOf (intKind _ _) _ _ => d9
          rename PyProof.V.FlatPairs PyData.int _ _ => f9
          exact LEnd.one F9 N9 (.head _) (.tail _ (.tail _ (.head _))) hq1 ⟨by (repeat' first | with_reducible exact Off.of_ov | with_reducible exact Off.refl | (with_reducible refine Off.set ?_ ?_; (focus decide)) | exact Off.refl | exact Off.of_ov | exact Off.sub (by decide) Off.of_ov | refine Off.set (by decide) ?_), _, _, rfl, d9, by rw [hstep]; unfold addL; rw [hg]; exact f9⟩
        · exfalso; rename Option.isSome _ = false => q; rw [hlk] at q; cases q
    · intro m₂ news₂ h2 tk2 hJ F2 N2
      obtain ⟨hoff2, o2, kvs2, rfl, hd3, hf3⟩ := hJ
      rw [Off.ov hoff2] at F2
      dsimp only at F2 N2 ⊢
      clear F1 N1
      have e2 : ls.take ks.length = ls := by rw [← hfs.length, dOf, List.length_map, List.take_length]
      rw [e2] at hf3
      repeat' (first | (k_here; (with_reducible show wpAny _ _ (setItem (Value.ref _) (Value.int _ _) (Value.int _ _)) _ _ _); k_dflt (refine' set_dict ?k1 ?k2 ?k3 ?k4 ?k5 ?k6 ?_; (case k1 => k_asm); (case k2 => k_asm); (case k3 => k_updF); (case k4 => assumption); (case k5 => assumption); (case k6 => (first | lia | omega)); k_whole); intro h'Z o'Z kvs'Z F'Z N'Z hd'Z hf'Z; (try dsimp only at N'Z); (try k_sweep)) | walk1 | (dsimp only; walk1) | refine zP _ ?_ | refine zR0 _ _ ?_ | refine zP0 _ ?_ | refine zC _ ?_ | refine zR _ _ ?_ | refine zB _ ?_ | refine zE _ ?_ | fail "")
      try dsimp only
      exact ret _ _ D0 F2.keep (TabAt.ofNews N2 (.head _) hsys hd3 hf3) (N2 _ (.head _)).2.2

end P13
section P14


theorem for_values {prg : Program} {w : World} {A : Around} {E E' : Value → Shared → Prop} {s : Shared} {h₀ : Heap} {env : Env} {m : Str → Option Value} {news : List (Addr × Obj)} {K : Type} [DecidableEq K] {knd : KeyKind prg w K} {x : Str} {px : Pos} {body : List Stmt} {Q : Flow → Shared → Prop} {d : Addr} {kvs : List (K × Value)} (J : Nat → (Str → Option Value) → List (Addr × Obj) → Prop) (hh : A.handled = none)
    (F : Fr h₀ env.locals s.heap m) (N : News h₀ env.locals s.heap news) (hd : h₀.DictOf knd d kvs) (lo : (d == sysModules) = false)
    (hj : J 0 m news)
    (turn : ∀ I i k v m₁ news₁ h tk oI, kvs[i]? = some (k, v) → J i m₁ news₁ → Fr h₀ env.locals h m₁ → News h₀ env.locals h ((I, oI) :: news₁) → (∀ p ∈ news₁, p.1 ≠ I) →
      wpAny (model prg w) A (assign (.Name x px) env v) (fun _ s₂ => wpAny (model prg w) A (execs body env) (LPost h₀ env.locals I oI (J (i + 1)) { s with heap := h, toks := tk } Q) (fun _ _ => False) s₂) (fun _ _ => False) { s with heap := h, toks := tk })
    (done : ∀ m₁ news₁ h tk, J kvs.length m₁ news₁ → Fr h₀ env.locals h m₁ → News h₀ env.locals h news₁ → Q .next { s with heap := h, toks := tk }) :
    wpAny (model prg w) A (call (.builtin "dict.values") [.ref d]) (fun y s₁ => wpAny (model prg w) A (pyIter y) (fun it s₂ => codeAny (model prg w) A (.forLoop (.Name x px) it body [] env) (fun r s' => match r with | .ok f => Q f s' | .error e => E' e s') s₂) E s₁) E s := by
  obtain ⟨o, es, ep, ho, hx⟩ := id hd
  have hds : s.heap.DictOf knd d kvs := ⟨o, es, ep, F.keep _ _ ho, hx⟩
  refine call_meetsIn PySem.F.slot_dict_values hds.mapOf.typeIs PySem.F.entry_dict_values (PySem.F.args_dict_values_1 _) (meets_dict_values knd d lo) ⟨⟨_, hds⟩, ?_⟩
  generalize hV : ({ cls := .type "dict_values", data := .fields #[.ref d] } : Obj) = V
  have hat : (s.heap.push V).DictAt knd d kvs ep := ⟨o, es, Heap.get?_push_of_some _ (F.keep _ _ ho), hx⟩
  refine wpAny_pyIter_values (s := { s with heap := s.heap.push V }) (d := d) (ep := ep) ⟨V, Heap.get?_push_size _ (by rw [← hV]; rfl), by rw [← hV], by rw [← hV]⟩ hat ?_
  refine for_new (s := { s with heap := s.heap.push V }) J (Iter.ofName (Walks.dictValues (knd := knd) hh (s.heap.push V).objs.size d (Nat.ne_of_lt (Heap.lt_size (Heap.get?_push_of_some V (F.keep _ _ ho)))) kvs ep) fun _ _ st => let ⟨o, e, _⟩ := st.1; ⟨o, e⟩) (F.push _) (fun p hp => ⟨Heap.get?_push_of_some _ (N p hp).1, (N p hp).2⟩)
    ⟨⟨_, Heap.get?_push_size _ rfl, rfl, rfl⟩, hat.at' fun o e => Heap.get?_push_of_some _ e⟩ (fun b hb hbI => ?_) hj (fun I i v ex m₁ news₁ h tk oI hI hi hP hj' F' N' hn' => ?_) done
  · rcases List.mem_cons.mp hb with h | h
    · exact absurd h hbI
    · rw [List.mem_singleton.mp h]; exact ⟨o, fun _ _ _ _ _ F' _ => F'.keep _ _ ho⟩
  · obtain ⟨⟨k, hk⟩, rfl⟩ := hP
    exact turn I i k v m₁ news₁ h tk oI hk hj' F' N' hn'
noncomputable def sumV (l : List (Int × Int)) : Int := l.foldl (fun a p => a + p.2) 0
theorem count_sum {w : World} {dp un : Nat} {fr : Option (List Env)} {gd : Option (List Code)} {s : Shared} {R : Result → Shared → Prop} {mg mb : Str → Option Value} {dt : Addr} {lt : List (Int × Int)}
   (X : (Mine.hd.heap_39 w.params).In s.heap) (T : TopRead Mine.hd.view_39 Mine.hd.lz mg mb s.heap) (hroom : dp + 9 < recursionLimit) (hun : un + 40 < cLine)
   (ht : PyProof.Rows.IntTab prog w s.heap dt (dOf lt)) (hlt : lt.length ≤ 100) (hb : ∀ p ∈ lt, 0 ≤ p.2 ∧ p.2 ≤ 1000)
   (ret : ∀ h' tk t, (∀ b o, s.heap.get? b = some o → h'.get? b = some o) → R (.ok (.ret (.int (sumV lt) t))) { s with heap := h', toks := tk }) :
   codeAny (model prog w) (Ar dp un fr gd) (.call (.ref 63) ⟨[.ref dt], []⟩) R s := by
  obtain ⟨lo1, kt, hkt, hft⟩ := id ht
  refine' enter (T.nolimit) (X 63 _ (by k_is)) rfl (codeRec_of X (by k_is)) (show dp < _ by (first | lia | omega)) (BindsTo.of_eq rfl) (locs rfl) (by decide) ?_
  intro h₁ tk F
  refine hideD fun fr zQ0 zR0 zP0 => ?_
  have N : News s.heap s.heap.objs.size h₁ [] := News.nil
  repeat' (first | (dsimp only; walk1) | walk1 | refine zP _ ?_ | refine zR0 _ _ ?_ | refine zP0 _ ?_ | refine zC _ ?_ | refine zR _ _ ?_ | refine zB _ ?_ | refine zE _ ?_ | fail "")
  rename Fr _ _ _ _ => F1
  rename News _ _ _ _ => N1
  have bnd : ∀ i : Nat, i ≤ 100 → 0 ≤ sumV (lt.take i) ∧ sumV (lt.take i) ≤ 1000 * i := by
    intro i
    induction i with
    | zero => intro _; exact ⟨Int.le_refl 0, Int.le_refl 0⟩
    | succ i ih =>
      intro hi
      have h1 := ih (by (first | lia | omega))
      rw [List.take_add_one]
      unfold sumV at h1 ⊢
      rw [List.foldl_append]
      cases q : lt[i]? with
      | none => simp only [Option.toList, List.foldl_nil]; (first | lia | omega)
      | some p =>
        have h2 := hb p (List.mem_of_getElem? q)
        simp only [Option.toList, List.foldl_cons, List.foldl_nil]; (first | lia | omega)
  refine for_values (knd := intKind prog w) (kvs := kt) (fun i m' n' => Off [Str.ofString "nc", Str.ofString "calls"] m' _ ∧ n' = _ ∧ ∃ t, m' (Str.ofString "nc") = some (.int (sumV (lt.take i)) t)) rfl F1 N1 hkt lo1 ⟨Off.refl, rfl, _, rfl⟩ ?_ ?_
  · intro I i k v m₁ news₁ h tk oI hx hJ F2 N2 hn2
    refine hideL fun zQ zP zC zR zB => ?_
    obtain ⟨hoff, rfl, tn, hnc⟩ := hJ
    rw [Off.ov hoff, ov_pin2 (by decide) hnc] at F2
    dsimp only at F2 N2 ⊢
    clear F1 N1
    obtain ⟨c, tc, hl, rfl⟩ := dOf_at hft hx
    have hi : i < lt.length := by
      rcases Nat.lt_or_ge i lt.length with q | q
      · exact q
      · rw [List.getElem?_eq_none q] at hl; cases hl
    have b1 := bnd i (by (first | lia | omega))
    have b2 := hb _ (List.mem_of_getElem? hl)
    have hstep : sumV (lt.take (i + 1)) = sumV (lt.take i) + c := by
      unfold sumV; rw [List.take_add_one, hl, List.foldl_append]; rfl
    generalize sumV (lt.take i) = su at *
    repeat' (first | (dsimp only; walk1) | walk1 | refine zP _ ?_ | refine zR0 _ _ ?_ | refine zP0 _ ?_ | refine zC _ ?_ | refine zR _ _ ?_ | refine zB _ ?_ | refine zE _ ?_ | fail "")
    all_goals (try (first | refine zP _ ?_ | dsimp only [LPost] | fail ""))
    rename Fr _ _ _ _ => F9
    rename News _ _ _ _ => N9
    exact LEnd.intro [] F9 N9 (.head _) (fun _ hp => (nomatch hp)) (fun _ hp => (nomatch hp)) ⟨by (repeat' first | with_reducible exact Off.of_ov | with_reducible exact Off.refl | (with_reducible refine Off.set ?_ ?_; (focus decide)) | exact Off.refl | exact Off.of_ov | exact Off.sub (by decide) Off.of_ov | refine Off.set (by decide) ?_), rfl, _, by rw [hstep]; rfl⟩
  · intro m₁ news₁ h tk hJ F2 N2
    obtain ⟨hoff, rfl, tn, hnc⟩ := hJ
    rw [Off.ov hoff, ov_pin2 (by decide) hnc] at F2
    dsimp only at F2 N2 ⊢
    clear F1 N1
    repeat' (first | (dsimp only; walk1) | walk1 | refine zP _ ?_ | refine zR0 _ _ ?_ | refine zP0 _ ?_ | refine zC _ ?_ | refine zR _ _ ?_ | refine zB _ ?_ | refine zE _ ?_ | fail "")
    try dsimp only
    have e1 : lt.take kt.length = lt := by rw [← hft.length, dOf, List.length_map, List.take_length]
    rw [e1]
    exact ret _ _ _ F2.keep

end P14


theorem enterC {w : World} {A : Around} {s : Shared} {R : Result → Shared → Prop} {f : Addr} {fo : Obj} {name qual : Str} {params : Arguments} {body : List Stmt} {scope : Scope} {dV kV doc pm cdv ct : Value} {an : Option Addr} {args : Args} {binds : List (Str × Value)}
    (hlim : s.heap.NoLimit) (ho : s.heap.get? f = some fo) (hd : fo.data = .func (fnX name qual params body scope [] dV kV doc pm an cdv ct)) (hcd : s.heap.CodeRec cdv qual) (hroom : A.depth < recursionLimit)
    (hbind : BindsTo s (fnX name qual params body scope [] dV kV doc pm an cdv ct) args binds)
    (hkind : ∀ n, ∀ x ∈ binds, scope.names.lookup x.1 = some .local ∨ (scope.names.lookup x.1 = some .cell ∧ ((cellsFrom n scope.names []).lookup x.1).isSome = true))
    (hnd : ((cellsFrom 0 scope.names []).map (·.1)).Nodup)
    (h : ∀ L h₁ tk cells, Fr s.heap L h₁ (bindL (envOfC qual scope L f cdv).kindOf binds fun _ => none) → News s.heap L h₁ cells →
      CellsAre (bindC (envOfC qual scope L f cdv).kindOf binds fun _ => none) (cellsFrom (L + 1) scope.names []) cells →
      wpAny (model Mine.prog w) (A.deeper (envOfC qual scope L f cdv)) (execs body (envOfC qual scope L f cdv))
        (fun fl s' => R (.ok (.ret (match fl with | .ret v => v | _ => .none))) s') (fun _ _ => False) { s with heap := h₁, toks := tk })
    (hco : scope.isCoroutine = false := by rfl) (hgen : scope.isGenerator = false := by rfl) (hk : scope.kind = .function := by rfl) : codeAny (model Mine.prog w) A (.call (.ref f) args) R s := by
  refine codeAny_call_function hroom ho hd hco hgen rfl hcd (hbind _ _ _ _ ?_)
  refine wpAny_newFunctionEnv_cells hk (hkind _) fun env' he s' x => ?_
  subst he
  refine ⟨hlim.keeps x.toInCall.keep, codeAny_func ?_⟩
  obtain ⟨h₁, tk, rfl, _⟩ := x.done
  obtain ⟨cells, NC, Y⟩ := Cl.news (h₀ := s.heap) (Nat.le_refl _) fun n c hm => ⟨x.cell n c (lookup_of_mem_nodup (cellsFrom_names scope.names 0 (s.heap.objs.size + 1) [] [] rfl ▸ hnd) hm), x.above n c hm⟩
  exact wpAny_mono (h s.heap.objs.size h₁ tk cells ⟨x.toInCall.ns, x.toInCall.keep, Nat.le_refl _⟩ NC Y) (fun _ _ x => x) fun _ _ x => x.elim

section
variable {M : Model} {A : Around} {E : Value → Shared → Prop} {s : Shared} {K : Frag} {h₀ : Heap} {C : Addr} {m mg mb : Str → Option Value} {scope : Scope} {cl : List (Str × Addr)} {env : Env} {p : Program} {loose : List Str} {mean : ExcName → Option Value}
  {x : Str} {pos : Pos} {v : Value} {news : List (Addr × Obj)} {c : Addr} {o : Obj}
theorem nameP_L {Q : Value → Shared → Prop} (F : Fr h₀ C s.heap m) (hv : m x = some v) (h : Q v s)
    (hk : (compEnvC scope cl C env).scope.kind = .function) (hx : (compEnvC scope cl C env).kindOf x = some .local) (hd : (x == ("__debug__" : Str)) = false := by decide) :
    wpAny M A (eval (.Name x pos) (compEnvC scope cl C env)) Q E s := wpAny_Name (wpAny_loadName_local hk hx F.ns hv h) hd
theorem nameP_K {Q : Value → Shared → Prop} (F : Fr h₀ C s.heap m) (X : K.In h₀) (T : TopRead p loose mg mb h₀) (e : nsIn K mainGlobals x = some (some v)) (h : Q v s)
    (hk : (compEnvC scope cl C env).scope.kind = .function) (hx : (compEnvC scope cl C env).kindOf x = some .globalImplicit) (hg : env.globals = mainGlobals) (hd : (x == ("__debug__" : Str)) = false := by decide) :
    wpAny M A (eval (.Name x pos) (compEnvC scope cl C env)) Q E s :=
  Name_function_global hk hx (loadGlobal_global (env := compEnvC scope cl C env) (by show s.heap.Ns env.globals mg; rw [hg]; exact T.g.keeps F.keep) (mg_of X T.g e) h) hd
theorem nameP_B {Q : Value → Shared → Prop} (F : Fr h₀ C s.heap m) (X : K.In h₀) (T : TopRead p loose mg mb h₀) (e : nsIn K mainGlobals x = some none) (hv : bootBuiltins x = some v) (hn : x ≠ "__name__") (h : Q v s)
    (hk : (compEnvC scope cl C env).scope.kind = .function) (hx : (compEnvC scope cl C env).kindOf x = some .globalImplicit) (hg : env.globals = mainGlobals) (hb : env.builtins = builtinsNs) (hd : (x == ("__debug__" : Str)) = false := by decide) :
    wpAny M A (eval (.Name x pos) (compEnvC scope cl C env)) Q E s :=
  Name_function_global hk hx (loadGlobal_builtin (env := compEnvC scope cl C env) (by show s.heap.Ns env.globals mg; rw [hg]; exact T.g.keeps F.keep) (mg_none_of X T.g e) (by show s.heap.Ns env.builtins mb; rw [hb]; exact T.b.keeps F.keep) ((T.builtins x hn).trans hv) h) hd
theorem storeP_L {Q : Unit → Shared → Prop} (F : Fr h₀ C s.heap m) (N : News h₀ C s.heap news)
    (h : ∀ h', Fr h₀ C h' (fun y => if y = x then some v else m y) → News h₀ C h' news → Q () { s with heap := h', toks := s.toks + 1 })
    (hk : (compEnvC scope cl C env).scope.kind = .function) (hx : (compEnvC scope cl C env).kindOf x = some .local) : wpAny M A (storeName (compEnvC scope cl C env) x v) Q E s :=
  wpAny_storeName_local hx F.ns (fun h' hn hs => h h' (F.set hn hs) (N.set hs)) (by rw [hk]; rfl)
theorem storeP_C {Q : Unit → Shared → Prop} {g : Obj → List (Addr × Obj)} {v₀ : Option Value} (F : Fr h₀ C s.heap m) (N : News h₀ C s.heap news) (hc : cl.lookup x = some c) (U : UpdF c o news g) (hd : o.data = .cell v₀)
    (h : ∀ h' o', Fr h₀ C h' m → News h₀ C h' (g o') → o'.data = .cell (some v) → Q () { s with heap := h' })
    (hk : (compEnvC scope cl C env).scope.kind = .function) (hx : (compEnvC scope cl C env).kindOf x = some .cell) : wpAny M A (storeName (compEnvC scope cl C env) x v) Q E s := by
  obtain ⟨own, rest, rfl, hg, h1, h2⟩ := U.split
  have hmem := N (c, o) (List.mem_append_right _ (.head _))
  refine wpAny_storeName_cell hk hx hc ⟨o, hmem.1, hd⟩ fun h' hv hs => ?_
  obtain ⟨o', ho', hd'⟩ := hv
  refine h h' o' ⟨F.ns.sameBut hs (Ne.symm hmem.2.1), fun b ob e => (hs.2 b (fun q => ?_)).trans (F.keep b ob e), F.above⟩ (hg o' ▸ N.setAt h1 h2 hs ho') hd'
  rw [q, hmem.2.2] at e; cases e
/-- the shape of a list comprehension, before its first iterable -/
theorem comp_eval {prg : Program} {w : World} {Q : Value → Shared → Prop} {elt target iter : PySem.Expr} {ifs : List PySem.Expr} {gs : List Comprehension}
    (hclos : closureFor scope env = pure cl) (hkind : scope.kind = .function) (hnames : ∀ y ∈ scope.names, y.2 = .local → scope.names.lookup y.1 = some .local)
    (hs : ∀ x, foldedSetIterable iter env x = pure x)
    (h : wpAny (model prg w) A (eval iter env) (fun x s₁ => wpAny (model prg w) A (pyIter x) (fun it s₂ => wpAny (model prg w) A (newList []) (fun acc s₃ =>
      wpAny (model prg w) A (newFunctionEnv scope env.globals cl [] env.qual none .none (some env)) (fun cenv s₄ =>
        codeAny (model prg w) A (.compStart (.ListComp elt (⟨target, iter, ifs, 0⟩ :: gs) scope pos) 0 it acc { cenv with scope := relabel scope env }) (compPost (model prg w) A E none Q acc cenv.locals) s₄) E s₃) E s₂) E s₁) E s) :
    wpAny (model prg w) A (eval (.ListComp elt (⟨target, iter, ifs, 0⟩ :: gs) scope pos) env) Q E s := by
  rw [eval_ListComp]
  exact wpAny_comprehension_free (use := none) rfl hs hclos hkind hnames h
end
local macro_rules | `(tactic| walk_at "eval Name") => `(tactic| (k_here; (with_reducible show wpAny _ _ (eval (Expr.Name _ _) (compEnvC _ _ _ _)) _ _ _); k_dflt (first
  | (refine' nameP_L ?F ?v ?_ ?a ?b; (case F => k_asm); (case a => rfl); (case b => rfl); (case v => rfl); k_whole)
  | (refine' lcf_cell ?N ?c ?m ?d ?_ ?a ?b; (case a => rfl); (case b => rfl); (case N => k_asm); (case c => rfl); (case m => k_mem); (case d => k_asm); k_whole)
  | (refine' lcf_free ?N ?c ?m ?d ?_ ?a ?b; (case a => rfl); (case b => rfl); (case N => k_asm); (case c => rfl); (case m => k_mem); (case d => k_asm); k_whole)
  | (refine' nameP_K ?F ?X ?T ?e ?_ ?a ?b ?c; (case F => k_asm); (case X => k_asm); (case T => k_asm); (case a => rfl); (case b => rfl); (case c => rfl); (case e => k_is); k_whole)
  | (refine' nameP_B ?F ?X ?T ?e ?v ?n ?_ ?a ?b ?c ?d; (case F => k_asm); (case X => k_asm); (case T => k_asm); (case a => rfl); (case b => rfl); (case c => rfl); (case d => rfl); (case e => k_is); (case v => boot_fast); (case n => decide); k_whole))))
local macro_rules | `(tactic| walk_at "storeName") => `(tactic| (k_here; (with_reducible show wpAny _ _ (storeName (compEnvC _ _ _ _) _ _) _ _ _); k_dflt (first
  | (refine' storeP_L ?F ?N ?_ ?a ?b; (case F => k_asm); (case N => k_asm); (case a => rfl); (case b => rfl); k_whole; intro h' F' N'; (try k_sweep))
  | (refine' storeP_C ?F ?N ?c ?U ?d ?_ ?a ?b; (case a => rfl); (case b => rfl); (case F => k_asm); (case N => k_asm); (case c => rfl); (case U => k_updF); (case d => k_asm); k_whole; intro h' o' F' N' d'; (try dsimp only at N'); (try k_sweep)))))
local macro_rules | `(tactic| walk_at "eval ListComp") => `(tactic| (k_here; k_dflt (refine' comp_eval ?c ?k ?n ?s ?_; (case c => with_unfolding_all rfl); (case k => with_unfolding_all rfl); (case n => decide); (case s => (intro _; with_unfolding_all rfl)); k_whole)))
local macro_rules | `(tactic| walk_at "eval Dict") => `(tactic| (k_here; k_dflt (first
  | (refine' kdn_str ?q ?F ?N ?b ?a ?l ?e ?n ?_; (case q => rfl); (case F => k_asm); (case N => first | k_asm | exact News.nil); (case b => exact TopRead.nolimit (by k_asm)); (case a => rfl); (case l => rfl); (case e => exact List.cons_ne_nil _ _); (case n => exact Nat.le_of_ble_eq_true rfl))
  | (refine' kdn_int ?q ?F ?N ?b ?a ?l ?e ?n ?_; (case q => rfl); (case F => k_asm); (case N => first | k_asm | exact News.nil); (case b => exact TopRead.nolimit (by k_asm)); (case a => rfl); (case l => rfl); (case e => exact List.cons_ne_nil _ _); (case n => exact Nat.le_of_ble_eq_true rfl))); intro d' h' o' F' N' l1 lo' hd'; (try k_lt l1)))
local macro_rules | `(tactic| walk_at "call builtin:list.append") => `(tactic| (k_here; (with_reducible show wpAny _ _ (call (Value.builtin _) [Value.ref _, _]) _ _ _); k_dflt (refine' app_list ?k1 ?k2 ?k3 ?k4 ?_; (case k1 => k_asm); (case k2 => k_asm); (case k3 => k_upd); (case k4 => (first | lia | omega)); k_whole); intro h' F' N'; (try k_sweep)))
local macro_rules | `(tactic| walk_at "exec Assign cons ListComp") => `(tactic| fail "no")


noncomputable def ts (x : String) : PyData := .str (Str.ofString x)
noncomputable def tabD : Nat → List (PyData × PyData)
  | 0 => [(ts "&", ts "&amp;"), (ts "<", ts "&lt;"), (ts "\"", ts "&quot;"), (ts "\r", ts "&#xD;"), (ts "\n", ts "&#xA;"), (ts "\t", ts "&#x9;")]
  | 1 => [(ts "&", ts "&amp;"), (ts "<", ts "&lt;"), (ts ">", ts "&gt;"), (ts "\r", ts "&#xD;")]
  | 2 => [(ts "&", ts "&amp;"), (ts ">", ts "&gt;"), (ts "\"", ts "&quot;")]
  | 3 => [(ts "&", ts "&amp;"), (ts "<", ts "&lt;"), (ts ">", ts "&gt;"), (ts "\"", ts "&quot;"), (ts "\r", ts "&#13;"), (ts "\n", ts "&#10;"), (ts "\t", ts "&#09;")]
  | _ => [(ts "&", ts "&amp;"), (ts "<", ts "&lt;"), (ts ">", ts "&gt;")]
noncomputable def all8 : List (PyData × PyData) → Bool
  | [] => true
  | (_, .str z) :: r => decide (z.length ≤ 8) && all8 r
  | _ => false
open PySem.Spec in
theorem all8_get {k : PyData} {dv : PyData} : ∀ {D : List (PyData × PyData)}, all8 D = true → lookup k D = some dv → ∃ z, dv = .str z ∧ z.length ≤ 8
  | [], _, hl => by simp [PySem.Spec.lookup] at hl
  | (a, b) :: r, h, hl => by
    cases b with
    | str z =>
      rw [all8, Bool.and_eq_true] at h
      rw [PySem.Spec.lookup] at hl
      split at hl
      · cases hl; exact ⟨z, rfl, of_decide_eq_true h.1⟩
      · exact all8_get h.2 hl
    | _ => simp [all8] at h
noncomputable def glD (D : List (PyData × PyData)) (c : Nat) : List Nat := match PySem.Spec.lookup (.str ⟨#[c]⟩) D with | some (.str z) => z.cps.toList | _ => [c]
theorem get_strTab {prog : Program} {w : World} {A : Around} {E : Value → Shared → Prop} {s : Shared} {d : Addr} {D : List (PyData × PyData)} {x : Str} {t : Tok} {dv : PyData} {Q : Value → Shared → Prop} (T : StrTab prog w s.heap d D) (hl : PySem.Spec.lookup (.str x) D = some dv)
    (h : ∀ v, PyProof.V.Flat v dv → Q v { s with toks := s.toks + 1 }) : wpAny (model prog w) A (getItem (.ref d) (.str x t)) Q E s := by
  obtain ⟨lo, kvs, hd, hf⟩ := T
  obtain ⟨v, hv, hfl⟩ := hf.of_lookup PyProof.V.same_str hl
  exact wpAny_getItem_of (strKind_is prog w x t) hd.mapOf hv (h v hfl)
theorem ownL_none {C : Addr} : ownL none C = [] := rfl
theorem ownC_none {C : Addr} {cl : List (Str × Addr)} : ownC none C cl = cl := rfl
theorem strsAre_snoc {vs : List Value} {ys : List Str} {y : Str} {t : Tok} (h : StrsAre vs ys) : StrsAre (vs ++ [.str y t]) (ys ++ [y]) := by
  induction h with
  | nil => exact .cons y t .nil
  | cons z u _ ih => exact .cons z u ih
theorem join_nil_cps : ∀ ys : List Str, (Txt.join (Str.ofString "") ys).cps.toList = (ys.map (·.cps.toList)).flatten := by
  intro ys
  show (PySem.Builtin.Str.glued _ ys).cps.toList = _
  rw [StrLaws.glued_eq_join]
  induction ys with
  | nil => rfl
  | cons y r ih =>
    cases r with
    | nil => simp [Str.join]
    | cons z r =>
      rw [Str.join]
      · simp only [Str.cps_append, Array.toList_append, List.map_cons, List.flatten_cons] at ih ⊢
        rw [ih]
        have : (Str.ofString "").cps.toList = [] := rfl
        rw [this, List.append_nil]
      · simp
theorem sum_le {B : Nat} : ∀ {ys : List Str}, (∀ y ∈ ys, y.length ≤ B) → (ys.map (·.length)).sum ≤ ys.length * B
  | [], _ => by simp
  | y :: r, h => by
    have h1 := h y (List.mem_cons_self ..)
    have h2 := sum_le (B := B) fun z hz => h z (List.mem_cons_of_mem y hz)
    simp only [List.map_cons, List.sum_cons, List.length_cons, Nat.succ_mul]
    omega
noncomputable def SpJ (x : Str) (D' : List (PyData × PyData)) (i : Nat) (vs : List Value) : Prop := ∃ ys : List Str, StrsAre vs ys ∧ ys.map (·.cps.toList) = (x.cps.toList.take i).map (glD D') ∧ (∀ y ∈ ys, y.length ≤ 8) ∧ vs.length = i
theorem SpJ.none_ {x : Str} {D' : List (PyData × PyData)} {i c : Nat} {vs : List Value} {u : Tok} (J : SpJ x D' i vs) (hc : x.cps[i]? = some c) (hl : PySem.Spec.lookup (.str ⟨#[c]⟩) D' = none) : SpJ x D' (i + 1) (vs ++ [.str ⟨#[c]⟩ u]) := by
  obtain ⟨ys, h1, h2, h3, h4⟩ := J
  refine ⟨_, strsAre_snoc h1, ?_, fun y hy => ?_, by simp [h4]⟩
  · have hc' : x.cps.toList[i]? = some c := by simpa using hc
    rw [List.map_append, h2, List.take_add_one, hc', List.map_append]
    simp [glD, hl]
  · rcases List.mem_append.mp hy with q | q
    · exact h3 y q
    · rw [List.mem_singleton.mp q]; exact (by decide : 1 ≤ 8)
theorem SpJ.some_ {x z : Str} {D' : List (PyData × PyData)} {i c : Nat} {vs : List Value} {u : Tok} (J : SpJ x D' i vs) (hc : x.cps[i]? = some c) (hl : PySem.Spec.lookup (.str ⟨#[c]⟩) D' = some (.str z)) (hz : z.length ≤ 8) : SpJ x D' (i + 1) (vs ++ [.str z u]) := by
  obtain ⟨ys, h1, h2, h3, h4⟩ := J
  refine ⟨_, strsAre_snoc h1, ?_, fun y hy => ?_, by simp [h4]⟩
  · have hc' : x.cps.toList[i]? = some c := by simpa using hc
    rw [List.map_append, h2, List.take_add_one, hc', List.map_append]
    simp [glD, hl]
  · rcases List.mem_append.mp hy with q | q
    · exact h3 y q
    · rw [List.mem_singleton.mp q]; exact hz
noncomputable def w1 (hand : Int) (c : Nat) : List Nat := writF hand [c]
theorem writF_map (hand : Int) (l : List Nat) : writF hand l = l.flatMap (w1 hand) := by
  have e : w1 hand = fun a => writF hand [a] := rfl
  rw [e]
  unfold writF
  split
  · simp only [escF, List.flatMap_assoc, List.flatMap_cons, List.flatMap_nil, List.append_nil]
  split
  · simp only [escF, List.flatMap_assoc, List.flatMap_cons, List.flatMap_nil, List.append_nil]
  split
  · simp only [escF, List.flatMap_assoc, List.flatMap_cons, List.flatMap_nil, List.append_nil]
  split
  · simp only [escF, List.flatMap_assoc, List.flatMap_cons, List.flatMap_nil, List.append_nil]
  · simp only [escF, List.flatMap_assoc, List.flatMap_cons, List.flatMap_nil, List.append_nil]
theorem one_ne {c k : Nat} {x : String} (hk : Str.ofString x = ⟨#[k]⟩) (h : c ≠ k) : PySem.Spec.same (ts x) (.str ⟨#[c]⟩) = false := by
  unfold ts
  rw [PyProof.V.same_str, hk]
  exact decide_eq_false fun e => h (by injection e with e; injection e with e; injection e with e; exact e.symm)
theorem gl_w (n : Nat) (hand : Int) (hn : (n = 0 ∧ hand = 0) ∨ (n = 1 ∧ hand = 1) ∨ (n = 2 ∧ hand = 2) ∨ (n = 3 ∧ hand = 3) ∨ (n = 4 ∧ hand = 4)) (c : Nat) : glD (tabD n) c = w1 hand c := by
  by_cases h1 : c = 38
  · subst h1; rcases hn with ⟨rfl, rfl⟩ | ⟨rfl, rfl⟩ | ⟨rfl, rfl⟩ | ⟨rfl, rfl⟩ | ⟨rfl, rfl⟩ <;> decide +kernel
  by_cases h2 : c = 60
  · subst h2; rcases hn with ⟨rfl, rfl⟩ | ⟨rfl, rfl⟩ | ⟨rfl, rfl⟩ | ⟨rfl, rfl⟩ | ⟨rfl, rfl⟩ <;> decide +kernel
  by_cases h3 : c = 62
  · subst h3; rcases hn with ⟨rfl, rfl⟩ | ⟨rfl, rfl⟩ | ⟨rfl, rfl⟩ | ⟨rfl, rfl⟩ | ⟨rfl, rfl⟩ <;> decide +kernel
  by_cases h4 : c = 34
  · subst h4; rcases hn with ⟨rfl, rfl⟩ | ⟨rfl, rfl⟩ | ⟨rfl, rfl⟩ | ⟨rfl, rfl⟩ | ⟨rfl, rfl⟩ <;> decide +kernel
  by_cases h5 : c = 13
  · subst h5; rcases hn with ⟨rfl, rfl⟩ | ⟨rfl, rfl⟩ | ⟨rfl, rfl⟩ | ⟨rfl, rfl⟩ | ⟨rfl, rfl⟩ <;> decide +kernel
  by_cases h6 : c = 10
  · subst h6; rcases hn with ⟨rfl, rfl⟩ | ⟨rfl, rfl⟩ | ⟨rfl, rfl⟩ | ⟨rfl, rfl⟩ | ⟨rfl, rfl⟩ <;> decide +kernel
  by_cases h7 : c = 9
  · subst h7; rcases hn with ⟨rfl, rfl⟩ | ⟨rfl, rfl⟩ | ⟨rfl, rfl⟩ | ⟨rfl, rfl⟩ | ⟨rfl, rfl⟩ <;> decide +kernel
  have e1 := one_ne (x := "&") rfl h1
  have e2 := one_ne (x := "<") rfl h2
  have e3 := one_ne (x := ">") rfl h3
  have e4 := one_ne (x := "\"") rfl h4
  have e5 := one_ne (x := "\r") rfl h5
  have e6 := one_ne (x := "\n") rfl h6
  have e7 := one_ne (x := "\t") rfl h7
  rcases hn with ⟨rfl, rfl⟩ | ⟨rfl, rfl⟩ | ⟨rfl, rfl⟩ | ⟨rfl, rfl⟩ | ⟨rfl, rfl⟩ <;>
    simp [glD, tabD, PySem.Spec.lookup, e1, e2, e3, e4, e5, e6, e7, w1, writF, escF, sb, h1, h2, h3, h4, h5, h6, h7]
theorem news2 {h₀ h : Heap} {L : Addr} {news : List (Addr × Obj)} {a b : Addr × Obj} (N : News h₀ L h news) (ha : a ∈ news) (hb : b ∈ news) : News h₀ L h [a, b] := fun p hp => by
  rcases List.mem_cons.mp hp with rfl | hp
  · exact N _ ha
  · rw [List.mem_singleton.mp hp]; exact N _ hb
theorem pin' {x : Str} {m : Str → Option Value} {v : Value} (h : m x = some v) : m = fun y => if y = x then some v else m y := by
  funext y
  by_cases e : y = x
  · subst e; rw [if_pos rfl]; exact h
  · rw [if_neg e]
noncomputable abbrev lawEnv293 (L : Addr) : Env := envOfC (Str.ofString "_law_spelled") hd.f293.c L 293 (Value.ref 292)
noncomputable def ret293 : {x : Stmt // hd.f293.b[7]? = some x} := ⟨_, rfl⟩
theorem spelled_tail {w : World} {dp un : Nat} {fr : Option (List Env)} {gd : Option (List Code)} {s : Shared} {Q : Flow → Shared → Prop} {mg mb : Str → Option Value} {h₀ : Heap} {L dd : Addr} {m : Str → Option Value} {oc od : Obj} {kvs : List (Str × Value)} {TD : List (PyData × PyData)} {x : Str} {t : Tok} {hand : Int}
   (X : (Mine.hd.heap_39 w.params).In h₀) (T : TopRead Mine.hd.view_39 Mine.hd.lz mg mb h₀) (hroom : dp + 8 < recursionLimit) (hun : un + 30 < cLine)
   (F : Fr h₀ L s.heap m) (N : News h₀ L s.heap [(dd, od), (L + 1, oc)]) (d1 : oc.data = .cell (some (.ref dd))) (hne : @Ne Nat dd (L + 1)) (hm : m (Str.ofString "text") = some (.str x t)) (lo : (dd == sysModules) = false)
   (hd1 : Obj.IsDictOf (PySem.strKind prog w) od kvs) (hf1 : PyProof.V.FlatPairs PyData.str kvs TD) (h8 : all8 TD = true) (hgl : ∀ c, glD TD c = w1 hand c) (hx : x.length ≤ 4)
   (ret : ∀ h' tk r t, Fr h₀ L h' m → r.cps.toList = writF hand x.cps.toList → Q (.ret (.str r t)) { s with heap := h', toks := tk }) :
   wpAny (model prog w) (Ar dp un fr gd) (exec ret293.1 (lawEnv293 L)) Q (fun _ _ => False) s := by
  rw [pin' hm] at F
  dsimp only [ret293]
  repeat' (first | (dsimp only; walk1) | walk1 | refine zP _ ?_ | refine zR0 _ _ ?_ | refine zP0 _ ?_ | refine zC _ ?_ | refine zR _ _ ?_ | refine zB _ ?_ | refine zE _ ?_ | fail "")
  rename Fr _ _ _ _ => F1
  rename News _ _ _ _ => N1
  refine comp_str none (J := fun D C i m' n' => ∃ vs c, n' = (D, listOf vs.toArray c) :: _ ∧ SpJ x TD i vs) rfl (fun _ => rfl) (fun _ => rfl) F1 N1 (fun D C => ⟨[], 0, rfl, [], .nil, rfl, fun _ hy => (nomatch hy), rfl⟩) ?_ ?_
  · intro g I D C i c u m₁ news₁ h tk oI G1 G2 g1 g2 g3 hc hJ F2 N2 hn2
    refine hideT fun zQ zE => ?_
    obtain ⟨vs, cc, rfl, hJ⟩ := hJ
    replace X := X.keeps G1
    replace T := T.keeps G1
    clear G1 G2 F1 N1
    k_lt g1; k_lt2 g2; k_lt2 g3
    simp only [ownL_none, ownC_none, List.nil_append] at F2 N2 ⊢
    have hDI := neN (hn2 _ (.head _))
    dsimp only at hDI
    have hlen : vs.length ≤ 4 := by
      obtain ⟨_, _, _, _, q⟩ := hJ
      have h1 : i < x.cps.size := by
        rcases Nat.lt_or_ge i x.cps.size with q | q
        · exact q
        · rw [Array.getElem?_eq_none q] at hc; cases hc
      have h2 : x.cps.size ≤ 4 := hx
      (first | lia | omega)
    cases hl : PySem.Spec.lookup (.str ⟨#[c]⟩) TD with
    | none =>
      repeat' (first | (dsimp only; walk1) | walk1 | refine zP _ ?_ | refine zR0 _ _ ?_ | refine zP0 _ ?_ | refine zC _ ?_ | refine zR _ _ ?_ | refine zB _ ?_ | refine zE _ ?_ | fail "" | dsimp only [turnGoal])
      · exfalso; rename Option.isSome _ = true => q; rw [hl] at q; cases q
      · refine LEnd.intro _ (by assumption) (by assumption) (by k_mem) (fun p hp => .tail _ hp) (ne_head hn2) ?_
        exact ⟨_, _, rfl, hJ.none_ hc hl⟩
    | some dv =>
      obtain ⟨z, rfl, hz⟩ := all8_get h8 hl
      repeat' (first | (dsimp only; walk1) | walk1 | refine zP _ ?_ | refine zR0 _ _ ?_ | refine zP0 _ ?_ | refine zC _ ?_ | refine zR _ _ ?_ | refine zB _ ?_ | refine zE _ ?_ | fail "" | dsimp only [turnGoal])
      · refine LEnd.intro _ (by assumption) (by assumption) (by k_mem) (fun p hp => .tail _ hp) (ne_head hn2) ?_
        exact ⟨_, _, rfl, hJ.some_ hc hl hz⟩
      · exfalso; rename Option.isSome _ = false => q; rw [hl] at q; cases q
  · intro D C m₁ news₁ h tk hJ F2 N2
    obtain ⟨vs, cc, rfl, hJ⟩ := hJ
    clear F1 N1
    simp only [ownL_none, List.nil_append] at F2 N2 ⊢
    obtain ⟨ys, y1, y2, y3, y4⟩ := hJ
    have y5 : ys.length ≤ 4 := by
      have e := congrArg List.length y2
      simp only [List.length_map, List.length_take] at e
      have h2 : x.cps.size ≤ 4 := hx
      (first | lia | omega)
    repeat' (first | (dsimp only; walk1) | walk1 | refine zP _ ?_ | refine zR0 _ _ ?_ | refine zP0 _ ?_ | refine zC _ ?_ | refine zR _ _ ?_ | refine zB _ ?_ | refine zE _ ?_ | fail "")
    refine join_list (News.isList N2 (.head _)) y1 (by have q1 := sum_le y3; have q2 : ys.length * 8 ≤ 4 * 8 := Nat.mul_le_mul_right _ y5; have q3 : ys.length * (Str.ofString "").length = 0 := Nat.mul_zero _; (first | lia | omega)) ?_
    intro tr kr
    rw [← pin' hm] at F2
    refine ret _ _ _ _ F2 ?_
    rw [join_nil_cps, y2, writF_map, List.take_of_length_le (by simp), List.flatMap]
    exact congrArg List.flatten (List.map_congr_left fun c _ => hgl c)
theorem spelled_sum {w : World} {dp un : Nat} {fr : Option (List Env)} {gd : Option (List Code)} {s : Shared} {R : Result → Shared → Prop} {mg mb : Str → Option Value} {x : Str} {t th : Tok} {hand : Int}
   (X : (Mine.hd.heap_39 w.params).In s.heap) (T : TopRead Mine.hd.view_39 Mine.hd.lz mg mb s.heap) (hroom : dp + 9 < recursionLimit) (hun : un + 40 < cLine) (hx : x.length ≤ 4) (hh : 0 ≤ hand ∧ hand < 5)
   (ret : ∀ h' tk r t, (∀ b o, s.heap.get? b = some o → h'.get? b = some o) → r.cps.toList = writF hand x.cps.toList → R (.ok (.ret (.str r t))) { s with heap := h', toks := tk }) :
   codeAny (model prog w) (Ar dp un fr gd) (.call (.ref 293) ⟨[.str x t, .int hand th], []⟩) R s := by
  have hcase : hand = 0 ∨ hand = 1 ∨ hand = 2 ∨ hand = 3 ∨ hand = 4 := by (first | lia | omega)
  clear hh
  refine' enterC (T.nolimit) (X 293 _ (by k_is)) rfl (codeRec_of X (by k_is)) (show dp < _ by (first | lia | omega)) (BindsTo.of_eq rfl) ?ck (by decide) ?_
  case ck => intro n; exact fun y hy => .inl (locs rfl y hy)
  intro L h₁ tk cells F N C
  refine hideD fun fr zQ0 zR0 zP0 => ?_
  obtain ⟨o1, rfl, d1⟩ := CellsAre.one C
  rcases hcase with rfl | rfl | rfl | rfl | rfl
  · repeat' (first | ((with_reducible show wpAny _ _ (exec (Stmt.Return (some _) _) _) _ _ _); refine stop ?_) | (dsimp only; walk1) | walk1 | refine zP _ ?_ | refine zR0 _ _ ?_ | refine zP0 _ ?_ | refine zC _ ?_ | refine zR _ _ ?_ | refine zB _ ?_ | refine zE _ ?_ | fail "")
    rename PyProof.V.FlatPairs _ _ _ => hf0
    rename Obj.IsDictOf _ _ _ => hd0
    rename Fr _ _ _ _ => F1
    rename News _ _ _ _ => N1
    refine unstop ?_
    refine' spelled_tail (TD := tabD 0) (hand := 0) (x := x) X T ?h1 ?h2 F1 (news2 N1 (by k_mem) (by k_mem)) ?dd ?ne ?mm ?lo hd0 ?hf ?h8 ?hg hx ?_
    case h1 => ((try simp only [depth_under_make, depth_under_kw, depth_in1, depth_deeper, depth_caller]); (try dsimp only [Ar]); (first | lia | omega))
    case h2 => ((try simp only [units_in1, units_deeper, Around.mark_units, units_caller]); (try dsimp only [Ar]); (first | lia | omega))
    case dd => assumption
    case ne => (first | lia | omega)
    case mm => rfl
    case lo => assumption
    case hf => with_unfolding_all exact hf0
    case h8 => rfl
    case hg => exact gl_w 0 _ (by decide)
    intro h' tk r t F2 hr
    first | exact ret _ _ _ _ F2.keep hr | (dsimp only; refine zR0 _ _ ?_; exact ret _ _ _ _ F2.keep hr)
  · repeat' (first | ((with_reducible show wpAny _ _ (exec (Stmt.Return (some _) _) _) _ _ _); refine stop ?_) | (dsimp only; walk1) | walk1 | refine zP _ ?_ | refine zR0 _ _ ?_ | refine zP0 _ ?_ | refine zC _ ?_ | refine zR _ _ ?_ | refine zB _ ?_ | refine zE _ ?_ | fail "")
    rename PyProof.V.FlatPairs _ _ _ => hf0
    rename Obj.IsDictOf _ _ _ => hd0
    rename Fr _ _ _ _ => F1
    rename News _ _ _ _ => N1
    refine unstop ?_
    refine' spelled_tail (TD := tabD 1) (hand := 1) (x := x) X T ?h1 ?h2 F1 (news2 N1 (by k_mem) (by k_mem)) ?dd ?ne ?mm ?lo hd0 ?hf ?h8 ?hg hx ?_
    case h1 => ((try simp only [depth_under_make, depth_under_kw, depth_in1, depth_deeper, depth_caller]); (try dsimp only [Ar]); (first | lia | omega))
    case h2 => ((try simp only [units_in1, units_deeper, Around.mark_units, units_caller]); (try dsimp only [Ar]); (first | lia | omega))
    case dd => assumption
    case ne => (first | lia | omega)
    case mm => rfl
    case lo => assumption
    case hf => with_unfolding_all exact hf0
    case h8 => rfl
    case hg => exact gl_w 1 _ (by decide)
    intro h' tk r t F2 hr
    first | exact ret _ _ _ _ F2.keep hr | (dsimp only; refine zR0 _ _ ?_; exact ret _ _ _ _ F2.keep hr)
  · repeat' (first | ((with_reducible show wpAny _ _ (exec (Stmt.Return (some _) _) _) _ _ _); refine stop ?_) | (dsimp only; walk1) | walk1 | refine zP _ ?_ | refine zR0 _ _ ?_ | refine zP0 _ ?_ | refine zC _ ?_ | refine zR _ _ ?_ | refine zB _ ?_ | refine zE _ ?_ | fail "")
    rename PyProof.V.FlatPairs _ _ _ => hf0
    rename Obj.IsDictOf _ _ _ => hd0
    rename Fr _ _ _ _ => F1
    rename News _ _ _ _ => N1
    refine unstop ?_
    refine' spelled_tail (TD := tabD 2) (hand := 2) (x := x) X T ?h1 ?h2 F1 (news2 N1 (by k_mem) (by k_mem)) ?dd ?ne ?mm ?lo hd0 ?hf ?h8 ?hg hx ?_
    case h1 => ((try simp only [depth_under_make, depth_under_kw, depth_in1, depth_deeper, depth_caller]); (try dsimp only [Ar]); (first | lia | omega))
    case h2 => ((try simp only [units_in1, units_deeper, Around.mark_units, units_caller]); (try dsimp only [Ar]); (first | lia | omega))
    case dd => assumption
    case ne => (first | lia | omega)
    case mm => rfl
    case lo => assumption
    case hf => with_unfolding_all exact hf0
    case h8 => rfl
    case hg => exact gl_w 2 _ (by decide)
    intro h' tk r t F2 hr
    first | exact ret _ _ _ _ F2.keep hr | (dsimp only; refine zR0 _ _ ?_; exact ret _ _ _ _ F2.keep hr)
  · repeat' (first | ((with_reducible show wpAny _ _ (exec (Stmt.Return (some _) _) _) _ _ _); refine stop ?_) | (dsimp only; walk1) | walk1 | refine zP _ ?_ | refine zR0 _ _ ?_ | refine zP0 _ ?_ | refine zC _ ?_ | refine zR _ _ ?_ | refine zB _ ?_ | refine zE _ ?_ | fail "")
    rename PyProof.V.FlatPairs _ _ _ => hf0
    rename Obj.IsDictOf _ _ _ => hd0
    rename Fr _ _ _ _ => F1
    rename News _ _ _ _ => N1
    refine unstop ?_
    refine' spelled_tail (TD := tabD 3) (hand := 3) (x := x) X T ?h1 ?h2 F1 (news2 N1 (by k_mem) (by k_mem)) ?dd ?ne ?mm ?lo hd0 ?hf ?h8 ?hg hx ?_
    case h1 => ((try simp only [depth_under_make, depth_under_kw, depth_in1, depth_deeper, depth_caller]); (try dsimp only [Ar]); (first | lia | omega))
    case h2 => ((try simp only [units_in1, units_deeper, Around.mark_units, units_caller]); (try dsimp only [Ar]); (first | lia | omega))
    case dd => assumption
    case ne => (first | lia | omega)
    case mm => rfl
    case lo => assumption
    case hf => with_unfolding_all exact hf0
    case h8 => rfl
    case hg => exact gl_w 3 _ (by decide)
    intro h' tk r t F2 hr
    first | exact ret _ _ _ _ F2.keep hr | (dsimp only; refine zR0 _ _ ?_; exact ret _ _ _ _ F2.keep hr)
  · repeat' (first | ((with_reducible show wpAny _ _ (exec (Stmt.Return (some _) _) _) _ _ _); refine stop ?_) | (dsimp only; walk1) | walk1 | refine zP _ ?_ | refine zR0 _ _ ?_ | refine zP0 _ ?_ | refine zC _ ?_ | refine zR _ _ ?_ | refine zB _ ?_ | refine zE _ ?_ | fail "")
    rename PyProof.V.FlatPairs _ _ _ => hf0
    rename Obj.IsDictOf _ _ _ => hd0
    rename Fr _ _ _ _ => F1
    rename News _ _ _ _ => N1
    refine unstop ?_
    refine' spelled_tail (TD := tabD 4) (hand := 4) (x := x) X T ?h1 ?h2 F1 (news2 N1 (by k_mem) (by k_mem)) ?dd ?ne ?mm ?lo hd0 ?hf ?h8 ?hg hx ?_
    case h1 => ((try simp only [depth_under_make, depth_under_kw, depth_in1, depth_deeper, depth_caller]); (try dsimp only [Ar]); (first | lia | omega))
    case h2 => ((try simp only [units_in1, units_deeper, Around.mark_units, units_caller]); (try dsimp only [Ar]); (first | lia | omega))
    case dd => assumption
    case ne => (first | lia | omega)
    case mm => rfl
    case lo => assumption
    case hf => with_unfolding_all exact hf0
    case h8 => rfl
    case hg => exact gl_w 4 _ (by decide)
    intro h' tk r t F2 hr
    first | exact ret _ _ _ _ F2.keep hr | (dsimp only; refine zR0 _ _ ?_; exact ret _ _ _ _ F2.keep hr)

section PLW0
/-- a network's step and a map: what the map keeps of the order is enough -/
theorem sortStep_map {α β : Type} {d : α} {d' : β} {lt : α → α → Bool} {lt' : β → β → Bool} {f : α → β} {P : α → Prop} {r : List α} {p : Int × Int}
    (h1 : ∀ x y, P x → P y → lt' (f x) (f y) = true → lt x y = true) (h2 : ∀ x y, P x → P y → lt x y = true → lt' (f x) (f y) = true ∨ f x = f y)
    (hr : ∀ a ∈ r, P a) (hp1 : p.1.toNat < r.length) (hp2 : p.2.toNat < r.length) : sortStep d' lt' (r.map f) p = (sortStep d lt r p).map f := by
  unfold sortStep
  have e1 : (r.map f).getD p.1.toNat d' = f (r.getD p.1.toNat d) := by simp [List.getD_eq_getElem?_getD, hp1]
  have e2 : (r.map f).getD p.2.toNat d' = f (r.getD p.2.toNat d) := by simp [List.getD_eq_getElem?_getD, hp2]
  have m1 : P (r.getD p.1.toNat d) := by
    have : r.getD p.1.toNat d = r[p.1.toNat] := by simp [List.getD_eq_getElem?_getD, hp1]
    rw [this]; exact hr _ (List.getElem_mem _)
  have m2 : P (r.getD p.2.toNat d) := by
    have : r.getD p.2.toNat d = r[p.2.toNat] := by simp [List.getD_eq_getElem?_getD, hp2]
    rw [this]; exact hr _ (List.getElem_mem _)
  rw [e1, e2]
  cases hl : lt (r.getD p.2.toNat d) (r.getD p.1.toNat d) with
  | true =>
    rcases h2 _ _ m2 m1 hl with h | h
    · rw [if_pos h, if_pos rfl, List.map_set, List.map_set]
    · have hs : ∀ (r : List α) (a b : Nat) (x y : α), r[a]? = some x → r[b]? = some y → f x = f y → r.map f = ((r.set a y).set b x).map f := by
        intro r a b x y ha hb e
        apply List.ext_getElem?
        intro i
        simp only [List.getElem?_map, List.getElem?_set]
        by_cases q1 : b = i
        · subst q1
          rw [if_pos rfl]
          have : b < (r.set a y).length := by
            rw [List.length_set]
            rcases Nat.lt_or_ge b r.length with q | q
            · exact q
            · rw [List.getElem?_eq_none q] at hb; cases hb
          rw [if_pos this, hb]; simp [e]
        · rw [if_neg q1]
          by_cases q2 : a = i
          · subst q2
            rw [if_pos rfl]
            have : a < r.length := by
              rcases Nat.lt_or_ge a r.length with q | q
              · exact q
              · rw [List.getElem?_eq_none q] at ha; cases ha
            rw [if_pos this, ha]; simp [e]
          · rw [if_neg q2]
      rw [if_pos rfl]
      have g := hs r p.1.toNat p.2.toNat (r.getD p.1.toNat d) (r.getD p.2.toNat d) (by simp [List.getD_eq_getElem?_getD, hp1]) (by simp [List.getD_eq_getElem?_getD, hp2]) h.symm
      split
      · rw [List.map_set, List.map_set]
      · exact g
  | false =>
    have : ¬ lt' (f (r.getD p.2.toNat d)) (f (r.getD p.1.toNat d)) = true := fun h => by rw [h1 _ _ m2 m1 h] at hl; cases hl
    rw [if_neg this, if_neg (by decide)]
theorem sortStep_lenP {α : Type} {d : α} {lt : α → α → Bool} {r : List α} {p : Int × Int} : (sortStep d lt r p).length = r.length := by
  unfold sortStep; split <;> simp
theorem sortStep_memP {α : Type} {d : α} {lt : α → α → Bool} {r : List α} {p : Int × Int} {P : α → Prop} (hr : ∀ a ∈ r, P a) (hp1 : p.1.toNat < r.length) (hp2 : p.2.toNat < r.length) : ∀ a ∈ sortStep d lt r p, P a := by
  unfold sortStep
  split
  · intro a ha
    have h1 : r.getD p.1.toNat d ∈ r := by
      have : r.getD p.1.toNat d = r[p.1.toNat] := by simp [List.getD_eq_getElem?_getD, hp1]
      rw [this]; exact List.getElem_mem _
    have h2 : r.getD p.2.toNat d ∈ r := by
      have : r.getD p.2.toNat d = r[p.2.toNat] := by simp [List.getD_eq_getElem?_getD, hp2]
      rw [this]; exact List.getElem_mem _
    rcases List.mem_or_eq_of_mem_set ha with h | h
    · rcases List.mem_or_eq_of_mem_set h with h | h
      · exact hr _ h
      · exact h ▸ hr _ h2
    · exact h ▸ hr _ h1
  · exact hr
theorem net_mem {α : Type} {d : α} {lt : α → α → Bool} {P : α → Prop} : ∀ {wr : List (Int × Int)} {r : List α}, WiresOk wr → r.length = 4 → (∀ a ∈ r, P a) → (wr.foldl (sortStep d lt) r).length = 4 ∧ ∀ a ∈ wr.foldl (sortStep d lt) r, P a
  | [], r, _, hl, hr => ⟨hl, hr⟩
  | p :: wr, r, hw, hl, hr => by
    obtain ⟨a1, a2, a3, a4, _⟩ := hw p (.head _)
    rw [List.foldl_cons]
    exact net_mem (fun q hq => hw q (.tail _ hq)) (by rw [sortStep_lenP, hl]) (sortStep_memP hr (by (first | lia | omega)) (by (first | lia | omega)))
theorem net_map {α β : Type} {d : α} {d' : β} {lt : α → α → Bool} {lt' : β → β → Bool} {f : α → β} {P : α → Prop}
    (h1 : ∀ x y, P x → P y → lt' (f x) (f y) = true → lt x y = true) (h2 : ∀ x y, P x → P y → lt x y = true → lt' (f x) (f y) = true ∨ f x = f y) :
    ∀ {wr : List (Int × Int)} {r : List α}, WiresOk wr → r.length = 4 → (∀ a ∈ r, P a) → wr.foldl (sortStep d' lt') (r.map f) = (wr.foldl (sortStep d lt) r).map f
  | [], r, _, _, _ => rfl
  | p :: wr, r, hw, hl, hr => by
    obtain ⟨a1, a2, a3, a4, _⟩ := hw p (.head _)
    rw [List.foldl_cons, List.foldl_cons, sortStep_map (d := d) h1 h2 hr (by (first | lia | omega)) (by (first | lia | omega))]
    exact net_map h1 h2 (fun q hq => hw q (.tail _ hq)) (by rw [sortStep_lenP, hl]) (sortStep_memP hr (by (first | lia | omega)) (by (first | lia | omega)))
theorem plain_net (by' : Int) (wr : List (Int × Int)) (r : List Int) : wr.foldl (plainStep by') r = wr.foldl (sortStep 0 fun a b => decide (Int.fdiv a by' < Int.fdiv b by')) r := by
  congr 1
  funext r p
  unfold plainStep sortStep swapAt
  simp only [decide_eq_true_eq]
/-- the order of four things -/
structure Tot (lt : Nat → Nat → Bool) : Prop where
  irr : ∀ a, a < 4 → lt a a = false
  tr : ∀ a b c, a < 4 → b < 4 → c < 4 → lt a b = true → lt b c = true → lt a c = true
  tot : ∀ a b, a < 4 → b < 4 → a ≠ b → lt a b = true ∨ lt b a = true
/-- the plain net -/
theorem lt4 {P : Nat → Prop} (h0 : P 0) (h1 : P 1) (h2 : P 2) (h3 : P 3) : ∀ a, a < 4 → P a
  | 0, _ => h0
  | 1, _ => h1
  | 2, _ => h2
  | 3, _ => h3
  | _ + 4, h => absurd h (Nat.not_lt.mpr (Nat.le_add_left ..))
noncomputable def LB (b01 b02 b03 b12 b13 b23 : Bool) (a b : Nat) : Bool := ([[false, b01, b02, b03], [!b01, false, b12, b13], [!b02, !b12, false, b23], [!b03, !b13, !b23, false]].getD a []).getD b false
theorem Tot.asym {lt : Nat → Nat → Bool} (T : Tot lt) {a b : Nat} (ha : a < 4) (hb : b < 4) (e : a ≠ b) : lt b a = !lt a b := by
  cases h : lt a b with
  | true =>
    cases h2 : lt b a with
    | false => rfl
    | true => exact absurd (T.tr a b a ha hb ha h h2) (by rw [T.irr a ha]; exact Bool.false_ne_true)
  | false => exact (T.tot a b ha hb e).elim (fun q => by rw [h] at q; cases q) id
theorem Tot.toLB {lt : Nat → Nat → Bool} (T : Tot lt) : ∀ a, a < 4 → ∀ b, b < 4 → lt a b = LB (lt 0 1) (lt 0 2) (lt 0 3) (lt 1 2) (lt 1 3) (lt 2 3) a b :=
  lt4 (lt4 (T.irr 0 (by decide)) rfl rfl rfl) (lt4 (T.asym (by decide) (by decide) (by decide)) (T.irr 1 (by decide)) rfl rfl)
    (lt4 (T.asym (by decide) (by decide) (by decide)) (T.asym (by decide) (by decide) (by decide)) (T.irr 2 (by decide)) rfl)
    (lt4 (T.asym (by decide) (by decide) (by decide)) (T.asym (by decide) (by decide) (by decide)) (T.asym (by decide) (by decide) (by decide)) (T.irr 3 (by decide)))
noncomputable def trB (l : Nat → Nat → Bool) : Bool := [0, 1, 2, 3].all fun a => [0, 1, 2, 3].all fun b => [0, 1, 2, 3].all fun c => !(l a b && l b c) || l a c
noncomputable def netI (wr : List (Int × Int)) (r : List Int) : List Int := wr.foldl (sortStep 0 fun a b => decide (a < b)) r
noncomputable def bitI (ones l : Nat) : Int := if (ones >>> l) % 2 = 1 then 1 else 0
noncomputable def startF (ones : Nat) : List Int := [2 * bitI ones 0, 2 * bitI ones 1 + 1, 2 * bitI ones 2, 2 * bitI ones 3 + 1]
noncomputable def bitsF (ones : Nat) : List Int := [bitI ones 0, bitI ones 1, bitI ones 2, bitI ones 3]
noncomputable def rowS (wr : List (Int × Int)) (ones : Nat) : List Int := (wr.foldl (plainStep 2) (startF ones)).map fun x => Int.fdiv x 2
theorem bitI_01 (ones l : Nat) : bitI ones l = 0 ∨ bitI ones l = 1 := by unfold bitI; split <;> simp
theorem bits_in {P : Int → Int → Int → Int → Prop} (h : ∀ a ∈ ([0, 1] : List Int), ∀ b ∈ ([0, 1] : List Int), ∀ c ∈ ([0, 1] : List Int), ∀ d ∈ ([0, 1] : List Int), P a b c d) (ones : Nat) : P (bitI ones 0) (bitI ones 1) (bitI ones 2) (bitI ones 3) := by
  have e : ∀ l, bitI ones l ∈ ([0, 1] : List Int) := fun l => by unfold bitI; split <;> decide
  exact h _ (e 0) _ (e 1) _ (e 2) _ (e 3)
theorem start_mem (ones : Nat) : ∀ j ∈ startF ones, 0 ≤ j ∧ j < 4 :=
  bits_in (P := fun a b c d => ∀ j ∈ [2 * a, 2 * b + 1, 2 * c, 2 * d + 1], 0 ≤ j ∧ j < 4) (by decide) ones
theorem start_bits (ones : Nat) : (startF ones).map (fun x => Int.fdiv x 2) = bitsF ones :=
  bits_in (P := fun a b c d => [2 * a, 2 * b + 1, 2 * c, 2 * d + 1].map (fun x => Int.fdiv x 2) = [a, b, c, d]) (by decide) ones
theorem rowS_net {wr : List (Int × Int)} (hw : WiresOk wr) (ones : Nat) : rowS wr ones = netI wr (bitsF ones) := by
  unfold rowS netI
  rw [plain_net, ← start_bits]
  exact (net_map (P := fun _ => True) (d := 0) (d' := 0) (f := fun x => Int.fdiv x 2) (lt := fun a b => decide (Int.fdiv a 2 < Int.fdiv b 2)) (lt' := fun a b => decide (a < b)) (r := startF ones) (fun x y _ _ h => h) (fun x y _ _ h => .inl h) hw rfl (fun _ _ => trivial)).symm
theorem rowS_len {wr : List (Int × Int)} (hw : WiresOk wr) (ones : Nat) : (rowS wr ones).length = 4 ∧ ∀ z ∈ rowS wr ones, 0 ≤ z ∧ z < 4 := by
  rw [rowS_net hw]
  exact net_mem hw rfl (bits_in (P := fun a b c d => ∀ j ∈ [a, b, c, d], 0 ≤ j ∧ j < 4) (by decide) ones)
/-- A: the leads' row is the plain row -/
theorem lawA {wr : List (Int × Int)} (hw : WiresOk wr) {less : Int → Int → Bool} (hl : ∀ x y, 0 ≤ x ∧ x < 4 → 0 ≤ y ∧ y < 4 → less x y = decide (Int.fdiv x 2 < Int.fdiv y 2)) {r : List Int} (hr : r.length = 4) (hm : ∀ j ∈ r, 0 ≤ j ∧ j < 4) :
    wr.foldl (sortStep 0 less) r = wr.foldl (plainStep 2) r := by
  rw [plain_net]
  have := net_map (f := id) (d := (0 : Int)) (d' := (0 : Int)) (lt := fun a b => decide (Int.fdiv a 2 < Int.fdiv b 2)) (lt' := less) (P := fun j => 0 ≤ j ∧ j < 4) (fun x y hx hy h => by rw [← hl x y hx hy]; exact h) (fun x y hx hy h => .inl (by rw [id, id, hl x y hx hy]; exact h)) hw hr hm
  simpa using this
noncomputable def i4 : List Nat := [0, 1, 2, 3]
noncomputable def thr (lt : Nat → Nat → Bool) (bar j : Nat) : Int := if lt j bar then 0 else 1
noncomputable def mask (lt : Nat → Nat → Bool) (bar : Nat) : Nat := (if lt 0 bar then 0 else 1) + (if lt 1 bar then 0 else 2) + (if lt 2 bar then 0 else 4) + (if lt 3 bar then 0 else 8)
noncomputable def maskB (a b c d : Bool) : Nat := (if a then 0 else 1) + (if b then 0 else 2) + (if c then 0 else 4) + (if d then 0 else 8)
theorem mask_lt (lt : Nat → Nat → Bool) (bar : Nat) : mask lt bar < 16 :=
  (by decide : ∀ a b c d : Bool, maskB a b c d < 16) (lt 0 bar) (lt 1 bar) (lt 2 bar) (lt 3 bar)
theorem mask_bits (lt : Nat → Nat → Bool) (bar : Nat) : bitsF (mask lt bar) = i4.map (thr lt bar) :=
  (by decide : ∀ a b c d : Bool, bitsF (maskB a b c d) = [if a then 0 else 1, if b then 0 else 1, if c then 0 else 1, if d then 0 else 1]) (lt 0 bar) (lt 1 bar) (lt 2 bar) (lt 3 bar)
theorem i4_mem : ∀ a ∈ i4, a < 4 := by decide
/-- B: the items at a bar -/
theorem lawB {wr : List (Int × Int)} (hw : WiresOk wr) {lt : Nat → Nat → Bool} (T : Tot lt) {bar : Nat} (hb : bar < 4) :
    rowS wr (mask lt bar) = (wr.foldl (sortStep 0 lt) i4).map (thr lt bar) := by
  rw [rowS_net hw, mask_bits]
  unfold netI
  refine net_map (P := fun a => a < 4) (fun x y hx hy h => ?_) (fun x y hx hy h => ?_) hw rfl i4_mem
  · unfold thr at h
    cases h0 : lt x bar <;> cases h1 : lt y bar <;> simp [h0, h1] at h
    by_cases e : y = x
    · subst e; rw [h0] at h1; cases h1
    rcases T.tot x y hx hy (Ne.symm e) with q | q
    · exact q
    · have := T.tr _ _ _ hy hx hb q h0; rw [this] at h1; cases h1
  · unfold thr
    cases h0 : lt x bar <;> cases h1 : lt y bar <;> simp
    have := T.tr _ _ _ hx hy hb h h1; rw [this] at h0; cases h0
noncomputable def rank (lt : Nat → Nat → Bool) (j : Nat) : Int := (if lt 0 j then 1 else 0) + (if lt 1 j then 1 else 0) + (if lt 2 j then 1 else 0) + (if lt 3 j then 1 else 0)
theorem LB_rank : ∀ b01 b02 b03 b12 b13 b23 : Bool, trB (LB b01 b02 b03 b12 b13 b23) = true → [0, 1, 2, 3].all (fun x => [0, 1, 2, 3].all fun y => LB b01 b02 b03 b12 b13 b23 x y == decide (rank (LB b01 b02 b03 b12 b13 b23) x < rank (LB b01 b02 b03 b12 b13 b23) y)) = true := by decide +kernel
theorem Tot.isTr {lt : Nat → Nat → Bool} (T : Tot lt) : trB (LB (lt 0 1) (lt 0 2) (lt 0 3) (lt 1 2) (lt 1 3) (lt 2 3)) = true := by
  have q : ∀ z ∈ ([0, 1, 2, 3] : List Nat), z < 4 := by decide
  refine List.all_eq_true.mpr fun a ha => List.all_eq_true.mpr fun b hb => List.all_eq_true.mpr fun c hc => ?_
  rw [← T.toLB a (q a ha) b (q b hb), ← T.toLB b (q b hb) c (q c hc), ← T.toLB a (q a ha) c (q c hc)]
  cases h1 : lt a b with
  | false => rfl
  | true => cases h2 : lt b c with
    | false => rfl
    | true => rw [T.tr a b c (q a ha) (q b hb) (q c hc) h1 h2]; rfl
theorem Tot.rankL {lt : Nat → Nat → Bool} (T : Tot lt) {x : Nat} (hx : x < 4) : rank lt x = rank (LB (lt 0 1) (lt 0 2) (lt 0 3) (lt 1 2) (lt 1 3) (lt 2 3)) x := by
  unfold rank
  rw [T.toLB 0 (by decide) x hx, T.toLB 1 (by decide) x hx, T.toLB 2 (by decide) x hx, T.toLB 3 (by decide) x hx]
theorem rank_lt {lt : Nat → Nat → Bool} (T : Tot lt) {x y : Nat} (hx : x < 4) (hy : y < 4) : lt x y = decide (rank lt x < rank lt y) := by
  have q : ∀ z, z < 4 → z ∈ ([0, 1, 2, 3] : List Nat) := by decide
  rw [T.rankL hx, T.rankL hy, T.toLB x hx y hy]
  exact beq_iff_eq.mp (List.all_eq_true.mp (List.all_eq_true.mp (LB_rank _ _ _ _ _ _ T.isTr) x (q x hx)) y (q y hy))
/-- the orders of four -/
noncomputable def perms : List (List Int) := [[0, 1, 2, 3], [0, 1, 3, 2], [0, 2, 1, 3], [0, 2, 3, 1], [0, 3, 1, 2], [0, 3, 2, 1], [1, 0, 2, 3], [1, 0, 3, 2], [1, 2, 0, 3], [1, 2, 3, 0], [1, 3, 0, 2], [1, 3, 2, 0], [2, 0, 1, 3], [2, 0, 3, 1], [2, 1, 0, 3], [2, 1, 3, 0], [2, 3, 0, 1], [2, 3, 1, 0], [3, 0, 1, 2], [3, 0, 2, 1], [3, 1, 0, 2], [3, 1, 2, 0], [3, 2, 0, 1], [3, 2, 1, 0]]
theorem LB_perm : ∀ b01 b02 b03 b12 b13 b23 : Bool, trB (LB b01 b02 b03 b12 b13 b23) = true → i4.map (rank (LB b01 b02 b03 b12 b13 b23)) ∈ perms := by decide +kernel
theorem rank_perm {lt : Nat → Nat → Bool} (T : Tot lt) : i4.map (rank lt) ∈ perms := by
  rw [List.map_congr_left fun x hx => T.rankL (i4_mem x hx)]
  exact LB_perm _ _ _ _ _ _ T.isTr
theorem perms_mem : ∀ q ∈ perms, q.length = 4 ∧ ∀ j ∈ q, 0 ≤ j ∧ j < 4 := by decide
theorem plain_one (wr : List (Int × Int)) (r : List Int) : wr.foldl (plainStep 1) r = netI wr r := by
  rw [plain_net]
  unfold netI
  congr 1
  funext r p
  simp only [Int.fdiv_one]
/-- C: the names' row, told by places, is the plain row of the places -/
theorem lawC {wr : List (Int × Int)} (hw : WiresOk wr) {lt : Nat → Nat → Bool} (T : Tot lt) {lti : Int → Int → Bool} (hl : ∀ x y, 0 ≤ x ∧ x < 4 → 0 ≤ y ∧ y < 4 → lti x y = lt x.toNat y.toNat) {pl : Int → Int} (hp : ∀ x, 0 ≤ x ∧ x < 4 → pl x = rank lt x.toNat) {r : List Int} (hr : r.length = 4) (hm : ∀ j ∈ r, 0 ≤ j ∧ j < 4) :
    (wr.foldl (sortStep 0 lti) r).map pl = netI wr (r.map pl) := by
  unfold netI
  have key : ∀ x y, 0 ≤ x ∧ x < 4 → 0 ≤ y ∧ y < 4 → lti x y = decide (pl x < pl y) := fun x y hx hy => by
    rw [hl x y hx hy, hp x hx, hp y hy]; exact rank_lt T (by (first | lia | omega)) (by (first | lia | omega))
  exact (net_map (f := pl) (lt' := fun a b => decide (a < b)) (d := 0) (d' := 0) (P := fun j => 0 ≤ j ∧ j < 4) (fun x y hx hy h => by rw [key x y hx hy]; exact h) (fun x y hx hy h => .inl (by rw [← key x y hx hy]; exact h)) hw hr hm).symm
/-- the items' ends -/
theorem ends_net {wr : List (Int × Int)} (hw : WiresOk wr) {lt : Nat → Nat → Bool} (T : Tot lt) : (wr.foldl (sortStep 0 lt) i4).map (rank lt) = netI wr (i4.map (rank lt)) := by
  unfold netI
  exact (net_map (f := rank lt) (lt' := fun a b => decide (a < b)) (d := 0) (d' := 0) (P := fun j => j < 4) (fun x y hx hy h => by rw [rank_lt T hx hy]; exact h) (fun x y hx hy h => .inl (by rw [← rank_lt T hx hy]; exact h)) hw rfl i4_mem).symm
/-- thresholds -/
noncomputable def ge (t x : Int) : Int := if x ≥ t then 1 else 0
theorem net_ge {wr : List (Int × Int)} (hw : WiresOk wr) (t : Int) {r : List Int} (hr : r.length = 4) : netI wr (r.map (ge t)) = (netI wr r).map (ge t) := by
  unfold netI
  refine net_map (P := fun _ => True) (fun x y _ _ h => ?_) (fun x y _ _ h => ?_) hw hr (fun _ _ => trivial)
  · unfold ge at h
    simp only [decide_eq_true_eq] at h ⊢
    split at h <;> split at h <;> (first | lia | omega)
  · unfold ge
    simp only [decide_eq_true_eq] at h ⊢
    split <;> split <;> (first | lia | omega)
theorem eq_of_ge : ∀ {xs ys : List Int}, (∀ j ∈ xs, 0 ≤ j ∧ j < 4) → (∀ j ∈ ys, 0 ≤ j ∧ j < 4) → xs.map (ge 1) = ys.map (ge 1) → xs.map (ge 2) = ys.map (ge 2) → xs.map (ge 3) = ys.map (ge 3) → xs = ys
  | [], [], _, _, _, _, _ => rfl
  | [], _ :: _, _, _, h, _, _ => by cases h
  | _ :: _, [], _, _, h, _, _ => by cases h
  | x :: xs, y :: ys, hx, hy, h1, h2, h3 => by
    simp only [List.map_cons, List.cons.injEq] at h1 h2 h3
    have e := eq_of_ge (fun j hj => hx j (.tail _ hj)) (fun j hj => hy j (.tail _ hj)) h1.2 h2.2 h3.2
    have a := hx x (.head _)
    have b := hy y (.head _)
    have c : x = y := by
      have h1 := h1.1
      have h2 := h2.1
      have h3 := h3.1
      unfold ge at h1 h2 h3
      split at h1 <;> split at h1 <;> split at h2 <;> split at h2 <;> split at h3 <;> split at h3 <;> (first | lia | omega)
    rw [c, e]
/-- the mask of an order at a threshold -/
noncomputable def maskQ (t : Int) (q : List Int) : Nat := (if q.getD 0 0 ≥ t then 1 else 0) + (if q.getD 1 0 ≥ t then 2 else 0) + (if q.getD 2 0 ≥ t then 4 else 0) + (if q.getD 3 0 ≥ t then 8 else 0)
theorem maskQ_bits : ∀ q ∈ perms, ∀ t ∈ ([1, 2, 3] : List Int), bitsF (maskQ t q) = q.map (ge t) := by decide
/-- what is shown at a threshold -/
noncomputable def shown (wr : List (Int × Int)) (ends : List Int) (t : Int) (k : Nat) : Bool := decide (rowS wr k = ends.map (ge t))
theorem net_shown {wr : List (Int × Int)} (hw : WiresOk wr) {ends : List Int} (he : ends.length = 4 ∧ ∀ j ∈ ends, 0 ≤ j ∧ j < 4) {q : List Int} (hq : q ∈ perms) :
    decide (netI wr q = ends) = (shown wr ends 3 (maskQ 3 q) && shown wr ends 2 (maskQ 2 q) && shown wr ends 1 (maskQ 1 q)) := by
  obtain ⟨q1, q2⟩ := perms_mem q hq
  have key : ∀ t ∈ ([1, 2, 3] : List Int), rowS wr (maskQ t q) = (netI wr q).map (ge t) := fun t ht => by
    rw [rowS_net hw, maskQ_bits q hq t ht, net_ge hw t q1]
  unfold shown
  rw [key 1 (by decide), key 2 (by decide), key 3 (by decide)]
  rw [Bool.eq_iff_iff]
  simp only [Bool.and_eq_true, decide_eq_true_eq]
  constructor
  · rintro rfl; exact ⟨⟨rfl, rfl⟩, rfl⟩
  · rintro ⟨⟨h3, h2⟩, h1⟩
    exact eq_of_ge (net_mem hw q1 q2).2 he.2 h1 h2 h3
/-- the orders told by places are the orders, in another order -/
theorem perms_places : ∀ p ∈ perms, ∀ f : List Int → Bool, (perms.filter fun o => f (o.map fun j => p.getD j.toNat 0)).length = (perms.filter f).length := by
  intro p hp f
  have e : ∀ (l : List (List Int)) (g : List Int → List Int), (l.filter fun o => f (g o)).length = ((l.map g).filter f).length := fun l g => by
    rw [List.filter_map, List.length_map]; rfl
  rw [e]
  have key : ∀ p ∈ perms, (perms.map fun o => o.map fun j => p.getD j.toNat 0).isPerm perms = true := by decide +kernel
  exact ((List.isPerm_iff.mp (key p hp)).filter f).length_eq
noncomputable def val (l : List (Int × Int)) (k : Int) : Int := (getL k l).getD 0
structure KeysOk (l : List (Int × Int)) : Prop where
  nd : (l.map (·.1)).Nodup
  lo : ∀ p ∈ l, 0 ≤ p.1 ∧ p.1 < 16
theorem nodup_len : ∀ (n : Nat) (l : List Nat), l.Nodup → (∀ x ∈ l, x < n) → l.length ≤ n
  | 0, [], _, _ => Nat.le_refl _
  | 0, x :: _, _, h => absurd (h x (.head _)) (Nat.not_lt_zero _)
  | n + 1, l, hd, h => by
    have h1 : (l.erase n).length ≤ n := nodup_len n _ (hd.erase n) fun x hx => by
      obtain ⟨a, b⟩ := (hd.mem_erase_iff).mp hx
      have := h x b
      (first | lia | omega)
    by_cases hm : n ∈ l
    · rw [List.length_erase_of_mem hm] at h1; (first | lia | omega)
    · rw [List.erase_of_not_mem hm] at h1; (first | lia | omega)
theorem KeysOk.len {l : List (Int × Int)} (h : KeysOk l) : l.length ≤ 16 := by
  have := nodup_len 16 (l.map fun p => p.1.toNat) (by
    have e : (l.map fun p => p.1.toNat) = (l.map (·.1)).map Int.toNat := by rw [List.map_map]; rfl
    rw [e]
    refine List.pairwise_map.mpr ((List.pairwise_iff_forall_sublist.mpr ?_))
    intro a b hs
    have hn := h.nd
    have hab : a ≠ b := (List.pairwise_iff_forall_sublist.mp hn) hs
    have ha : a ∈ l.map (·.1) := hs.subset (.head _)
    have hb : b ∈ l.map (·.1) := hs.subset (.tail _ (.head _))
    obtain ⟨p, hp, rfl⟩ := List.mem_map.mp ha
    obtain ⟨q, hq, rfl⟩ := List.mem_map.mp hb
    have := h.lo p hp
    have := h.lo q hq
    (first | lia | omega)) (fun x hx => by obtain ⟨p, hp, rfl⟩ := List.mem_map.mp hx; have := h.lo p hp; (first | lia | omega))
  simpa using this
theorem getL_none {k : Int} : ∀ {l : List (Int × Int)}, getL k l = none ↔ k ∉ l.map (·.1)
  | [] => by simp [getL]
  | (a, b) :: r => by
    simp only [getL, List.map_cons, List.mem_cons, not_or]
    by_cases h : a = k
    · simp [h]
    · simp only [h, if_false]
      rw [getL_none]
      exact ⟨fun q => ⟨fun e => h e.symm, q⟩, fun q => q.2⟩
theorem any_iff {k : Int} {l : List (Int × Int)} : l.any (fun p => decide (p.1 = k)) = true ↔ k ∈ l.map (·.1) := by
  simp [List.any_eq_true, List.mem_map]
theorem putL_new {k c : Int} {l : List (Int × Int)} (h : k ∉ l.map (·.1)) : putL k c l = l ++ [(k, c)] := by
  unfold putL
  rw [if_neg (fun q => h (any_iff.mp q))]
theorem putL_old {k c : Int} {l : List (Int × Int)} (h : k ∈ l.map (·.1)) : putL k c l = l.map fun p => if p.1 = k then (p.1, c) else p := by
  unfold putL
  rw [if_pos (any_iff.mpr h)]
theorem map_put_keys (k c : Int) (l : List (Int × Int)) : (l.map fun p => if p.1 = k then (p.1, c) else p).map (·.1) = l.map (·.1) := by
  rw [List.map_map]
  exact List.map_congr_left fun p _ => by simp only [Function.comp]; split <;> rfl
theorem KeysOk.put {k c : Int} {l : List (Int × Int)} (h : KeysOk l) (hk : 0 ≤ k ∧ k < 16) : KeysOk (putL k c l) := by
  by_cases q : k ∈ l.map (·.1)
  · rw [putL_old q]
    refine ⟨by rw [map_put_keys]; exact h.nd, fun p hp => ?_⟩
    obtain ⟨p', hp', rfl⟩ := List.mem_map.mp hp
    have := h.lo p' hp'
    split <;> exact this
  · rw [putL_new q]
    refine ⟨?_, fun p hp => ?_⟩
    · rw [List.map_append]
      refine List.nodup_append.mpr ⟨h.nd, by simp, fun a ha b hb e => ?_⟩
      simp only [List.map_cons, List.map_nil, List.mem_singleton] at hb
      subst hb; subst e; exact q ha
    · rcases List.mem_append.mp hp with hp | hp
      · exact h.lo p hp
      · rw [List.mem_singleton.mp hp]; exact hk
theorem KeysOk.add {l : List (Int × Int)} {p : Int × Int} (h : KeysOk l) (hk : 0 ≤ p.1 ∧ p.1 < 16) : KeysOk (addL l p) := by
  unfold addL; split <;> exact h.put hk
theorem KeysOk.copy {l : List (Int × Int)} (h : KeysOk l) : l.foldl (fun l p => putL p.1 p.2 l) [] = l := by
  have key : ∀ (r s : List (Int × Int)), ((s ++ r).map (·.1)).Nodup → r.foldl (fun l p => putL p.1 p.2 l) s = s ++ r := by
    intro r
    induction r with
    | nil => intro s _; simp
    | cons p r ih =>
      intro s hn
      rw [List.foldl_cons]
      have hp : p.1 ∉ s.map (·.1) := fun q => by
        rw [List.map_append, List.nodup_append] at hn
        exact hn.2.2 _ q _ (.head _) rfl
      rw [putL_new hp, ih _ (by simpa using hn)]
      simp
  exact key l [] (by simpa using h.nd)
theorem getL_append {k : Int} : ∀ {l r : List (Int × Int)}, k ∉ l.map (·.1) → getL k (l ++ r) = getL k r
  | [], _, _ => rfl
  | (a, b) :: l, r, h => by
    simp only [List.map_cons, List.mem_cons, not_or] at h
    rw [List.cons_append, getL, if_neg (fun e => h.1 e.symm)]
    exact getL_append h.2
theorem getL_append' {k : Int} : ∀ {l r : List (Int × Int)}, k ∉ r.map (·.1) → getL k (l ++ r) = getL k l
  | [], _, h => getL_none.mpr h
  | (a, b) :: l, r, h => by
    rw [List.cons_append, getL, getL]
    split
    · rfl
    · exact getL_append' h
theorem getL_put (k c k' : Int) (l : List (Int × Int)) : getL k' (putL k c l) = if k' = k then some c else getL k' l := by
  by_cases q : k ∈ l.map (·.1)
  · rw [putL_old q]
    induction l with
    | nil => simp at q
    | cons p r ih =>
      obtain ⟨a, b⟩ := p
      simp only [List.map_cons]
      by_cases e : a = k
      · subst e
        simp only [if_true, getL]
        by_cases e2 : a = k'
        · subst e2; simp
        · rw [if_neg e2, if_neg e2, if_neg (fun e => e2 e.symm)]
          by_cases q2 : a ∈ r.map (·.1)
          · rw [ih q2, if_neg (fun e => e2 e.symm)]
          · congr 1
            have : ∀ p ∈ r, (if p.1 = a then (p.1, c) else p) = id p := fun p hp => by
              rw [if_neg (fun e => q2 (List.mem_map.mpr ⟨p, hp, e⟩))]; rfl
            rw [List.map_congr_left this, List.map_id]
      · simp only [List.map_cons, List.mem_cons] at q
        have q2 := q.resolve_left (fun h => e h.symm)
        simp only [if_neg e, getL]
        by_cases e2 : a = k'
        · subst e2; simp [e]
        · rw [if_neg e2, if_neg e2, ih q2]
  · rw [putL_new q]
    by_cases e : k' = k
    · subst e
      rw [getL_append q, if_pos rfl]; simp [getL]
    · rw [if_neg e, getL_append' (by simp [e])]
theorem val_add (l : List (Int × Int)) (k c k' : Int) : val (addL l (k, c)) k' = val l k' + if k' = k then c else 0 := by
  unfold addL val
  cases h : getL k l with
  | none =>
    simp only [getL_put]
    by_cases e : k' = k
    · subst e; simp [h]
    · simp [e]
  | some b =>
    simp only [getL_put]
    by_cases e : k' = k
    · subst e; simp [h]
    · simp [e]
theorem addL_keys {l : List (Int × Int)} {k c x : Int} (h : x ∈ (addL l (k, c)).map (·.1)) : x = k ∨ x ∈ l.map (·.1) := by
  have hn : getL x (addL l (k, c)) ≠ none := fun q => getL_none.mp q h
  unfold addL at hn
  by_cases e : x = k
  · exact .inl e
  · refine .inr ?_
    have : getL x l ≠ none := by
      split at hn
      · rwa [getL_put, if_neg e] at hn
      · rwa [getL_put, if_neg e] at hn
    rcases Classical.em (x ∈ l.map (·.1)) with q | q
    · exact q
    · exact absurd (getL_none.mpr q) this
/-- a line more -/
noncomputable def moreF (o : Int) (line : Nat) : Int := ((o.toNat ||| (1 <<< line) : Nat) : Int)
theorem moreF_lt : ∀ o : Nat, o < 16 → ∀ l : Nat, l < 4 → 0 ≤ moreF (o : Int) l ∧ moreF (o : Int) l < 16 := by decide
noncomputable def addC (acc ls : List (Int × Int)) : List (Int × Int) := ls.foldl addL (acc.foldl (fun l p => putL p.1 p.2 l) [])
noncomputable def innerF (P : Int → Bool) (ways : List (Int × Int)) (o : Int) (acc : List (Int × Int)) (line : Nat) : List (Int × Int) :=
  if moreF o line ≠ o ∧ P (moreF o line) = true then addC acc [(moreF o line, val ways o)] else acc
noncomputable def lineF (P : Int → Bool) (ways acc : List (Int × Int)) (o : Int) : List (Int × Int) := i4.foldl (innerF P ways o) acc
noncomputable def stepW (P : Int → Bool) (ways : List (Int × Int)) : List (Int × Int) := (ways.map (·.1)).foldl (lineF P ways) []
noncomputable def waysL (Ps : List (Int → Bool)) : List (Int × Int) := Ps.foldl (fun w P => stepW P w) [(0, 1)]
theorem innerF_ok {P : Int → Bool} {ways acc : List (Int × Int)} {o : Int} {line : Nat} (ho : 0 ≤ o ∧ o < 16) (hl : line < 4) (h : KeysOk acc) : KeysOk (innerF P ways o acc line) := by
  unfold innerF
  split
  · unfold addC
    rw [h.copy, List.foldl_cons, List.foldl_nil]
    refine h.add ?_
    have := moreF_lt o.toNat (by (first | lia | omega)) line hl
    rwa [Int.toNat_of_nonneg ho.1] at this
  · exact h
theorem inner_ok {P : Int → Bool} {ways : List (Int × Int)} {o : Int} (ho : 0 ≤ o ∧ o < 16) : ∀ {ls : List Nat} {acc : List (Int × Int)}, (∀ l ∈ ls, l < 4) → KeysOk acc → KeysOk (ls.foldl (innerF P ways o) acc)
  | [], _, _, h => h
  | l :: ls, acc, hl, h => inner_ok (ls := ls) ho (fun x hx => hl x (.tail _ hx)) (innerF_ok ho (hl l (.head _)) h)
theorem line_ok {P : Int → Bool} {ways : List (Int × Int)} : ∀ {os : List Int} {acc : List (Int × Int)}, (∀ o ∈ os, 0 ≤ o ∧ o < 16) → KeysOk acc → KeysOk (os.foldl (lineF P ways) acc)
  | [], _, _, h => h
  | o :: os, acc, ho, h => line_ok (os := os) (fun x hx => ho x (.tail _ hx)) (inner_ok (ho o (.head _)) i4_mem h)
theorem KeysOk.nil : KeysOk [] := ⟨List.nodup_nil, fun _ hp => (nomatch hp)⟩
theorem KeysOk.keys {l : List (Int × Int)} (h : KeysOk l) : ∀ o ∈ l.map (·.1), 0 ≤ o ∧ o < 16 := fun o ho => by
  obtain ⟨p, hp, rfl⟩ := List.mem_map.mp ho; exact h.lo p hp
theorem step_ok {P : Int → Bool} {ways : List (Int × Int)} (h : KeysOk ways) : KeysOk (stepW P ways) := line_ok h.keys .nil
theorem ways0_ok : KeysOk [(0, 1)] := ⟨by simp, fun p hp => by rw [List.mem_singleton.mp hp]; decide⟩
/-- values -/
noncomputable def hit (P : Int → Bool) (o : Int) (line : Nat) (k : Int) : Int := if moreF o line = k ∧ k ≠ o ∧ P k = true then 1 else 0
noncomputable def hits (P : Int → Bool) (o k : Int) : Int := hit P o 0 k + hit P o 1 k + hit P o 2 k + hit P o 3 k
theorem innerF_val {P : Int → Bool} {ways acc : List (Int × Int)} {o : Int} {line : Nat} (h : KeysOk acc) (k : Int) : val (innerF P ways o acc line) k = val acc k + val ways o * hit P o line k := by
  unfold innerF hit
  by_cases c : moreF o line ≠ o ∧ P (moreF o line) = true
  · rw [if_pos c]
    unfold addC
    rw [h.copy, List.foldl_cons, List.foldl_nil, val_add]
    by_cases e : k = moreF o line
    · subst e; simp [c]
    · rw [if_neg e, if_neg (fun q => e q.1.symm)]; (first | lia | omega)
  · rw [if_neg c, if_neg (fun q => c (by rw [q.1]; exact q.2))]; (first | lia | omega)
theorem lineF_val {P : Int → Bool} {ways acc : List (Int × Int)} {o : Int} (ho : 0 ≤ o ∧ o < 16) (h : KeysOk acc) (k : Int) : val (lineF P ways acc o) k = val acc k + val ways o * hits P o k := by
  unfold lineF i4 hits
  simp only [List.foldl_cons, List.foldl_nil]
  have h1 := innerF_ok (P := P) (ways := ways) (line := 0) ho (by decide) h
  have h2 := innerF_ok (P := P) (ways := ways) (line := 1) ho (by decide) h1
  have h3 := innerF_ok (P := P) (ways := ways) (line := 2) ho (by decide) h2
  rw [innerF_val h3, innerF_val h2, innerF_val h1, innerF_val h]
  simp only [Int.mul_add]
  (first | lia | omega)
theorem fold_val {P : Int → Bool} {ways : List (Int × Int)} (k : Int) : ∀ {os : List Int} {acc : List (Int × Int)}, (∀ o ∈ os, 0 ≤ o ∧ o < 16) → KeysOk acc → val (os.foldl (lineF P ways) acc) k = val acc k + (os.map fun o => val ways o * hits P o k).sum
  | [], acc, _, _ => by simp
  | o :: os, acc, ho, h => by
    rw [List.foldl_cons, fold_val (os := os) (acc := lineF P ways acc o) k (fun x hx => ho x (.tail _ hx)) (inner_ok (ho o (.head _)) i4_mem h), lineF_val (ho o (.head _)) h, List.map_cons, List.sum_cons]
    (first | lia | omega)
noncomputable def r16 : List Int := [0, 1, 2, 3, 4, 5, 6, 7, 8, 9, 10, 11, 12, 13, 14, 15]
theorem mem_r16 {x : Int} (h : 0 ≤ x ∧ x < 16) : x ∈ r16 := by
  have := (by decide : ∀ n : Nat, n < 16 → (n : Int) ∈ r16) x.toNat (by (first | lia | omega))
  rwa [Int.toNat_of_nonneg h.1] at this
theorem sum_erase (f : Int → Int) (a : Int) : ∀ r : List Int, a ∈ r → (r.map f).sum = f a + ((r.erase a).map f).sum
  | b :: r, h => by
    by_cases e : b = a
    · subst e; rw [List.erase_cons_head, List.map_cons, List.sum_cons]
    · have ih := sum_erase f a r ((List.mem_cons.mp h).resolve_left fun q => e q.symm)
      rw [List.erase_cons_tail (by rw [beq_eq_false_iff_ne.mpr e]; exact Bool.false_ne_true), List.map_cons, List.sum_cons, List.map_cons, List.sum_cons, ih]
      (first | lia | omega)
theorem sum_sub (f : Int → Int) : ∀ (ks r : List Int), ks.Nodup → r.Nodup → (∀ x ∈ ks, x ∈ r) → (∀ x ∈ r, x ∉ ks → f x = 0) → (ks.map f).sum = (r.map f).sum
  | [], [], _, _, _, _ => rfl
  | [], b :: r, hn, hr, hs, hz => by
    rw [List.map_cons, List.sum_cons, hz b (.head _) (fun h => nomatch h), ← sum_sub f [] r hn (List.nodup_cons.mp hr).2 (fun _ h => nomatch h) fun x hx => hz x (.tail _ hx)]
    rfl
  | a :: t, r, hn, hr, hs, hz => by
    have hn' := List.nodup_cons.mp hn
    rw [sum_erase f a r (hs a (.head _)), List.map_cons, List.sum_cons, sum_sub f t (r.erase a) hn'.2 (hr.erase a) (fun x hx => (hr.mem_erase_iff).mpr ⟨fun e => hn'.1 (e ▸ hx), hs x (.tail _ hx)⟩) fun x hx hxt => by
      obtain ⟨h1, h2⟩ := (hr.mem_erase_iff).mp hx
      exact hz x h2 fun q => (List.mem_cons.mp q).elim h1 hxt]
theorem sum_keys (g : Int → Int) {l : List (Int × Int)} (h : KeysOk l) : ((l.map (·.1)).map fun o => val l o * g o).sum = (r16.map fun o => val l o * g o).sum := by
  refine sum_sub _ _ _ h.nd (by decide) (fun x hx => ?_) fun x _ hx => ?_
  · obtain ⟨p, hp, rfl⟩ := List.mem_map.mp hx
    exact mem_r16 (h.lo p hp)
  · unfold val
    rw [getL_none.mpr hx]
    exact Int.zero_mul _
theorem getL_mem {l : List (Int × Int)} {k c : Int} (hn : (l.map (·.1)).Nodup) (hp : (k, c) ∈ l) : getL k l = some c := by
  induction l with
  | nil => cases hp
  | cons q r ih =>
    obtain ⟨a, b⟩ := q
    rw [getL]
    rcases List.mem_cons.mp hp with e | hp
    · cases e; rw [if_pos rfl]
    · rw [if_neg (fun (e : a = k) => (List.nodup_cons.mp hn).1 (e ▸ List.mem_map.mpr ⟨(k, c), hp, rfl⟩)), ih (List.nodup_cons.mp hn).2 hp]
theorem step_val {P : Int → Bool} {ways : List (Int × Int)} (h : KeysOk ways) (k : Int) : val (stepW P ways) k = (r16.map fun o => val ways o * hits P o k).sum := by
  unfold stepW
  rw [fold_val k h.keys .nil, sum_keys (fun o => hits P o k) h]
  simp [val, getL]

end PLW0
section P15


local macro_rules | `(tactic| walk_at "eval Dict") => `(tactic| (k_here; k_dflt (first
  | (refine' kdn_int ?q ?F ?N ?b ?a ?l ?e ?n ?_; (case q => rfl); (case F => k_asm); (case N => first | k_asm | exact News.nil); (case b => exact TopRead.nolimit (by k_asm)); (case a => rfl); (case l => rfl); (case e => exact List.cons_ne_nil _ _); (case n => exact Nat.le_of_ble_eq_true rfl))
  | (refine' kdn_eval (knd := intKind _ _) ?F ?N ?b ?a ?l ?e ?n ?_; (case F => k_asm); (case N => first | k_asm | exact News.nil); (case b => exact TopRead.nolimit (by k_asm)); (case a => rfl); (case l => rfl); (case e => exact List.cons_ne_nil _ _); (case n => exact Nat.le_of_ble_eq_true rfl))); intro d' h' o' F' N' l1 lo' hd'; (try k_lt l1)))
theorem for_keysN {prg : Program} {w : World} {A : Around} {E E' : Value → Shared → Prop} {s : Shared} {h₀ : Heap} {env : Env} {m : Str → Option Value} {news : List (Addr × Obj)} {K : Type} [DecidableEq K] {knd : KeyKind prg w K} {x : Str} {px : Pos} {body : List Stmt} {Q : Flow → Shared → Prop} {d : Addr} {o : Obj} {kvs : List (K × Value)} (J : Nat → (Str → Option Value) → List (Addr × Obj) → Prop) (hh : A.handled = none)
    (F : Fr h₀ env.locals s.heap m) (N : News h₀ env.locals s.heap news) (hd : Obj.IsDictOf knd o kvs) (lo : (d == sysModules) = false) (hm : ∀ i m' n', J i m' n' → (d, o) ∈ n')
    (hj : J 0 m news)
    (turn : ∀ I i k v key m₁ news₁ h tk oI, kvs[i]? = some (k, v) → knd.is k key = true → J i m₁ news₁ → Fr h₀ env.locals h m₁ → News h₀ env.locals h ((I, oI) :: news₁) → (∀ p ∈ news₁, p.1 ≠ I) →
      wpAny (model prg w) A (assign (.Name x px) env key) (fun _ s₂ => wpAny (model prg w) A (execs body env) (LPost h₀ env.locals I oI (J (i + 1)) { s with heap := h, toks := tk } Q) (fun _ _ => False) s₂) (fun _ _ => False) { s with heap := h, toks := tk })
    (done : ∀ m₁ news₁ h tk, J kvs.length m₁ news₁ → Fr h₀ env.locals h m₁ → News h₀ env.locals h news₁ → Q .next { s with heap := h, toks := tk }) :
    wpAny (model prg w) A (pyIter (.ref d)) (fun it s₂ => codeAny (model prg w) A (.forLoop (.Name x px) it body [] env) (fun r s' => match r with | .ok f => Q f s' | .error e => E' e s') s₂) E s := by
  obtain ⟨es, ep, hx⟩ := id hd
  have ho : s.heap.get? d = some o := N.get (hm 0 m news hj)
  have hat : s.heap.DictAt knd d kvs ep := ⟨o, es, ho, hx⟩
  refine wpAny_pyIter_dict lo hat ?_
  refine for_new J (Iter.ofName (Walks.dictKeys (knd := knd) hh s.heap.objs.size d (Nat.ne_of_lt (Heap.lt_size ho)) kvs ep) fun _ _ st => let ⟨o, e, _⟩ := st.1; ⟨o, e⟩) F N
    ⟨⟨_, Heap.get?_push_size _ rfl, rfl, rfl⟩, hat.at' fun o e => Heap.get?_push_of_some _ e⟩ (fun b hb hbI => ?_) hj (fun I i v ex m₁ news₁ h tk oI hI hi hP hj' F' N' hn' => ?_) done
  · rcases List.mem_cons.mp hb with h | h
    · exact absurd h hbI
    · rw [List.mem_singleton.mp h]; exact ⟨o, fun i m' n' _ hj' _ N' => N'.get (hm i m' n' hj')⟩
  · obtain ⟨⟨k, v', hk, hkey⟩, rfl⟩ := hP
    exact turn I i k v' v m₁ news₁ h tk oI hk hkey hj' F' N' hn'
/-- rows of ints in a list -/
noncomputable def RowsAt (h : Heap) (l : Addr) (rows : List (List Int)) : Prop :=
  ∃ vs : List Value, h.IsList l vs.toArray ∧ vs.length = rows.length ∧ ∀ (i : Nat) (r : List Int), rows[i]? = some r → ∃ (a : Addr) (ws : List Value), vs[i]? = some (Value.ref a) ∧ h.IsList a ws.toArray ∧ IntsAre ws r
theorem News.more {h₀ h h' : Heap} {L D : Addr} {o : Obj} {m : Str → Option Value} {news : List (Addr × Obj)} (F : Fr h₀ L h m) (N : News h₀ L h' news) (hD : h'.get? D = some o) (hn : h.get? D = none) : News h₀ L h' ((D, o) :: news) := by
  intro p hp
  rcases List.mem_cons.mp hp with rfl | hp
  · obtain ⟨oL, _, _, hL, _⟩ := id F.ns
    refine ⟨hD, fun e => ?_, ?_⟩
    · have e' : D = L := e
      rw [e', hL] at hn; cases hn
    · cases q : h₀.get? D with
      | none => rfl
      | some o' => rw [F.keep _ _ q] at hn; cases hn
  · exact N p hp
theorem Off.ovT {xs ys : List Str} {u m m₀ : Str → Option Value} (hs : ∀ y ∈ ys, y ∈ xs) (h : Off xs m m₀) : Off xs (Mine.ov ys u m) m₀ := fun z hz => by
  unfold Mine.ov
  rw [if_neg fun q => hz (hs z (List.contains_iff_mem.mp q))]
  exact h z hz
theorem newsTl {h₀ h : Heap} {L : Addr} {p : Addr × Obj} {news : List (Addr × Obj)} (N : News h₀ L h (p :: news)) : News h₀ L h news := fun q hq => N q (.tail _ hq)
theorem newsSw {h₀ h : Heap} {L : Addr} {p q : Addr × Obj} {news : List (Addr × Obj)} (N : News h₀ L h (p :: q :: news)) : News h₀ L h (q :: p :: news) := fun r hr => by
  rcases List.mem_cons.mp hr with rfl | hr
  · exact N _ (.tail _ (.head _))
  rcases List.mem_cons.mp hr with rfl | hr
  · exact N _ (.head _)
  · exact N _ (.tail _ (.tail _ hr))
theorem i4_at {q : Nat} (hq : q < 4) : i4[q]? = some q := by
  have : q = 0 ∨ q = 1 ∨ q = 2 ∨ q = 3 := by (first | lia | omega)
  rcases this with rfl | rfl | rfl | rfl <;> rfl
noncomputable def wayP (rows : List (List Int)) (es : List Int) (i : Nat) (k : Int) : Bool := decide (rows.getD k.toNat [] = es.map fun k' => if 4 - (1 + (i : Int) * 1) ≤ k' then 1 else 0)
noncomputable def waysN (rows : List (List Int)) (es : List Int) (n : Nat) : List (Int × Int) := waysL ((List.range n).map (wayP rows es))
theorem waysN_succ (rows : List (List Int)) (es : List Int) (n : Nat) : waysN rows es (n + 1) = stepW (wayP rows es n) (waysN rows es n) := by
  unfold waysN waysL
  rw [List.range_succ, List.map_append, List.foldl_append]; rfl
theorem waysN_ok (rows : List (List Int)) (es : List Int) : ∀ n, KeysOk (waysN rows es n)
  | 0 => ways0_ok
  | n + 1 => by rw [waysN_succ]; exact step_ok (waysN_ok rows es n)
theorem get_intN {prog : Program} {w : World} {A : Around} {E : Value → Shared → Prop} {s : Shared} {h₀ : Heap} {L d : Addr} {news : List (Addr × Obj)} {o : Obj} {kvs : List (Int × Value)} {l : List (Int × Int)} {k c : Int} {t : Tok} {Q : Value → Shared → Prop} (N : News h₀ L s.heap news) (hm : (d, o) ∈ news) (hd : Obj.IsDictOf (intKind prog w) o kvs) (hf : PyProof.V.FlatPairs PyData.int kvs (dOf l)) (hl : getL k l = some c)
    (h : ∀ u, Q (.int c u) { s with toks := s.toks + 1 }) : wpAny (model prog w) A (getItem (.ref d) (.int k t)) Q E s := by
  have hlk : PySem.Spec.lookup (.int k) (dOf l) = some (.int c) := by rw [get_dOf, hl]; rfl
  obtain ⟨v, hv, hfl⟩ := hf.of_lookup PyProof.V.same_int hlk
  obtain ⟨u, rfl⟩ := hfl.int_inv
  obtain ⟨es, ep, hx⟩ := id hd
  have hD : s.heap.DictOf (intKind prog w) d kvs := ⟨o, es, ep, N.get hm, hx⟩
  exact wpAny_getItem_of (intKind_is prog w k t) hD.mapOf hv (h u)
theorem add_at {w : World} {dp un : Nat} {fr : Option (List Env)} {gd : Option (List Code)} {s : Shared} {R : Result → Shared → Prop} {mg mb : Str → Option Value} {h₀ : Heap} {L : Addr} {m : Str → Option Value} {news : List (Addr × Obj)} {dt ds : Addr} {ot os : Obj} {kt ks : List (Int × Value)} {lt ls : List (Int × Int)}
   (F : Fr h₀ L s.heap m) (N : News h₀ L s.heap news) (X : (Mine.hd.heap_39 w.params).In h₀) (T : TopRead Mine.hd.view_39 Mine.hd.lz mg mb h₀) (hroom : dp + 9 < recursionLimit) (hun : un + 40 < cLine)
   (m1 : (dt, ot) ∈ news) (s1 : (dt == sysModules) = false) (d1 : Obj.IsDictOf (intKind prog w) ot kt) (f1 : PyProof.V.FlatPairs PyData.int kt (dOf lt)) (n1 : lt.length ≤ 100)
   (m2 : (ds, os) ∈ news) (s2 : (ds == sysModules) = false) (d2 : Obj.IsDictOf (intKind prog w) os ks) (f2 : PyProof.V.FlatPairs PyData.int ks (dOf ls)) (n2 : ls.length ≤ 100)
   (ret : ∀ h' tk r o k, Fr h₀ L h' m → News h₀ L h' ((r, o) :: news) → (∀ p ∈ news, p.1 ≠ r) → (r == sysModules) = false → Obj.IsDictOf (intKind prog w) o k → PyProof.V.FlatPairs PyData.int k (dOf (addC lt ls)) → R (.ok (.ret (.ref r))) { s with heap := h', toks := tk }) :
   codeAny (model prog w) (Ar dp un fr gd) (.call (.ref 56) ⟨[.ref dt, .ref ds], []⟩) R s := by
  refine add_sum (X.keeps F.keep) (T.keeps F.keep) hroom hun (TabAt.ofNews N m1 s1 d1 f1) (TabAt.ofNews N m2 s2 d2 f2) n1 n2 ?_
  intro h' tk r hk hT hn
  obtain ⟨lo, kr, ⟨o, es, ep, ho, hx⟩, hf⟩ := hT
  exact ret h' tk r o kr (F.keeps hk) (News.more F (N.keeps hk) ho hn) (fun p hp e => by have := (N p hp).1; rw [e, hn] at this; cases this) lo ⟨es, ep, hx⟩ hf
theorem bit_more {o : Int} {q : Nat} (ho : 0 ≤ o ∧ o < 16) (hq : q < 4) : Builtin.bitOr o (1 * 2 ^ (0 + (q : Int) * 1).toNat) = moreF o q := by
  have key : ∀ n : Nat, n < 16 → ∀ q : Nat, q < 4 → Builtin.bitOr (n : Int) (1 * 2 ^ (0 + (q : Int) * 1).toNat) = moreF (n : Int) q := by decide +kernel
  have := key o.toNat (by omega) q hq
  rwa [Int.toNat_of_nonneg ho.1] at this
theorem moreF_in {o : Int} {q : Nat} (ho : 0 ≤ o ∧ o < 16) (hq : q < 4) : 0 ≤ moreF o q ∧ moreF o q < 16 := by
  have := moreF_lt o.toNat (by (first | lia | omega)) q hq
  rwa [Int.toNat_of_nonneg ho.1] at this
theorem ways_sum {w : World} {dp un : Nat} {fr : Option (List Env)} {gd : Option (List Code)} {s : Shared} {R : Result → Shared → Prop} {mg mb : Str → Option Value} {sl el : Addr} {rows : List (List Int)} {xs : List Value} {es : List Int}
   (X : (Mine.hd.heap_39 w.params).In s.heap) (T : TopRead Mine.hd.view_39 Mine.hd.lz mg mb s.heap) (hroom : dp + 12 < recursionLimit) (hun : un + 120 < cLine)
   (hs : RowsAt s.heap sl rows) (h16 : rows.length = 16) (hrow : ∀ r ∈ rows, r.length = 4 ∧ ∀ z ∈ r, 0 ≤ z ∧ z < 4) (he : s.heap.IsList el xs.toArray) (hes : IntsAre xs es) (h4 : es.length = 4) (hb : ∀ z ∈ es, 0 ≤ z ∧ z < 10)
   (ret : ∀ h' tk r, (∀ b o, s.heap.get? b = some o → h'.get? b = some o) → PyProof.Rows.IntTab prog w h' r (dOf (waysN rows es 4)) → s.heap.get? r = none → R (.ok (.ret (.ref r))) { s with heap := h', toks := tk }) :
   codeAny (model prog w) (Ar dp un fr gd) (.call (.ref 326) ⟨[.ref sl, .ref el], []⟩) R s := by
  obtain ⟨sv, hsv, hsvl, hsa⟩ := hs
  refine' enterC (T.nolimit) (X 326 _ (by k_is)) rfl (codeRec_of X (by k_is)) (show dp < _ by (first | lia | omega)) (BindsTo.of_eq rfl) ?ck (by decide) ?_
  case ck => intro n; exact fun y hy => .inl (locs rfl y hy)
  intro L h₁ tk cells F N C
  refine hideD fun fr zQ0 zR0 zP0 => ?_
  obtain ⟨o1, rfl, d1⟩ := CellsAre.one C
  clear C
  repeat' (first | (dsimp only; walk1) | walk1 | refine zP _ ?_ | refine zR0 _ _ ?_ | refine zP0 _ ?_ | refine zC _ ?_ | refine zR _ _ ?_ | refine zB _ ?_ | refine zE _ ?_ | fail "")
  rename Fr _ _ _ _ => F1
  rename News _ _ _ _ => N1
  rename IsRange _ _ _ _ _ _ _ _ => R1
  rename Obj.IsDictOf (intKind _ _) _ _ => hd1
  rename PyProof.V.FlatPairs PyData.int _ _ => hf1
  have hsys := (by assumption : (_ == sysModules) = false)
  refine for_range (n := 4) (fun i m' n' => Off [Str.ofString "ways", Str.ofString "shown", Str.ofString "longer", Str.ofString "ones", Str.ofString "line", Str.ofString "more"] m' _ ∧ ∃ (dw : Addr) (ow oc : Obj) (kvs : List (Int × Value)) (vc : Option Value), n' = [(dw, ow), (L + 1, oc)] ∧ oc.data = .cell vc ∧ @Ne Nat dw (L + 1) ∧ (dw == sysModules) = false ∧ m' (Str.ofString "ways") = some (.ref dw) ∧ Obj.IsDictOf (intKind prog w) ow kvs ∧ PyProof.V.FlatPairs PyData.int kvs (dOf (waysN rows es i))) rfl F1 N1 R1 (small_one (by l_bnd) (by l_bnd) (by l_bnd) (by l_bnd)) (rangeSize_nat _ _) ⟨Off.refl, _, _, _, _, _, rfl, d1, by (first | lia | omega), hsys, rfl, hd1, hf1⟩ ?_ ?_
  · intro I i t m₁ news₁ h tk oI hI hi hJ F2 N2 hn2
    refine hideL fun zQ zP zC zR zB => ?_
    obtain ⟨hoff, dw, ow, oc, kvs, vc, rfl, dc, hne, hsy, hwm, hd2, hf2⟩ := hJ
    rw [Off.ov hoff, ov_pin2 (by decide) hwm] at F2
    dsimp only at F2 N2 hI ⊢
    clear F1 N1
    have hq1 := neN (hn2 _ (.head _))
    have hq2 := neN (hn2 _ (.tail _ (.head _)))
    dsimp only at hq1 hq2
    have hok := waysN_ok rows es i
    have hst := waysN_succ rows es i
    generalize hwl : waysN rows es i = wl at *
    repeat' (first | (dsimp only; walk1) | walk1 | refine zP _ ?_ | refine zR0 _ _ ?_ | refine zP0 _ ?_ | refine zC _ ?_ | refine zR _ _ ?_ | refine zB _ ?_ | refine zE _ ?_ | fail "")
    rename Fr _ _ _ _ => F3
    rename News _ _ _ _ => N3
    rename IntsAre _ (List.map _ es) => hys
    have hsl := (by assumption : (_ == sysModules) = false)
    rename Obj.IsDictOf (intKind _ _) _ [] => hd3
    rename PyProof.V.FlatPairs PyData.int [] _ => hf3
    refine for_keysN (knd := intKind prog w) (kvs := kvs) (fun j m' n' => Off [Str.ofString "longer", Str.ofString "ones", Str.ofString "line", Str.ofString "more"] m' _ ∧ ∃ (dl : Addr) (ol : Obj) (kvl : List (Int × Value)), n' = (dl, ol) :: _ ∧ @Ne Nat dl I ∧ @Ne Nat dl (L + 1) ∧ (dl == sysModules) = false ∧ m' (Str.ofString "longer") = some (.ref dl) ∧ Obj.IsDictOf (intKind prog w) ol kvl ∧ PyProof.V.FlatPairs PyData.int kvl (dOf (((wl.map (·.1)).take j).foldl (lineF (wayP rows es i) wl) []))) rfl F3 N3 hd2 hsy (fun j m' n' hj => by obtain ⟨_, dl, ol, kvl, rfl, _⟩ := hj; k_mem) ⟨Off.refl, _, _, _, rfl, by (first | lia | omega), by (first | lia | omega), hsl, rfl, hd3, hf3⟩ ?_ ?_
    · intro I2 j key v kv m₂ news₂ h2 tk2 oI2 hx hkey hJ F4 N4 hn4
      refine hideL fun zQ zP zC zR zB => ?_
      obtain ⟨hoff2, dl, ol, kvl, rfl, hz1, hz2, hsl2, hlm, hd4, hf4⟩ := hJ
      rw [Off.ov hoff2, ov_pin2 (by decide) hlm] at F4
      dsimp only at F4 N4 ⊢
      clear F3 N3
      obtain ⟨c, tc, hl, rfl⟩ := dOf_at hf2 hx
      obtain ⟨tkey, rfl⟩ := Value.isInt_shape hkey
      have hq3 := neN (hn4 _ (.head _))
      have hq4 := neN (hn4 _ (.tail _ (.head _)))
      have hq5 := neN (hn4 _ (.tail _ (.tail _ (.head _))))
      have hq6 := neN (hn4 _ (.tail _ (.tail _ (.tail _ (.head _)))))
      have hq7 := neN (hn4 _ (.tail _ (.tail _ (.tail _ (.tail _ (.head _))))))
      dsimp only at hq3 hq4 hq5 hq6 hq7
      have hkb := hok.lo _ (List.mem_of_getElem? hl)
      dsimp only at hkb
      have hos : ((wl.map (·.1)).take (j + 1)).foldl (lineF (wayP rows es i) wl) [] = lineF (wayP rows es i) wl (((wl.map (·.1)).take j).foldl (lineF (wayP rows es i) wl) []) key := take_step (l := wl.map (·.1)) (by rw [List.getElem?_map, hl]; rfl) rfl
      have hok3 : KeysOk (((wl.map (·.1)).take j).foldl (lineF (wayP rows es i) wl) []) := line_ok (fun o ho => hok.keys o (List.mem_of_mem_take ho)) .nil
      generalize hll : ((wl.map (·.1)).take j).foldl (lineF (wayP rows es i) wl) [] = ll at *
      have hgl : getL key wl = some c := getL_mem hok.nd (List.mem_of_getElem? hl)
      repeat' (first | (dsimp only; walk1) | walk1 | refine zP _ ?_ | refine zR0 _ _ ?_ | refine zP0 _ ?_ | refine zC _ ?_ | refine zR _ _ ?_ | refine zB _ ?_ | refine zE _ ?_ | fail "")
      rename Fr _ _ _ _ => F5
      rename News _ _ _ _ => N5
      rename IsRange _ _ 0 _ _ _ _ _ => R5
      replace N5 := newsSw N5
      refine for_range (n := 4) (fun q m' n' => Off [Str.ofString "longer", Str.ofString "line", Str.ofString "more"] m' _ ∧ ∃ (dl : Addr) (ol : Obj) (kvl : List (Int × Value)), n' = (dl, ol) :: _ ∧ @Ne Nat dl I2 ∧ @Ne Nat dl I ∧ @Ne Nat dl (L + 1) ∧ (dl == sysModules) = false ∧ m' (Str.ofString "longer") = some (.ref dl) ∧ Obj.IsDictOf (intKind prog w) ol kvl ∧ PyProof.V.FlatPairs PyData.int kvl (dOf ((i4.take q).foldl (innerF (wayP rows es i) wl key) ll))) rfl F5 N5 R5 (small_one (by l_bnd) (by l_bnd) (by l_bnd) (by l_bnd)) (rangeSize_nat _ _) ⟨Off.refl, _, _, _, rfl, hq3, hz1, hz2, hsl2, rfl, hd4, hf4⟩ ?_ ?_
      · intro I3 q t3 m₃ news₃ h3 tk3 oI3 hI3 hq hJ F6 N6 hn6
        refine hideL fun zQ zP zC zR zB => ?_
        obtain ⟨hoff3, dm, om, kvm, rfl, hz3, hz4, hz5, hsl3, hmm, hd5, hf5⟩ := hJ
        rw [Off.ov hoff3, ov_pin2 (by decide) hmm] at F6
        dsimp only at F6 N6 ⊢
        clear F5 N5
        have hr1 := neN (hn6 _ (.head _))
        have hr2 := neN (hn6 _ (.tail _ (.head _)))
        have hr3 := neN (hn6 _ (.tail _ (.tail _ (.head _))))
        have hr4 := neN (hn6 _ (.tail _ (.tail _ (.tail _ (.head _)))))
        have hr5 := neN (hn6 _ (.tail _ (.tail _ (.tail _ (.tail _ (.head _))))))
        have hr6 := neN (hn6 _ (.tail _ (.tail _ (.tail _ (.tail _ (.tail _ (.head _)))))))
        dsimp only at hr1 hr2 hr3 hr4 hr5 hr6
        have hins : (i4.take (q + 1)).foldl (innerF (wayP rows es i) wl key) ll = innerF (wayP rows es i) wl key ((i4.take q).foldl (innerF (wayP rows es i) wl key) ll) q := take_step (i4_at hq) rfl
        have hok4 : KeysOk ((i4.take q).foldl (innerF (wayP rows es i) wl key) ll) := inner_ok hkb (fun l hl => i4_mem l (List.mem_of_mem_take hl)) hok3
        generalize hlm2 : (i4.take q).foldl (innerF (wayP rows es i) wl key) ll = lm at *
        repeat' (first | (dsimp only; walk1) | walk1 | refine zP _ ?_ | refine zR0 _ _ ?_ | refine zP0 _ ?_ | refine zC _ ?_ | refine zR _ _ ?_ | refine zB _ ?_ | refine zE _ ?_ | fail "")
        · rename Fr _ _ _ _ => F7
          rename Builtin.bitOr key (1 * 2 ^ (0 + (q : Int) * 1).toNat) ≠ key => hnek
          rw [bit_more hkb hq] at *
          obtain ⟨hm1, hm2⟩ := moreF_in hkb hq
          generalize hmo : moreF key q = mo at *
          obtain ⟨r, hr⟩ : ∃ r, rows[mo.toNat]? = some r := ⟨rows[mo.toNat], by rw [List.getElem?_eq_getElem]⟩
          have hgr : rows.getD mo.toNat [] = r := by rw [List.getD_eq_getElem?_getD, hr]; rfl
          obtain ⟨ra, rv, hra, hrl, hri⟩ := hsa _ _ hr
          refine sub_listB F7 hsv hm1 (by (first | lia | omega)) hra ?_
          repeat' (first | (dsimp only; walk1) | walk1 | refine zP _ ?_ | refine zR0 _ _ ?_ | refine zP0 _ ?_ | refine zC _ ?_ | refine zR _ _ ?_ | refine zB _ ?_ | refine zE _ ?_ | fail "")
          · rename r = List.map _ es => heq
            rename Fr _ _ _ _ => F8
            rename News _ _ _ _ => N8
            refine get_intN N8 (by k_mem) hd2 hf2 hgl ?_
            intro tg
            repeat' (first | (dsimp only; walk1) | walk1 | refine zP _ ?_ | refine zR0 _ _ ?_ | refine zP0 _ ?_ | refine zC _ ?_ | refine zR _ _ ?_ | refine zB _ ?_ | refine zE _ ?_ | fail "")
            rename Fr _ _ _ _ => F9
            rename News _ _ _ _ => N9
            rename Obj.IsDictOf (intKind _ _) _ (intKeyPairs _) => hd9
            rename PyProof.V.FlatPairs PyData.int (intKeyPairs _) _ => hf9
            refine unstop ?_
            refine' add_at (ls := [(mo, c)]) F9 N9 X T ?k8 ?k9 (.tail _ (.tail _ (.head _))) hsl3 hd5 hf5 ?n1 (.head _) ?s2 hd9 hf9 ?n2 ?_
            case k8 => ((try simp only [depth_under_make, depth_under_kw, depth_in1, depth_deeper, depth_caller]); (try dsimp only [Ar]); (first | lia | omega))
            case k9 => ((try simp only [units_in1, units_deeper, Around.mark_units, units_caller]); (try dsimp only [Ar]); (first | lia | omega))
            case n1 => have := hok4.len; (first | lia | omega)
            case n2 => exact Nat.le_of_ble_eq_true rfl
            case s2 => assumption
            intro h10 tk10 r10 o10 k10 F10 N10 hne10 hs10 hd10 hf10
            clear F9 N9 F8 N8 F7
            have hy1 := neN (hne10 _ (.tail _ (.head _)))
            have hy2 := neN (hne10 _ (.tail _ (.tail _ (.tail _ (.head _)))))
            have hy3 := neN (hne10 _ (.tail _ (.tail _ (.tail _ (.tail _ (.tail _ (.head _)))))))
            have hy4 := neN (hne10 _ (.tail _ (.tail _ (.tail _ (.tail _ (.tail _ (.tail _ (.tail _ (.head _)))))))))
            dsimp only at hy1 hy2 hy3 hy4
            repeat' (first | (dsimp only; walk1) | walk1 | refine zP _ ?_ | refine zR0 _ _ ?_ | refine zP0 _ ?_ | refine zC _ ?_ | refine zR _ _ ?_ | refine zB _ ?_ | refine zE _ ?_ | fail "")
            all_goals (try (first | refine zP _ ?_ | dsimp only [LPost] | fail ""))
            rename Fr _ _ _ _ => F11
            rename News _ _ _ _ => N11
            refine LEnd.intro ((r10, o10) :: _) F11 N11 (.tail _ (.tail _ (.head _))) (fun p hp => ?_) (fun p hp => ?_) ⟨by (repeat' first | with_reducible exact Off.of_ov | with_reducible exact Off.refl | (with_reducible refine Off.set ?_ ?_; (focus decide)) | exact Off.refl | exact Off.of_ov | exact Off.sub (by decide) Off.of_ov | refine Off.set (by decide) ?_), r10, o10, k10, rfl, Ne.symm hy2, Ne.symm hy3, Ne.symm hy4, hs10, rfl, hd10, ?_⟩
            · revert hp; revert p
              refine consC ?_ ?_
              · exact .head _
              · intro p hp
                exact .tail _ (.tail _ (.tail _ (.tail _ hp)))
            · revert hp; revert p
              refine consC ?_ ?_
              · exact Ne.symm hy1
              · intro p hp
                exact hn6 p (.tail _ hp)
            · rw [hins]
              unfold innerF
              rw [if_pos ⟨by rw [hmo]; exact hnek, by unfold wayP; rw [hmo, hgr]; exact decide_eq_true heq⟩, hmo]
              have : val wl key = c := by unfold val; rw [hgl]; rfl
              rw [this]; exact hf10
          · rename ¬ r = List.map _ es => heq
            all_goals (try (first | refine zP _ ?_ | dsimp only [LPost] | fail ""))
            rename Fr _ _ _ _ => F11
            rename News _ _ _ _ => N11
            refine LEnd.intro _ F11 N11 (.head _) (fun p hp => .tail _ hp) hn6 ⟨by (repeat' first | with_reducible exact Off.of_ov | with_reducible exact Off.refl | (with_reducible refine Off.set ?_ ?_; (focus decide)) | exact Off.refl | exact Off.of_ov | exact Off.sub (by decide) Off.of_ov | refine Off.set (by decide) ?_), dm, om, kvm, rfl, hz3, hz4, hz5, hsl3, rfl, hd5, ?_⟩
            rw [hins]
            unfold innerF
            rw [if_neg (fun hc => heq (by have := hc.2; unfold wayP at this; rw [hmo, hgr] at this; exact of_decide_eq_true this))]
            exact hf5
        · try (first | refine zP _ ?_ | dsimp only [LPost] | fail "")
          rename Builtin.bitOr key (1 * 2 ^ (0 + (q : Int) * 1).toNat) = key => hnek
          rw [bit_more hkb hq] at hnek
          rename Fr _ _ _ _ => F11
          rename News _ _ _ _ => N11
          refine LEnd.intro _ F11 N11 (.head _) (fun p hp => .tail _ hp) hn6 ⟨by (repeat' first | with_reducible exact Off.of_ov | with_reducible exact Off.refl | (with_reducible refine Off.set ?_ ?_; (focus decide)) | exact Off.refl | exact Off.of_ov | exact Off.sub (by decide) Off.of_ov | refine Off.set (by decide) ?_), dm, om, kvm, rfl, hz3, hz4, hz5, hsl3, rfl, hd5, ?_⟩
          rw [hins]
          unfold innerF
          rw [if_neg (fun hc => hc.1 hnek)]
          exact hf5
      · intro m₃ news₃ h3 tk3 hJ F6 N6
        obtain ⟨hoff3, dm, om, kvm, rfl, hz3, hz4, hz5, hsl3, hmm, hd5, hf5⟩ := hJ
        rw [Off.ov hoff3, ov_pin2 (by decide) hmm] at F6
        dsimp only at F6 N6 ⊢
        clear F5 N5
        repeat' (first | (dsimp only; walk1) | walk1 | refine zP _ ?_ | refine zR0 _ _ ?_ | refine zP0 _ ?_ | refine zC _ ?_ | refine zR _ _ ?_ | refine zB _ ?_ | refine zE _ ?_ | fail "")
        all_goals (try (first | refine zP _ ?_ | dsimp only [LPost] | fail ""))
        refine LEnd.intro ((dm, om) :: _) F6 N6 (.tail _ (.head _)) (fun p hp => ?_) (fun p hp => ?_) ⟨?_, dm, om, kvm, rfl, hz4, hz5, hsl3, rfl, hd5, ?_⟩
        · revert hp; revert p
          refine consC ?_ ?_
          · exact .head _
          · intro p hp
            exact .tail _ (.tail _ hp)
        · revert hp; revert p
          refine consC ?_ ?_
          · exact hz3
          · intro p hp
            exact hn4 p (.tail _ hp)
        · exact Off.set (by decide) (Off.ovT (by decide) (Off.set (by decide) (Off.set (by decide) Off.of_ov)))
        · rw [hos]; exact hf5
    · intro m₂ news₂ h2 tk2 hJ F4 N4
      obtain ⟨hoff2, dl, ol, kvl, rfl, hz1, hz2, hsl2, hlm, hd4, hf4⟩ := hJ
      rw [Off.ov hoff2, ov_pin2 (by decide) hlm] at F4
      dsimp only at F4 N4 ⊢
      clear F3 N3
      repeat' (first | (dsimp only; walk1) | walk1 | refine zP _ ?_ | refine zR0 _ _ ?_ | refine zP0 _ ?_ | refine zC _ ?_ | refine zR _ _ ?_ | refine zB _ ?_ | refine zE _ ?_ | fail "")
      all_goals (try (first | refine zP _ ?_ | dsimp only [LPost] | fail ""))
      rename Fr _ _ _ _ => F11
      rename News _ _ _ _ => N11
      have e1 : (wl.map (·.1)).take kvs.length = wl.map (·.1) := by rw [← hf2.length, dOf, List.length_map, ← List.length_map (f := (·.1)), List.take_length]
      rw [e1] at hf4
      refine LEnd.intro [(dl, ol), (L + 1, _)] F11 N11 (.tail _ (.tail _ (.head _))) (fun p hp => ?_) (fun p hp => ?_) ⟨?_, dl, ol, _, kvl, _, rfl, by assumption, hz2, hsl2, rfl, hd4, ?_⟩
      · revert hp; revert p
        refine consC ?_ ?_
        · exact .head _
        · intro p hp
          rw [List.mem_singleton.mp hp]; exact .tail _ (.tail _ (.tail _ (.tail _ (.head _))))
      · revert hp; revert p
        refine consC ?_ ?_
        · exact hz1
        · intro p hp
          rw [List.mem_singleton.mp hp]; exact hq2
      · refine Off.set (by decide) (Off.set (by decide) (Off.ovT (by decide) ?_))
        repeat' first | exact Off.of_ov | refine Off.set (by decide) ?_
      · rw [hst]; exact hf4
  · intro m₁ news₁ h tk hJ F2 N2
    obtain ⟨hoff, dw, ow, oc, kvs, vc, rfl, dc, hne, hsy, hwm, hd2, hf2⟩ := hJ
    rw [Off.ov hoff, ov_pin2 (by decide) hwm] at F2
    dsimp only at F2 N2 ⊢
    clear F1 N1
    repeat' (first | (dsimp only; walk1) | walk1 | refine zP _ ?_ | refine zR0 _ _ ?_ | refine zP0 _ ?_ | refine zC _ ?_ | refine zR _ _ ?_ | refine zB _ ?_ | refine zE _ ?_ | fail "")
    try dsimp only
    exact ret _ _ dw F2.keep (TabAt.ofNews N2 (.head _) hsy hd2 hf2) (N2 _ (.head _)).2.2

end P15
section PLX
noncomputable def ind (b : Bool) : Int := if b = true then 1 else 0
noncomputable def chb (k o : Int) : Bool := i4.any fun l => decide (moreF o l = k ∧ k ≠ o)
noncomputable def chs (k : Int) : List Int := r16.filter (chb k)
theorem stp_tab : ∀ k ∈ r16, ∀ o ∈ r16, (i4.map fun l => if moreF o l = k ∧ k ≠ o then (1 : Int) else 0).sum = ind (chb k o) := by decide +kernel
theorem hits_ind (P : Int → Bool) {o k : Int} (ho : o ∈ r16) (hk : k ∈ r16) : hits P o k = ind (chb k o) * ind (P k) := by
  rw [← stp_tab k hk o ho]
  have e : ∀ l, hit P o l k = (if moreF o l = k ∧ k ≠ o then (1 : Int) else 0) * ind (P k) := fun l => by
    unfold hit ind
    by_cases h1 : moreF o l = k ∧ k ≠ o
    · by_cases h2 : P k = true
      · rw [if_pos ⟨h1.1, h1.2, h2⟩, if_pos h1, if_pos h2]; rfl
      · rw [if_neg (fun q => h2 q.2.2), if_neg h2, Int.mul_zero]
    · rw [if_neg (fun q => h1 ⟨q.1, q.2.1⟩), if_neg h1, Int.zero_mul]
  unfold hits
  simp only [e, i4, List.map_cons, List.map_nil, List.sum_cons, List.sum_nil, Int.add_mul, Int.zero_mul, Int.add_zero, Int.add_assoc]
theorem sum_filter (v : Int → Int) (p : Int → Bool) (c : Int) : ∀ l : List Int, (l.map fun o => v o * (ind (p o) * c)).sum = ((l.filter p).map v).sum * c
  | [] => (Int.zero_mul c).symm
  | x :: r => by
    rw [List.map_cons, List.sum_cons, sum_filter v p c r, List.filter_cons]
    cases h : p x
    · simp [ind]
    · simp [ind, Int.add_mul]
/-- the ways to a row of ones, the last step's rows first -/
noncomputable def wayK : List (Int → Bool) → Int → Int
  | [], k => if k = 0 then 1 else 0
  | P :: Ps, k => ((chs k).map (wayK Ps)).sum * ind (P k)
theorem chs_mem {k o : Int} (h : o ∈ chs k) : o ∈ r16 := (List.mem_filter.mp h).1
theorem waysL_snoc (Ps : List (Int → Bool)) (P : Int → Bool) : waysL (Ps ++ [P]) = stepW P (waysL Ps) := by
  unfold waysL; rw [List.foldl_append]; rfl
theorem waysL_ok : ∀ Ps : List (Int → Bool), KeysOk (waysL Ps.reverse)
  | [] => ways0_ok
  | P :: Ps => by rw [List.reverse_cons, waysL_snoc]; exact step_ok (waysL_ok Ps)
theorem wayK_val : ∀ (Ps : List (Int → Bool)) (k : Int), k ∈ r16 → val (waysL Ps.reverse) k = wayK Ps k
  | [], k, _ => by
    show val [(0, 1)] k = _
    unfold val wayK
    rw [getL]
    by_cases h : k = 0
    · subst h; rfl
    · rw [if_neg (fun q => h q.symm), if_neg h]; rfl
  | P :: Ps, k, hk => by
    rw [List.reverse_cons, waysL_snoc, step_val (waysL_ok Ps)]
    have e : (r16.map fun o => val (waysL Ps.reverse) o * hits P o k) = r16.map fun o => wayK Ps o * (ind (chb k o) * ind (P k)) :=
      List.map_congr_left fun o ho => by rw [hits_ind P ho hk, wayK_val Ps o ho]
    rw [e, sum_filter]; rfl
/-- the keys of a step -/
noncomputable def lev : Nat → List Int
  | 0 => [0]
  | 1 => [1, 2, 4, 8]
  | 2 => [3, 5, 6, 9, 10, 12]
  | 3 => [7, 11, 13, 14]
  | _ => [15]
theorem lev_more : ∀ n, n < 4 → ∀ o ∈ lev n, ∀ l ∈ i4, moreF o l ≠ o → moreF o l ∈ lev (n + 1) := by decide +kernel
theorem lev_r16 : ∀ n, n < 4 → ∀ o ∈ lev n, o ∈ r16 := by decide
theorem inner_lev {P : Int → Bool} {ways : List (Int × Int)} {n : Nat} (hn : n < 4) {o : Int} (ho : o ∈ lev n) (hb : 0 ≤ o ∧ o < 16) : ∀ {ls : List Nat} {acc : List (Int × Int)}, (∀ l ∈ ls, l ∈ i4) → KeysOk acc → (∀ x ∈ acc.map (·.1), x ∈ lev (n + 1)) → ∀ x ∈ (ls.foldl (innerF P ways o) acc).map (·.1), x ∈ lev (n + 1)
  | [], _, _, _, h => h
  | l :: ls, acc, hl, hk, h => by
    refine inner_lev hn ho hb (ls := ls) (fun x hx => hl x (.tail _ hx)) (innerF_ok hb (i4_mem l (hl l (.head _))) hk) fun x hx => ?_
    unfold innerF at hx
    split at hx
    · rename_i c
      unfold addC at hx
      rw [hk.copy, List.foldl_cons, List.foldl_nil] at hx
      rcases addL_keys hx with rfl | hx
      · exact lev_more n hn o ho l (hl l (.head _)) c.1
      · exact h x hx
    · exact h x hx
theorem line_lev {P : Int → Bool} {ways : List (Int × Int)} {n : Nat} (hn : n < 4) : ∀ {os : List Int} {acc : List (Int × Int)}, (∀ o ∈ os, o ∈ lev n ∧ 0 ≤ o ∧ o < 16) → KeysOk acc → (∀ x ∈ acc.map (·.1), x ∈ lev (n + 1)) → ∀ x ∈ (os.foldl (lineF P ways) acc).map (·.1), x ∈ lev (n + 1)
  | [], _, _, _, h => h
  | o :: os, acc, ho, hk, h =>
    line_lev hn (os := os) (fun x hx => ho x (.tail _ hx)) (inner_ok (ho o (.head _)).2 i4_mem hk) (inner_lev hn (ho o (.head _)).1 (ho o (.head _)).2 (fun _ q => q) hk h)
theorem ways_lev : ∀ (Ps : List (Int → Bool)), Ps.length ≤ 4 → ∀ x ∈ (waysL Ps.reverse).map (·.1), x ∈ lev Ps.length
  | [], _ => fun x hx => hx
  | P :: Ps, h => by
    rw [List.reverse_cons, waysL_snoc]
    have hk := waysL_ok Ps
    have h' : Ps.length < 4 := h
    exact line_lev h' (fun o ho => ⟨ways_lev Ps (Nat.le_of_lt h') o ho, hk.keys o ho⟩) .nil fun x hx => nomatch hx
/-- one key alone -/
theorem one_key {l : List (Int × Int)} {a : Int} (hk : KeysOk l) (ha : ∀ x ∈ l.map (·.1), x = a) (hv : val l a ≠ 0) : l = [(a, val l a)] := by
  match l, hk, ha, hv with
  | [], _, _, hv => exact absurd rfl hv
  | [(b, c)], _, ha, _ =>
    have hb : b = a := ha b (.head _)
    subst hb
    unfold val
    rw [getL, if_pos rfl]; rfl
  | (b, c) :: (b', c') :: r, hk, ha, _ =>
    have h1 : b = a := ha b (.head _)
    have h2 : b' = a := ha b' (.tail _ (.head _))
    have := (List.nodup_cons.mp hk.nd).1
    exact absurd (by rw [h1, ← h2]; exact .head _) this
theorem filter_sum (f : List Int → Bool) : ∀ l : List (List Int), (((l.filter f).length : Nat) : Int) = (l.map fun q => ind (f q)).sum
  | [] => rfl
  | x :: r => by
    rw [List.map_cons, List.sum_cons, ← filter_sum f r, List.filter_cons]
    cases h : f x
    · simp [ind]
    · simp [ind]; (first | lia | omega)
theorem ind_and (a b c : Bool) : ind (a && b && c) = ind a * ind b * ind c := by
  cases a <;> cases b <;> cases c <;> rfl
noncomputable def trip : List (Int × Int × Int) := [(8, 12, 14), (4, 12, 14), (8, 10, 14), (4, 6, 14), (2, 10, 14), (2, 6, 14), (8, 12, 13), (4, 12, 13), (8, 10, 11), (4, 6, 7), (2, 10, 11), (2, 6, 7), (8, 9, 13), (4, 5, 13), (8, 9, 11), (4, 5, 7), (2, 3, 11), (2, 3, 7), (1, 9, 13), (1, 5, 13), (1, 9, 11), (1, 5, 7), (1, 3, 11), (1, 3, 7)]
theorem perms_trip : (perms.map fun q => (((maskQ 3 q : Nat) : Int), ((maskQ 2 q : Nat) : Int), ((maskQ 1 q : Nat) : Int))) = trip := by decide +kernel
noncomputable def chT : List (List Int) := [[0], [0], [1, 2], [0], [1, 4], [2, 4], [3, 5, 6], [0], [1, 8], [2, 8], [3, 9, 10], [4, 8], [5, 9, 12], [6, 10, 12], [7, 11, 13, 14]]
theorem chs_T : (r16.map chs) = [] :: chT := by decide +kernel
theorem chs_at {k : Nat} {l : List Int} (h : (([] : List Int) :: chT)[k]? = some l) (hk : r16[k]? = some (k : Int)) : chs k = l := by
  rw [← chs_T, List.getElem?_map, hk] at h
  injection h
theorem wayK_nil : wayK [] 0 = 1 := rfl
theorem wayK_cons (P : Int → Bool) (Ps : List (Int → Bool)) {k : Nat} {l : List Int} (h : (([] : List Int) :: chT)[k]? = some l) (hk : r16[k]? = some (k : Int)) : wayK (P :: Ps) k = (l.map (wayK Ps)).sum * ind (P k) := by
  rw [wayK, chs_at h hk]
theorem ways_all (S0 S1 S2 S3 : Int → Bool) (h : S0 15 = true) : wayK [S0, S1, S2, S3] 15 = (trip.map fun t => ind (S3 t.1) * ind (S2 t.2.1) * ind (S1 t.2.2)).sum := by
  have x1 : wayK [S3] 1 = ind (S3 1) := (wayK_cons S3 [] (k := 1) (l := [0]) rfl rfl).trans (Int.one_mul _)
  have x2 : wayK [S3] 2 = ind (S3 2) := (wayK_cons S3 [] (k := 2) (l := [0]) rfl rfl).trans (Int.one_mul _)
  have x4 : wayK [S3] 4 = ind (S3 4) := (wayK_cons S3 [] (k := 4) (l := [0]) rfl rfl).trans (Int.one_mul _)
  have x8 : wayK [S3] 8 = ind (S3 8) := (wayK_cons S3 [] (k := 8) (l := [0]) rfl rfl).trans (Int.one_mul _)
  have x3 : wayK [S2, S3] 3 = ind (S3 1) * ind (S2 3) + ind (S3 2) * ind (S2 3) := by
    rw [← Int.add_mul, ← x1, ← x2, ← Int.add_zero (wayK [S3] 2)]
    exact wayK_cons S2 [S3] (k := 3) (l := [1, 2]) rfl rfl
  have x5 : wayK [S2, S3] 5 = ind (S3 1) * ind (S2 5) + ind (S3 4) * ind (S2 5) := by
    rw [← Int.add_mul, ← x1, ← x4, ← Int.add_zero (wayK [S3] 4)]
    exact wayK_cons S2 [S3] (k := 5) (l := [1, 4]) rfl rfl
  have x6 : wayK [S2, S3] 6 = ind (S3 2) * ind (S2 6) + ind (S3 4) * ind (S2 6) := by
    rw [← Int.add_mul, ← x2, ← x4, ← Int.add_zero (wayK [S3] 4)]
    exact wayK_cons S2 [S3] (k := 6) (l := [2, 4]) rfl rfl
  have x9 : wayK [S2, S3] 9 = ind (S3 1) * ind (S2 9) + ind (S3 8) * ind (S2 9) := by
    rw [← Int.add_mul, ← x1, ← x8, ← Int.add_zero (wayK [S3] 8)]
    exact wayK_cons S2 [S3] (k := 9) (l := [1, 8]) rfl rfl
  have x10 : wayK [S2, S3] 10 = ind (S3 2) * ind (S2 10) + ind (S3 8) * ind (S2 10) := by
    rw [← Int.add_mul, ← x2, ← x8, ← Int.add_zero (wayK [S3] 8)]
    exact wayK_cons S2 [S3] (k := 10) (l := [2, 8]) rfl rfl
  have x12 : wayK [S2, S3] 12 = ind (S3 4) * ind (S2 12) + ind (S3 8) * ind (S2 12) := by
    rw [← Int.add_mul, ← x4, ← x8, ← Int.add_zero (wayK [S3] 8)]
    exact wayK_cons S2 [S3] (k := 12) (l := [4, 8]) rfl rfl
  have x7 : wayK [S1, S2, S3] 7 = (wayK [S2, S3] 3 + (wayK [S2, S3] 5 + (wayK [S2, S3] 6 + 0))) * ind (S1 7) := wayK_cons S1 [S2, S3] (k := 7) (l := [3, 5, 6]) rfl rfl
  have x11 : wayK [S1, S2, S3] 11 = (wayK [S2, S3] 3 + (wayK [S2, S3] 9 + (wayK [S2, S3] 10 + 0))) * ind (S1 11) := wayK_cons S1 [S2, S3] (k := 11) (l := [3, 9, 10]) rfl rfl
  have x13 : wayK [S1, S2, S3] 13 = (wayK [S2, S3] 5 + (wayK [S2, S3] 9 + (wayK [S2, S3] 12 + 0))) * ind (S1 13) := wayK_cons S1 [S2, S3] (k := 13) (l := [5, 9, 12]) rfl rfl
  have x14 : wayK [S1, S2, S3] 14 = (wayK [S2, S3] 6 + (wayK [S2, S3] 10 + (wayK [S2, S3] 12 + 0))) * ind (S1 14) := wayK_cons S1 [S2, S3] (k := 14) (l := [6, 10, 12]) rfl rfl
  have x15 : wayK [S0, S1, S2, S3] 15 = (wayK [S1, S2, S3] 7 + (wayK [S1, S2, S3] 11 + (wayK [S1, S2, S3] 13 + (wayK [S1, S2, S3] 14 + 0)))) * ind (S0 15) := wayK_cons S0 [S1, S2, S3] (k := 15) (l := [7, 11, 13, 14]) rfl rfl
  have h0 : ind (S0 15) = 1 := by rw [h]; rfl
  rw [x15, h0, Int.mul_one, x7, x11, x13, x14, x3, x5, x6, x9, x10, x12]
  simp only [Int.add_zero, Int.add_mul, trip, List.map_cons, List.map_nil, List.sum_cons, List.sum_nil]
  (first | lia | omega)
noncomputable def cntE (wr : List (Int × Int)) (pl : Int → Int) (ms : List Int) (l : List (List Int)) : Nat := (l.filter fun o => decide (netI wr (o.map pl) = ms)).length
theorem maskQ_lt : ∀ q ∈ perms, ∀ t ∈ ([1, 2, 3] : List Int), maskQ t q < 16 := by decide +kernel
theorem ge_zero : ∀ q ∈ perms, q.map (ge 0) = bitsF 15 := by decide +kernel
theorem wayP_shown {wr : List (Int × Int)} (ends : List Int) {i k : Nat} (hk : k < 16) {t : Int} (ht : 4 - (1 + (i : Int) * 1) = t) : wayP ((List.range 16).map (rowS wr)) ends i k = shown wr ends t k := by
  subst ht
  unfold wayP shown
  rw [Int.toNat_natCast, List.getD_eq_getElem?_getD, List.getElem?_map, List.getElem?_range hk]
  rfl
theorem ways_law {wr : List (Int × Int)} (hw : WiresOk wr) {lt : Nat → Nat → Bool} (T : Tot lt) {pl : Int → Int} {p : List Int} (hp : p ∈ perms) (hpl : ∀ x, 0 ≤ x ∧ x < 4 → pl x = p.getD x.toNat 0) {ends : List Int} (hends : ends = (wr.foldl (sortStep 0 lt) i4).map (rank lt)) :
    waysN ((List.range 16).map (rowS wr)) ends 4 = [(15, ((cntE wr pl ends perms : Nat) : Int))] ∧ ends.length = 4 ∧ ∀ z ∈ ends, 0 ≤ z ∧ z < 4 := by
  have hq0 := rank_perm T
  have hnet : netI wr (i4.map (rank lt)) = ends := by rw [hends]; exact (ends_net hw T).symm
  have he : ends.length = 4 ∧ ∀ z ∈ ends, 0 ≤ z ∧ z < 4 := by
    rw [← hnet]
    exact net_mem hw (perms_mem _ hq0).1 (perms_mem _ hq0).2
  refine ⟨?_, he⟩
  have h15 : wayP ((List.range 16).map (rowS wr)) ends 3 15 = true := by
    rw [show (15 : Int) = ((15 : Nat) : Int) from rfl, wayP_shown (t := 0) ends (by decide) rfl]
    refine decide_eq_true ?_
    rw [rowS_net hw, ← ge_zero _ hq0, net_ge hw 0 (perms_mem _ hq0).1, hnet]
  have hcnt : ((cntE wr pl ends perms : Nat) : Int) = (perms.map fun q => ind (wayP ((List.range 16).map (rowS wr)) ends 0 (maskQ 3 q : Nat)) * ind (wayP ((List.range 16).map (rowS wr)) ends 1 (maskQ 2 q : Nat)) * ind (wayP ((List.range 16).map (rowS wr)) ends 2 (maskQ 1 q : Nat))).sum := by
    unfold cntE
    rw [List.filter_congr (q := fun o => decide (netI wr (o.map fun j => p.getD j.toNat 0) = ends)) (fun o ho => by
      rw [List.map_congr_left (g := fun j => p.getD j.toNat 0) fun j hj => hpl j ((perms_mem o ho).2 j hj)])]
    rw [perms_places p hp fun q => decide (netI wr q = ends), filter_sum]
    congr 1
    refine List.map_congr_left fun q hq => ?_
    rw [net_shown hw he hq, ind_and, wayP_shown (t := 3) ends (maskQ_lt q hq 3 (by decide)) rfl, wayP_shown (t := 2) ends (maskQ_lt q hq 2 (by decide)) rfl, wayP_shown (t := 1) ends (maskQ_lt q hq 1 (by decide)) rfl]
  have hval : val (waysN ((List.range 16).map (rowS wr)) ends 4) 15 = ((cntE wr pl ends perms : Nat) : Int) := by
    rw [hcnt, show waysN ((List.range 16).map (rowS wr)) ends 4 = waysL ([wayP ((List.range 16).map (rowS wr)) ends 3, wayP ((List.range 16).map (rowS wr)) ends 2, wayP ((List.range 16).map (rowS wr)) ends 1, wayP ((List.range 16).map (rowS wr)) ends 0].reverse) from rfl, wayK_val _ 15 (by decide), ways_all _ _ _ _ h15, ← perms_trip, List.map_map]
    rfl
  have hpos : 0 < cntE wr pl ends perms := by
    unfold cntE
    rw [List.filter_congr (q := fun o => decide (netI wr (o.map fun j => p.getD j.toNat 0) = ends)) (fun o ho => by
      rw [List.map_congr_left (g := fun j => p.getD j.toNat 0) fun j hj => hpl j ((perms_mem o ho).2 j hj)])]
    rw [perms_places p hp fun q => decide (netI wr q = ends)]
    exact List.length_pos_of_mem (List.mem_filter.mpr ⟨hq0, decide_eq_true hnet⟩)
  rw [← hval]
  refine one_key (waysN_ok _ _ 4) (fun x hx => ?_) (by rw [hval]; (first | lia | omega))
  have := ways_lev [wayP ((List.range 16).map (rowS wr)) ends 3, wayP ((List.range 16).map (rowS wr)) ends 2, wayP ((List.range 16).map (rowS wr)) ends 1, wayP ((List.range 16).map (rowS wr)) ends 0] (Nat.le_refl 4) x hx
  exact List.mem_singleton.mp this

end PLX


noncomputable def lawOb : {o : Obj // ∀ w : World, (Mine.hd.heap_39 w.params).lookup 331 = some o} := ⟨_, fun w => by k_is⟩
noncomputable def fnBody (o : Obj) : List Stmt := match o.data with | .func fd => (match fd.body with | .stmts b => b | _ => []) | _ => []
noncomputable def fnScope (o : Obj) : Scope := match o.data with | .func fd => fd.scope | _ => { kind := .module, names := [], isGenerator := false, isCoroutine := false }
noncomputable def lawBody : List Stmt := fnBody lawOb.1
noncomputable def lawScope : {c : Scope // fnScope lawOb.1 = c} := ⟨⟨_, _, _, _, _⟩, rfl⟩
noncomputable abbrev lawEnv (L : Addr) : Env := envOfC (Str.ofString "law") lawScope.1 L 331 (Value.ref 330)
noncomputable def st0 : {x : Stmt // lawBody[0]? = some x} := ⟨_, rfl⟩
noncomputable def st1 : {x : Stmt // lawBody[1]? = some x} := ⟨_, rfl⟩
noncomputable def st2 : {x : Stmt // lawBody[2]? = some x} := ⟨_, rfl⟩
noncomputable def st3 : {x : Stmt // lawBody[3]? = some x} := ⟨_, rfl⟩
noncomputable def st4 : {x : Stmt // lawBody[4]? = some x} := ⟨_, rfl⟩
noncomputable def st5 : {x : Stmt // lawBody[5]? = some x} := ⟨_, rfl⟩
noncomputable def st6 : {x : Stmt // lawBody[6]? = some x} := ⟨_, rfl⟩
noncomputable def st7 : {x : Stmt // lawBody[7]? = some x} := ⟨_, rfl⟩
noncomputable def st8 : {x : Stmt // lawBody[8]? = some x} := ⟨_, rfl⟩
noncomputable def st9 : {x : Stmt // lawBody[9]? = some x} := ⟨_, rfl⟩
noncomputable def st10 : {x : Stmt // lawBody[10]? = some x} := ⟨_, rfl⟩
noncomputable def st11 : {x : Stmt // lawBody[11]? = some x} := ⟨_, rfl⟩
noncomputable def st12 : {x : Stmt // lawBody[12]? = some x} := ⟨_, rfl⟩
noncomputable def st13 : {x : Stmt // lawBody[13]? = some x} := ⟨_, rfl⟩
noncomputable def st14 : {x : Stmt // lawBody[14]? = some x} := ⟨_, rfl⟩
noncomputable def st15 : {x : Stmt // lawBody[15]? = some x} := ⟨_, rfl⟩
noncomputable def st16 : {x : Stmt // lawBody[16]? = some x} := ⟨_, rfl⟩
noncomputable def st17 : {x : Stmt // lawBody[17]? = some x} := ⟨_, rfl⟩
noncomputable def st18 : {x : Stmt // lawBody[18]? = some x} := ⟨_, rfl⟩
noncomputable def st19 : {x : Stmt // lawBody[19]? = some x} := ⟨_, rfl⟩
noncomputable def st20 : {x : Stmt // lawBody[20]? = some x} := ⟨_, rfl⟩
noncomputable def st21 : {x : Stmt // lawBody[21]? = some x} := ⟨_, rfl⟩
noncomputable def st22 : {x : Stmt // lawBody[22]? = some x} := ⟨_, rfl⟩
noncomputable def st23 : {x : Stmt // lawBody[23]? = some x} := ⟨_, rfl⟩
noncomputable def st24 : {x : Stmt // lawBody[24]? = some x} := ⟨_, rfl⟩
theorem bd0 : lawBody.drop 0 = st0.1 :: lawBody.drop 1 := rfl
theorem bd1 : lawBody.drop 1 = st1.1 :: lawBody.drop 2 := rfl
theorem bd2 : lawBody.drop 2 = st2.1 :: lawBody.drop 3 := rfl
theorem bd3 : lawBody.drop 3 = st3.1 :: lawBody.drop 4 := rfl
theorem bd4 : lawBody.drop 4 = st4.1 :: lawBody.drop 5 := rfl
theorem bd5 : lawBody.drop 5 = st5.1 :: lawBody.drop 6 := rfl
theorem bd6 : lawBody.drop 6 = st6.1 :: lawBody.drop 7 := rfl
theorem bd7 : lawBody.drop 7 = st7.1 :: lawBody.drop 8 := rfl
theorem bd8 : lawBody.drop 8 = st8.1 :: lawBody.drop 9 := rfl
theorem bd9 : lawBody.drop 9 = st9.1 :: lawBody.drop 10 := rfl
theorem bd10 : lawBody.drop 10 = st10.1 :: lawBody.drop 11 := rfl
theorem bd11 : lawBody.drop 11 = st11.1 :: lawBody.drop 12 := rfl
theorem bd12 : lawBody.drop 12 = st12.1 :: lawBody.drop 13 := rfl
theorem bd13 : lawBody.drop 13 = st13.1 :: lawBody.drop 14 := rfl
theorem bd14 : lawBody.drop 14 = st14.1 :: lawBody.drop 15 := rfl
theorem bd15 : lawBody.drop 15 = st15.1 :: lawBody.drop 16 := rfl
theorem bd16 : lawBody.drop 16 = st16.1 :: lawBody.drop 17 := rfl
theorem bd17 : lawBody.drop 17 = st17.1 :: lawBody.drop 18 := rfl
theorem bd18 : lawBody.drop 18 = st18.1 :: lawBody.drop 19 := rfl
theorem bd19 : lawBody.drop 19 = st19.1 :: lawBody.drop 20 := rfl
theorem bd20 : lawBody.drop 20 = st20.1 :: lawBody.drop 21 := rfl
theorem bd21 : lawBody.drop 21 = st21.1 :: lawBody.drop 22 := rfl
theorem bd22 : lawBody.drop 22 = st22.1 :: lawBody.drop 23 := rfl
theorem bd23 : lawBody.drop 23 = st23.1 :: lawBody.drop 24 := rfl
theorem bd24 : lawBody.drop 24 = st24.1 :: lawBody.drop 25 := rfl

theorem allLt_ne {d : Addr} : ∀ {l : List (Addr × Obj)}, AllLt d l → ∀ p ∈ l, p.1 ≠ d
  | [], _, _, hp => (nomatch hp)
  | _ :: _, h, _, hp => by
    rcases List.mem_cons.mp hp with rfl | hp
    · exact Nat.ne_of_lt h.1
    · exact allLt_ne h.2 _ hp
theorem pin {x : Str} {m : Str → Option Value} {v : Value} (h : m x = some v) : m = fun y => if y = x then some v else m y := by
  funext y
  by_cases e : y = x
  · subst e; rw [if_pos rfl]; exact h
  · rw [if_neg e]
local macro_rules | `(tactic| k_all) => `(tactic| first | with_reducible assumption | exact allLt_ne (by with_reducible assumption))
theorem seg1 {w : World} {dp un : Nat} {fr : Option (List Env)} {gd : Option (List Code)} {s : Shared} {Q : Flow → Shared → Prop} {mg mb : Str → Option Value} {h₀ : Heap} {L a : Addr} {m : Str → Option Value} {nz : List (Addr × Obj)} {vals : List Value} {ns : List Int}
   (X : (Mine.hd.heap_39 w.params).In h₀) (T : TopRead Mine.hd.view_39 Mine.hd.lz mg mb h₀) (hroom : dp + 12 < recursionLimit) (hun : un + 120 < cLine)
   (F : Fr h₀ L s.heap m) (N : News h₀ L s.heap nz) (hm : m (Str.ofString "script") = some (.ref a)) (hl : h₀.IsList a vals.toArray) (hv : IntsAre vals ns) (h63 : ns.length ≤ 63)
   (ret : ∀ h' tk m' (cl : Addr) vs c cs d td th, (∀ p ∈ nz, @LT.lt Nat _ p.1 cl) → Fr h₀ L h' m' → News h₀ L h' ((cl, listOf vs.toArray c) :: nz) → IntsAre vs cs → cs.length = 10 → m' (Str.ofString "cells") = some (.ref cl) → m' (Str.ofString "drawn") = some (.int d td) → m' (Str.ofString "hand") = some (.int (Int.fmod d 5) th) →
     wpAny (model prog w) (Ar dp un fr gd) (execs (lawBody.drop 4) (lawEnv L)) Q (fun _ _ => False) { s with heap := h', toks := tk }) :
   wpAny (model prog w) (Ar dp un fr gd) (execs (lawBody.drop 0) (lawEnv L)) Q (fun _ _ => False) s := by
  rw [bd0, bd1, bd2, bd3]
  rw [pin hm] at F
  dsimp only [st0, st1, st2, st3]
  generalize hB : lawBody.drop 4 = B at *
  repeat' (first | (dsimp only; walk1) | walk1 | refine zP _ ?_ | refine zR0 _ _ ?_ | refine zP0 _ ?_ | refine zC _ ?_ | refine zR _ _ ?_ | refine zB _ ?_ | refine zE _ ?_ | fail "")
  rename Fr _ _ _ _ => F1
  rename News _ _ _ _ => N1
  replace N1 := newsTl N1
  rename IsRange _ _ _ _ _ _ _ _ => R1
  refine for_range (n := (ns.take 60).length) (fun i m' n' => Off [Str.ofString "k"] m' _ ∧ ∃ (vs : List Value) (c : Nat) (cs : List Int), n' = (_, listOf vs.toArray c) :: nz ∧ IntsAre vs cs ∧ cs.length = 10) rfl F1 N1 R1 (small_one (by l_bnd) (by l_bnd) (by l_bnd) (by l_bnd)) (rangeSize_nat _ _) ⟨Off.refl, _, _, [0, 8, 1, 5, 4, 0, 4392, 730, 4392, 8590], rfl, by repeat' constructor, rfl⟩ ?_ ?_
  · intro I i t m₁ news₁ h tk oI hI hi hJ F2 N2 hn2
    refine hideL fun zQ zP zC zR zB => ?_
    obtain ⟨hoff, vs, c, cs, rfl, hvs, hcs⟩ := hJ
    rw [Off.ov hoff] at F2
    dsimp only at F2 N2 hI ⊢
    clear F1 N1
    have hq1 := neN (hn2 _ (.head _))
    dsimp only at hq1
    repeat' (first | (dsimp only; walk1) | walk1 | refine zP _ ?_ | refine zR0 _ _ ?_ | refine zP0 _ ?_ | refine zC _ ?_ | refine zR _ _ ?_ | refine zB _ ?_ | refine zE _ ?_ | fail "")
    all_goals (try (first | refine zP _ ?_ | dsimp only [LPost] | fail ""))
    rename Fr _ _ _ _ => F9
    rename News _ _ _ _ => N9
    refine LEnd.intro (_ :: nz) F9 N9 (.head _) (fun _ hp => .tail _ hp) (fun p hp => ?_) ⟨?_, _, _, _, rfl, by assumption, by rw [List.length_set]; exact hcs⟩
    · revert hp; revert p
      refine consC ?_ ?_
      · exact hq1
      · intro p hp
        exact hn2 _ (.tail _ hp)
    · exact Off.set (by decide) Off.of_ov
  · intro m₁ news₁ h tk hJ F2 N2
    obtain ⟨hoff, vs, c, cs, rfl, hvs, hcs⟩ := hJ
    rw [Off.ov hoff] at F2
    dsimp only at F2 N2 ⊢
    clear F1 N1
    repeat' (first | (dsimp only; walk1) | walk1 | refine zP _ ?_ | refine zR0 _ _ ?_ | refine zP0 _ ?_ | refine zC _ ?_ | refine zR _ _ ?_ | refine zB _ ?_ | refine zE _ ?_ | fail "")
    try dsimp only
    rename Fr _ _ _ _ => F9
    rename News _ _ _ _ => N9
    exact ret _ _ _ _ vs c cs _ _ _ (by assumption) F9 (newsTl N9) hvs hcs rfl rfl rfl

section P17


/-- the frozen objects stand -/
noncomputable def Has (h : Heap) (fz : List (Addr × Obj)) : Prop := ∀ p ∈ fz, h.get? p.1 = some p.2
theorem Has.of {h₀ h : Heap} {L : Addr} {news fz : List (Addr × Obj)} (N : News h₀ L h news) (hs : ∀ p ∈ fz, p ∈ news) : Has h fz := fun p hp => (N p (hs p hp)).1
theorem Has.sub {h : Heap} {a b : List (Addr × Obj)} (H : Has h a) (hs : ∀ p ∈ b, p ∈ a) : Has h b := fun p hp => H p (hs p hp)
theorem Has.tup {h : Heap} {fz : List (Addr × Obj)} {a : Addr} {vs : List Value} {c : Nat} (H : Has h fz) (hm : (a, tupOf vs c) ∈ fz) : IsTup h a vs.toArray := News.isTup (h₀ := {}) (L := a + 1) (news := [(a, tupOf vs c)]) (fun p hp => by
  rw [List.mem_singleton.mp hp]; exact ⟨H _ hm, Nat.ne_of_lt (Nat.lt_succ_self a), rfl⟩) (.head _)
theorem Has.list {h : Heap} {fz : List (Addr × Obj)} {a : Addr} {vs : List Value} {c : Nat} (H : Has h fz) (hm : (a, listOf vs.toArray c) ∈ fz) : h.IsList a vs.toArray := News.isList (h₀ := {}) (L := a + 1) (news := [(a, listOf vs.toArray c)]) (fun p hp => by
  rw [List.mem_singleton.mp hp]; exact ⟨H _ hm, Nat.ne_of_lt (Nat.lt_succ_self a), rfl⟩) (.head _)
theorem Off.at {xs : List Str} {m m₀ : Str → Option Value} {x : Str} (h : Off xs m m₀) (hx : xs.contains x = false) : m x = m₀ x := h x fun q => by rw [List.contains_iff_mem.mpr q] at hx; cases hx
theorem Off.pinR {xs : List Str} {x : Str} {v : Value} {m m₀ : Str → Option Value} (hm : m₀ x = some v) (h : Off xs m (fun y => if y = x then some v else m₀ y)) : Off xs m m₀ := by rw [← pin hm] at h; exact h
theorem pin2 {x0 x1 : Str} {m : Str → Option Value} {v0 v1 : Value} (h0 : m x0 = some v0) (h1 : m x1 = some v1) : m = fun z => if z = x0 then some v0 else if z = x1 then some v1 else m z := by
  funext z
  by_cases e0 : z = x0
  · subst e0; rw [if_pos rfl]; exact h0
  rw [if_neg e0]
  by_cases e1 : z = x1
  · subst e1; rw [if_pos rfl]; exact h1
  rw [if_neg e1]
theorem pin3 {x0 x1 x2 : Str} {m : Str → Option Value} {v0 v1 v2 : Value} (h0 : m x0 = some v0) (h1 : m x1 = some v1) (h2 : m x2 = some v2) : m = fun z => if z = x0 then some v0 else if z = x1 then some v1 else if z = x2 then some v2 else m z := by
  funext z
  by_cases e0 : z = x0
  · subst e0; rw [if_pos rfl]; exact h0
  rw [if_neg e0]
  by_cases e1 : z = x1
  · subst e1; rw [if_pos rfl]; exact h1
  rw [if_neg e1]
  by_cases e2 : z = x2
  · subst e2; rw [if_pos rfl]; exact h2
  rw [if_neg e2]
theorem pin4 {x0 x1 x2 x3 : Str} {m : Str → Option Value} {v0 v1 v2 v3 : Value} (h0 : m x0 = some v0) (h1 : m x1 = some v1) (h2 : m x2 = some v2) (h3 : m x3 = some v3) : m = fun z => if z = x0 then some v0 else if z = x1 then some v1 else if z = x2 then some v2 else if z = x3 then some v3 else m z := by
  funext z
  by_cases e0 : z = x0
  · subst e0; rw [if_pos rfl]; exact h0
  rw [if_neg e0]
  by_cases e1 : z = x1
  · subst e1; rw [if_pos rfl]; exact h1
  rw [if_neg e1]
  by_cases e2 : z = x2
  · subst e2; rw [if_pos rfl]; exact h2
  rw [if_neg e2]
  by_cases e3 : z = x3
  · subst e3; rw [if_pos rfl]; exact h3
  rw [if_neg e3]
theorem pin5 {x0 x1 x2 x3 x4 : Str} {m : Str → Option Value} {v0 v1 v2 v3 v4 : Value} (h0 : m x0 = some v0) (h1 : m x1 = some v1) (h2 : m x2 = some v2) (h3 : m x3 = some v3) (h4 : m x4 = some v4) : m = fun z => if z = x0 then some v0 else if z = x1 then some v1 else if z = x2 then some v2 else if z = x3 then some v3 else if z = x4 then some v4 else m z := by
  funext z
  by_cases e0 : z = x0
  · subst e0; rw [if_pos rfl]; exact h0
  rw [if_neg e0]
  by_cases e1 : z = x1
  · subst e1; rw [if_pos rfl]; exact h1
  rw [if_neg e1]
  by_cases e2 : z = x2
  · subst e2; rw [if_pos rfl]; exact h2
  rw [if_neg e2]
  by_cases e3 : z = x3
  · subst e3; rw [if_pos rfl]; exact h3
  rw [if_neg e3]
  by_cases e4 : z = x4
  · subst e4; rw [if_pos rfl]; exact h4
  rw [if_neg e4]
theorem pin6 {x0 x1 x2 x3 x4 x5 : Str} {m : Str → Option Value} {v0 v1 v2 v3 v4 v5 : Value} (h0 : m x0 = some v0) (h1 : m x1 = some v1) (h2 : m x2 = some v2) (h3 : m x3 = some v3) (h4 : m x4 = some v4) (h5 : m x5 = some v5) : m = fun z => if z = x0 then some v0 else if z = x1 then some v1 else if z = x2 then some v2 else if z = x3 then some v3 else if z = x4 then some v4 else if z = x5 then some v5 else m z := by
  funext z
  by_cases e0 : z = x0
  · subst e0; rw [if_pos rfl]; exact h0
  rw [if_neg e0]
  by_cases e1 : z = x1
  · subst e1; rw [if_pos rfl]; exact h1
  rw [if_neg e1]
  by_cases e2 : z = x2
  · subst e2; rw [if_pos rfl]; exact h2
  rw [if_neg e2]
  by_cases e3 : z = x3
  · subst e3; rw [if_pos rfl]; exact h3
  rw [if_neg e3]
  by_cases e4 : z = x4
  · subst e4; rw [if_pos rfl]; exact h4
  rw [if_neg e4]
  by_cases e5 : z = x5
  · subst e5; rw [if_pos rfl]; exact h5
  rw [if_neg e5]
theorem pin7 {x0 x1 x2 x3 x4 x5 x6 : Str} {m : Str → Option Value} {v0 v1 v2 v3 v4 v5 v6 : Value} (h0 : m x0 = some v0) (h1 : m x1 = some v1) (h2 : m x2 = some v2) (h3 : m x3 = some v3) (h4 : m x4 = some v4) (h5 : m x5 = some v5) (h6 : m x6 = some v6) : m = fun z => if z = x0 then some v0 else if z = x1 then some v1 else if z = x2 then some v2 else if z = x3 then some v3 else if z = x4 then some v4 else if z = x5 then some v5 else if z = x6 then some v6 else m z := by
  funext z
  by_cases e0 : z = x0
  · subst e0; rw [if_pos rfl]; exact h0
  rw [if_neg e0]
  by_cases e1 : z = x1
  · subst e1; rw [if_pos rfl]; exact h1
  rw [if_neg e1]
  by_cases e2 : z = x2
  · subst e2; rw [if_pos rfl]; exact h2
  rw [if_neg e2]
  by_cases e3 : z = x3
  · subst e3; rw [if_pos rfl]; exact h3
  rw [if_neg e3]
  by_cases e4 : z = x4
  · subst e4; rw [if_pos rfl]; exact h4
  rw [if_neg e4]
  by_cases e5 : z = x5
  · subst e5; rw [if_pos rfl]; exact h5
  rw [if_neg e5]
  by_cases e6 : z = x6
  · subst e6; rw [if_pos rfl]; exact h6
  rw [if_neg e6]
theorem Off.eqR {xs : List Str} {m P m₀ : Str → Option Value} (e : m₀ = P) (h : Off xs m P) : Off xs m m₀ := e ▸ h
theorem newsApp {h₀ h : Heap} {L : Addr} {a b : List (Addr × Obj)} (N : News h₀ L h a) (hs : ∀ p ∈ b, p ∈ a) : News h₀ L h b := fun p hp => N p (hs p hp)
theorem LEnd.p3 {h₀ : Heap} {L I : Addr} {oI : Obj} {J : (Str → Option Value) → List (Addr × Obj) → Prop} {s₁ : Shared} {h' : Heap} {tk : Nat} {m' : Str → Option Value} {t a b c : Addr × Obj} {rest : List (Addr × Obj)} (F : Fr h₀ L h' m') (N : News h₀ L h' (t :: (I, oI) :: a :: b :: c :: rest))
    (hn : ∀ p ∈ a :: b :: c :: t :: rest, p.1 ≠ I) (hj : J m' (a :: b :: c :: t :: rest)) : LEnd h₀ L I oI J s₁ { s₁ with heap := h', toks := tk } :=
  LEnd.intro _ F N (.tail _ (.head _)) (fun p hp => by
    rcases List.mem_cons.mp hp with rfl | hp
    · k_mem
    rcases List.mem_cons.mp hp with rfl | hp
    · k_mem
    rcases List.mem_cons.mp hp with rfl | hp
    · k_mem
    rcases List.mem_cons.mp hp with rfl | hp
    · k_mem
    · exact .tail _ (.tail _ (.tail _ (.tail _ (.tail _ hp))))) hn hj
noncomputable def wireF (n : Int) : Int × Int := (Int.fdiv (Int.fmod n 12) 3, if Int.fmod n 3 ≥ Int.fdiv (Int.fmod n 12) 3 then Int.fmod n 3 + 1 else Int.fmod n 3)
structure TupsIn (tz : List (Addr × Obj)) (ws : List Value) (wr : List (Int × Int)) : Prop where
  len : ws.length = wr.length
  it : ∀ (i : Nat) (p : Int × Int), wr[i]? = some p → ∃ (a : Addr) (tl th : Tok) (c : Nat), ws[i]? = some (Value.ref a) ∧ (a, tupOf [Value.int p.1 tl, Value.int p.2 th] c) ∈ tz
theorem TupsIn.snoc {tz tz' : List (Addr × Obj)} {ws : List Value} {wr : List (Int × Int)} (W : TupsIn tz ws wr) (hs : ∀ p ∈ tz, p ∈ tz') {a : Addr} {x y : Int} {tl th : Tok} {c : Nat} (hm : (a, tupOf [Value.int x tl, Value.int y th] c) ∈ tz') : TupsIn tz' (ws ++ [Value.ref a]) (wr ++ [(x, y)]) where
  len := by simp [W.len]
  it := fun i p hp => by
    rcases Nat.lt_or_ge i wr.length with q | q
    · rw [List.getElem?_append_left q] at hp
      obtain ⟨b, t1, t2, d, h1, h2⟩ := W.it i p hp
      exact ⟨b, t1, t2, d, by rw [List.getElem?_append_left (by rw [W.len]; exact q)]; exact h1, hs _ h2⟩
    · rw [List.getElem?_append_right q] at hp
      have e : i - wr.length = 0 := by
        rcases Nat.eq_zero_or_pos (i - wr.length) with z | z
        · exact z
        · rw [List.getElem?_eq_none (by simp; (first | lia | omega))] at hp; cases hp
      rw [e] at hp
      simp only [List.getElem?_cons_zero, Option.some.injEq] at hp
      subst hp
      exact ⟨a, tl, th, c, by rw [List.getElem?_append_right (by rw [W.len]; exact q), W.len, e]; rfl, hm⟩
theorem wireF_ok (n : Int) : 0 ≤ (wireF n).1 ∧ (wireF n).1 < 4 ∧ 0 ≤ (wireF n).2 ∧ (wireF n).2 < 4 ∧ (wireF n).1 ≠ (wireF n).2 := by
  have a1 : 0 ≤ Int.fmod n 12 := Int.fmod_nonneg_of_pos n (by decide)
  have a2 : Int.fmod n 12 < 12 := Int.fmod_lt_of_pos n (by decide)
  have b1 : 0 ≤ Int.fmod n 3 := Int.fmod_nonneg_of_pos n (by decide)
  have b2 : Int.fmod n 3 < 3 := Int.fmod_lt_of_pos n (by decide)
  unfold wireF
  rw [Int.fdiv_eq_ediv_of_nonneg _ (by decide)]
  try dsimp only
  split <;> omega
theorem seg2 {w : World} {dp un : Nat} {fr : Option (List Env)} {gd : Option (List Code)} {s : Shared} {Q : Flow → Shared → Prop} {mg mb : Str → Option Value} {h₀ : Heap} {L cl : Addr} {m : Str → Option Value} {nz : List (Addr × Obj)} {vs : List Value} {c : Nat} {cs : List Int} {o1 : Obj} {v1 : Option Value}
   (X : (Mine.hd.heap_39 w.params).In h₀) (T : TopRead Mine.hd.view_39 Mine.hd.lz mg mb h₀) (hroom : dp + 12 < recursionLimit) (hun : un + 120 < cLine)
   (F : Fr h₀ L s.heap m) (N : News h₀ L s.heap ((cl, listOf vs.toArray c) :: (L + 1, o1) :: nz)) (d1 : o1.data = .cell v1) (hz : ∀ p ∈ nz, p.1 ≠ L + 1) (hz2 : @LT.lt Nat _ (L + 7) cl) (hm : m (Str.ofString "cells") = some (.ref cl)) (hv : IntsAre vs cs) (hc : cs.length = 10)
   (ret : ∀ h' tk m' wi ws cw o1' v1' tz, Fr h₀ L h' m' → Off [Str.ofString "wires", Str.ofString "low", Str.ofString "high"] m' m → News h₀ L h' ((L + 1, o1') :: (tz ++ nz)) → o1'.data = .cell v1' → (∀ p ∈ tz, @LT.lt Nat _ (L + 7) p.1) → (wi, listOf ws.toArray cw) ∈ tz → TupsIn tz ws ((cs.take 6).map wireF) → m' (Str.ofString "wires") = some (.ref wi) →
     wpAny (model prog w) (Ar dp un fr gd) (execs (lawBody.drop 6) (lawEnv L)) Q (fun _ _ => False) { s with heap := h', toks := tk }) :
   wpAny (model prog w) (Ar dp un fr gd) (execs (lawBody.drop 4) (lawEnv L)) Q (fun _ _ => False) s := by
  rw [bd4, bd5]
  rw [pin hm] at F
  dsimp only [st4, st5]
  generalize hB : lawBody.drop 6 = B at *
  have hne1 : @Ne Nat cl (L + 1) := by (first | lia | omega)
  repeat' (first | (dsimp only; walk1) | walk1 | refine zP _ ?_ | refine zR0 _ _ ?_ | refine zP0 _ ?_ | refine zC _ ?_ | refine zR _ _ ?_ | refine zB _ ?_ | refine zE _ ?_ | fail "")
  rename Fr _ _ _ _ => F1
  rename News _ _ _ _ => N1
  rename IntsAre _ (cs.take 6) => hI1
  rename_i wi _ lA _ D ws0 _ _ _ lB
  have hA1 : @LT.lt Nat _ cl wi := lA.1
  have hA2 : @LT.lt Nat _ (L + 1) wi := lA.2.1
  have hA3 := lA.2.2
  clear lA
  have hB1 : @LT.lt Nat _ wi D := lB.1
  clear lB
  have N2 := newsApp (b := (wi, listOf ([] : List Value).toArray 0) :: (D, listOf ws0.toArray 0) :: (L + 1, o1) :: ([] ++ nz)) N1 (fun p hp => by
    rcases List.mem_cons.mp hp with rfl | hp
    · exact .tail _ (.head _)
    rcases List.mem_cons.mp hp with rfl | hp
    · exact .head _
    · exact .tail _ (.tail _ (.tail _ hp)))
  refine for_listN (items := ws0) (fun i m' n' => Off [Str.ofString "low", Str.ofString "high"] m' _ ∧ ∃ (ws : List Value) (cw : Nat) (o1 : Obj) (v1 : Option Value) (tz : List (Addr × Obj)), n' = (wi, listOf ws.toArray cw) :: (D, listOf ws0.toArray 0) :: (L + 1, o1) :: (tz ++ nz) ∧ o1.data = .cell v1 ∧ AllLt wi nz ∧ (∀ p ∈ tz, @LT.lt Nat _ wi p.1) ∧ TupsIn tz ws (((cs.take 6).take i).map wireF) ∧ ws.length = i) rfl F1 N2 (fun i m' n' hj => by obtain ⟨_, ws, cw, o1, v1, tz, rfl, _⟩ := hj; k_mem) ⟨Off.refl, _, _, _, _, [], rfl, d1, hA3, fun _ hp => (nomatch hp), ⟨rfl, fun i p hp => by simp at hp⟩, rfl⟩ ?_ ?_
  · intro I i v m₁ news₁ h tk oI hI hx hJ F3 N3 hn3
    refine hideL fun zQ zP zC zR zB => ?_
    obtain ⟨hoff, ws, cw, o1', v1', tz, rfl, d1', _, htz, hW, hlen⟩ := hJ
    rw [Off.ov hoff] at F3
    dsimp only at F3 N3 hI ⊢
    clear F1 N1 N2
    obtain ⟨n, tn, rfl, hn⟩ := hI1.at i v hx
    have hi6 : i < 6 := by
      rcases Nat.lt_or_ge i 6 with q | q
      · exact q
      · rw [List.getElem?_eq_none (by rw [List.length_take]; (first | lia | omega))] at hn; cases hn
    have hq1 := neN (hn3 _ (.head _))
    have hq2 := neN (hn3 _ (.tail _ (.head _)))
    have hq3 := neN (hn3 _ (.tail _ (.tail _ (.head _))))
    dsimp only at hq1 hq2 hq3
    have hzI : ∀ p ∈ tz ++ nz, p.1 ≠ I := fun p hp => hn3 p (.tail _ (.tail _ (.tail _ hp)))
    have hz3 : ∀ p ∈ tz ++ nz, p.1 ≠ L + 1 := fun p hp => by
      rcases List.mem_append.mp hp with hp | hp
      · have := htz p hp; exact Nat.ne_of_gt (Nat.lt_trans hA2 this)
      · exact hz p hp
    have hz4 : ∀ p ∈ tz ++ nz, p.1 ≠ wi := fun p hp => by
      rcases List.mem_append.mp hp with hp | hp
      · exact Nat.ne_of_gt (htz p hp)
      · exact allLt_ne hA3 p hp
    generalize hrz : tz ++ nz = rz at *
    repeat' (first | (dsimp only; walk1) | walk1 | refine zP _ ?_ | refine zR0 _ _ ?_ | refine zP0 _ ?_ | refine zC _ ?_ | refine zR _ _ ?_ | refine zB _ ?_ | refine zE _ ?_ | fail "")
    all_goals
      all_goals (try (first | refine zP _ ?_ | dsimp only [LPost] | fail ""))
      rename Fr _ _ _ _ => F9
      rename News _ _ _ _ => N9
      rename @LT.lt Nat _ I _ ∧ _ => l9
      subst hrz
      refine LEnd.p3 F9 N9 (fun p hp => ?_) ⟨?_, _, _, _, _, _ :: tz, rfl, by assumption, hA3, fun p hp => ?_, ?_, ?_⟩
      · revert hp; revert p
        refine consC ?_ ?_
        · exact hq1
        refine consC ?_ ?_
        · exact hq2
        refine consC ?_ ?_
        · exact hq3
        refine consC ?_ ?_
        · exact Nat.ne_of_gt l9.1
        · intro p hp
          exact hzI p hp
      · exact Off.set (by decide) (Off.set (by decide) Off.of_ov)
      · revert hp; revert p
        refine consC ?_ ?_
        · exact l9.2.1
        · intro p hp
          exact htz p hp
      · rw [List.take_add_one, hn]
        simp only [Option.toList, List.map_append, List.map_cons, List.map_nil]
        refine' TupsIn.snoc hW (fun p hp => .tail _ hp) ?_
        any_goals
          (split <;> first | exact .head _ | (exfalso; (first | lia | omega)))
      · rw [List.length_append, hlen]; rfl
  · intro m₁ news₁ h tk hJ F3 N3
    obtain ⟨hoff, ws, cw, o1', v1', tz, rfl, d1', _, htz, hW, hlen⟩ := hJ
    rw [hI1.length, List.take_length] at hW
    rw [Off.ov hoff] at F3
    dsimp only at F3 N3 ⊢
    clear F1 N1 N2
    repeat' (first | (dsimp only; walk1) | walk1 | refine zP _ ?_ | refine zR0 _ _ ?_ | refine zP0 _ ?_ | refine zC _ ?_ | refine zR _ _ ?_ | refine zB _ ?_ | refine zE _ ?_ | fail "")
    refine ret _ _ _ wi ws cw o1' v1' ((wi, listOf ws.toArray cw) :: tz) F3 ?_ (newsApp N3 (fun p hp => ?_)) d1' (fun p hp => ?_) (.head _) ⟨hW.len, fun i p hp => ?_⟩ ?_
    · exact Off.pinR hm (Off.ovT (by decide) (Off.set (by decide) Off.refl))
    · revert hp; revert p
      refine consC ?_ ?_
      · k_mem
      refine consC ?_ ?_
      · k_mem
      · intro p hp
        exact .tail _ (.tail _ (.tail _ hp))
    · revert hp; revert p
      refine consC ?_ ?_
      · exact Nat.lt_trans hz2 hA1
      · intro p hp
        exact Nat.lt_trans (Nat.lt_trans hz2 hA1) (htz p hp)
    · obtain ⟨a, t1, t2, d, h1, h2⟩ := hW.it i p hp
      exact ⟨a, t1, t2, d, h1, .tail _ h2⟩
    · rfl

end P17
section P18


noncomputable def body7 : {b : List Stmt // ∃ t i p, st7.1 = Stmt.For t i b [] p} := ⟨_, _, _, _, rfl⟩
noncomputable def tb0 : {x : Stmt // body7.1[0]? = some x} := ⟨_, rfl⟩
noncomputable def tb1 : {x : Stmt // body7.1[1]? = some x} := ⟨_, rfl⟩
noncomputable def tb2 : {x : Stmt // body7.1[2]? = some x} := ⟨_, rfl⟩
noncomputable def tb3 : {x : Stmt // body7.1[3]? = some x} := ⟨_, rfl⟩
noncomputable def tb4 : {x : Stmt // body7.1[4]? = some x} := ⟨_, rfl⟩
noncomputable def tb5 : {x : Stmt // body7.1[5]? = some x} := ⟨_, rfl⟩
noncomputable def tb6 : {x : Stmt // body7.1[6]? = some x} := ⟨_, rfl⟩
theorem be0 : body7.1.drop 0 = tb0.1 :: body7.1.drop 1 := rfl
theorem be1 : body7.1.drop 1 = tb1.1 :: body7.1.drop 2 := rfl
theorem be2 : body7.1.drop 2 = tb2.1 :: body7.1.drop 3 := rfl
theorem be3 : body7.1.drop 3 = tb3.1 :: body7.1.drop 4 := rfl
theorem be4 : body7.1.drop 4 = tb4.1 :: body7.1.drop 5 := rfl
theorem be5 : body7.1.drop 5 = tb5.1 :: body7.1.drop 6 := rfl
theorem be6 : body7.1.drop 6 = tb6.1 :: body7.1.drop 7 := rfl
noncomputable def signF (n : Int) (p : Nat) : Nat := ([34, 38, 60, 62, 9, 10, 13, 97, 59] : List Nat).getD (Int.fmod (Int.fdiv n (9 ^ p)) 9).toNat 0
noncomputable def SgJ (n : Int) (j : Nat) (vs : List Value) : Prop := ∃ ys : List Str, StrsAre vs ys ∧ ys.map (·.cps.toList) = (List.range j).map (fun p => [signF n p]) ∧ vs.length = j
noncomputable def nameL (i : Nat) (n : Int) : List Nat := (List.range (Int.fmod (Int.fdiv n 729) 4).toNat).map (signF n) ++ [80 + i]
theorem allLt_mono {a b : Addr} : ∀ {l : List (Addr × Obj)}, AllLt a l → @LT.lt Nat _ a b → AllLt b l
  | [], _, _ => trivial
  | _ :: _, h, q => ⟨Nat.lt_trans h.1 q, allLt_mono h.2 q⟩
theorem flatten_one {α β : Type} (f : α → β) : ∀ l : List α, (l.map fun a => [f a]).flatten = l.map f
  | [] => rfl
  | a :: l => by simp only [List.map_cons, List.flatten_cons, flatten_one f l]; rfl
theorem sub_tab3 {prog : Program} {w : World} {A : Around} {E : Value → Shared → Prop} {s : Shared} {h₀ : Heap} {L D : Addr} {news : List (Addr × Obj)} {c : Nat} {k : Int} {u t0 t1 t2 : Tok} {x0 x1 x2 : Str} {value slice : PySem.Expr} {Q : Value → Shared → Prop} (N : News h₀ L s.heap news) (hm : (D, listOf #[Value.str x0 t0, Value.str x1 t1, Value.str x2 t2] c) ∈ news) (h0 : 0 ≤ k) (h3 : k < 3)
    (h : ∀ x t, x = ([x0, x1, x2] : List Str).getD k.toNat x0 → Q (.str x t) s)
    (hs : subscripted slice false (.ref D) (.int k u) = operate [.ref D, .int k u] (getItem (.ref D) (.int k u)) := by with_unfolding_all rfl) :
    wpAny (model prog w) A (subscriptTail value slice (.ref D) (.int k u)) Q E s := by
  have : k = 0 ∨ k = 1 ∨ k = 2 := by (first | lia | omega)
  rcases this with rfl | rfl | rfl
  · exact sub_list (vs := [Value.str x0 t0, Value.str x1 t1, Value.str x2 t2]) (v := Value.str x0 t0) N hm (by decide) (by decide) rfl (h _ _ rfl) hs
  · exact sub_list (vs := [Value.str x0 t0, Value.str x1 t1, Value.str x2 t2]) (v := Value.str x1 t1) N hm (by decide) (by decide) rfl (h _ _ rfl) hs
  · exact sub_list (vs := [Value.str x0 t0, Value.str x1 t1, Value.str x2 t2]) (v := Value.str x2 t2) N hm (by decide) (by decide) rfl (h _ _ rfl) hs
theorem sign_item (k : Int) (h0 : 0 ≤ k) (h9 : k < 9) : (Txt.item (Str.ofString "\"&<>\t\n\ra;") k).cps.toList = [([34, 38, 60, 62, 9, 10, 13, 97, 59] : List Nat).getD k.toNat 0] := by
  have : k = 0 ∨ k = 1 ∨ k = 2 ∨ k = 3 ∨ k = 4 ∨ k = 5 ∨ k = 6 ∨ k = 7 ∨ k = 8 := by (first | lia | omega)
  rcases this with rfl | rfl | rfl | rfl | rfl | rfl | rfl | rfl | rfl <;> decide +kernel
theorem SgJ.snoc {n P : Int} {j : Nat} {vs : List Value} {u : Tok} (J : SgJ n j vs) (hP : (9 : Int) ^ j = P) : SgJ n (j + 1) (vs ++ [.str (Txt.item (Str.ofString "\"&<>\t\n\ra;") (Int.fmod (Int.fdiv n P) 9)) u]) := by
  obtain ⟨ys, h1, h2, h3⟩ := J
  refine ⟨_, strsAre_snoc h1, ?_, by simp [h3]⟩
  rw [List.map_append, h2, List.range_succ, List.map_append]
  simp only [List.map_cons, List.map_nil]
  rw [sign_item _ (Int.fmod_nonneg_of_pos _ (by decide)) (Int.fmod_lt_of_pos _ (by decide)), signF, hP]
theorem letter_item (i : Nat) (hi : i < 4) : (Txt.item (Str.ofString "PQRS") (i : Int)).cps.toList = [80 + i] := by
  have : i = 0 ∨ i = 1 ∨ i = 2 ∨ i = 3 := by (first | lia | omega)
  rcases this with rfl | rfl | rfl | rfl <;> decide +kernel
theorem turn3a {w : World} {dp un : Nat} {fr : Option (List Env)} {gd : Option (List Code)} {s : Shared} {Q : Flow → Shared → Prop} {mg mb : Str → Option Value} {h₀ : Heap} {L I cl it : Addr} {oI oi oc : Obj} {m : Str → Option Value} {rz : List (Addr × Obj)} {vs : List Value} {c : Nat} {cs : List Int} {o1 o2 : Obj} {v1 : Option Value} {tk : Tok} {i : Nat} {n : Int}
   (X : (Mine.hd.heap_39 w.params).In h₀) (T : TopRead Mine.hd.view_39 Mine.hd.lz mg mb h₀) (hroom : dp + 12 < recursionLimit) (hun : un + 120 < cLine)
   (F : Fr h₀ L s.heap m) (N : News h₀ L s.heap ((I, oI) :: (it, oi) :: (cl, listOf vs.toArray c) :: (L + 1, o1) :: rz)) (d1 : o1.data = .cell v1) (hz : ∀ p ∈ rz, p.1 ≠ L + 1)
   (q1 : @LT.lt Nat _ (L + 7) cl) (q2 : @LT.lt Nat _ cl it) (q3 : @LT.lt Nat _ it I) (hm : m (Str.ofString "cells") = some (.ref cl)) (hm3 : m (Str.ofString "k") = some (.int i tk)) (hi : i < 4) (hv : IntsAre vs cs) (hc : cs.length = 10) (hn : cs[6 + i]? = some n)
   (ret : ∀ h' tk m' o1' tn nm tm, Fr h₀ L h' m' → Off [Str.ofString "name"] m' m → m' (Str.ofString "name") = some (.str nm tm) → nm.cps.toList = nameL i n → o1'.data = .cell (some (.int n tn)) → News h₀ L h' ((I, oI) :: (it, oi) :: (cl, listOf vs.toArray c) :: (L + 1, o1') :: rz) →
     wpAny (model prog w) (Ar dp un fr gd) (execs (body7.1.drop 2) (lawEnv L)) Q (fun _ _ => False) { s with heap := h', toks := tk }) :
   wpAny (model prog w) (Ar dp un fr gd) (execs body7.1 (lawEnv L)) Q (fun _ _ => False) s := by
  show wpAny (model prog w) (Ar dp un fr gd) (execs (body7.1.drop 0) (lawEnv L)) Q (fun _ _ => False) s
  rw [be0, be1]
  rw [pin2 hm hm3] at F
  dsimp only [tb0, tb1]
  generalize hB : body7.1.drop 2 = B at *
  have hne1 : @Ne Nat cl (L + 1) := by (first | lia | omega)
  have hne3 : @Ne Nat it (L + 1) := by (first | lia | omega)
  have hne5 : @Ne Nat it cl := by (first | lia | omega)
  have hne6 : @Ne Nat I (L + 1) := by (first | lia | omega)
  have hne8 : @Ne Nat I cl := by (first | lia | omega)
  have hne9 : @Ne Nat I it := by (first | lia | omega)
  repeat' (first | (dsimp only; walk1) | walk1 | refine zP _ ?_ | refine zR0 _ _ ?_ | refine zP0 _ ?_ | refine zC _ ?_ | refine zR _ _ ?_ | refine zB _ ?_ | refine zE _ ?_ | fail "")
  have hgn : cs.getD ((6 : Int) + (i : Int)).toNat 0 = n := by
    have e : ((6 : Int) + (i : Int)).toNat = 6 + i := by (first | lia | omega)
    rw [e, List.getD_eq_getElem?_getD, hn]; rfl
  simp only [hgn] at *
  obtain ⟨nn, hnn, hn4⟩ : ∃ nn : Nat, Int.fmod (Int.fdiv n 729) 4 = (nn : Int) ∧ nn < 4 := by
    have a1 : 0 ≤ Int.fmod (Int.fdiv n 729) 4 := Int.fmod_nonneg_of_pos _ (by decide)
    have a2 : Int.fmod (Int.fdiv n 729) 4 < 4 := Int.fmod_lt_of_pos _ (by decide)
    exact ⟨(Int.fmod (Int.fdiv n 729) 4).toNat, by (first | lia | omega), by (first | lia | omega)⟩
  rename IsRange _ _ _ _ _ _ _ _ => R1
  rw [hnn] at R1
  rename Fr _ _ _ _ => F1
  rename News _ _ _ _ => N1
  refine comp_range (n := nn) none (J := fun D C j m' n' => ∃ vs' c', n' = (D, listOf vs'.toArray c') :: _ ∧ SgJ n j vs') rfl (fun _ => rfl) (fun _ => rfl) F1 N1 R1 (small_one (by l_bnd) (by l_bnd) (by l_bnd) (by l_bnd)) (rangeSize_nat _ _) (fun D C => ⟨[], 0, rfl, [], .nil, rfl, rfl⟩) ?_ ?_
  · intro g I2 D C j t2 m₁ news₁ h tk2 oI2 G1 G2 g1 g2 g3 hj hJ F2 N2 hn2
    refine hideT fun zQ zE => ?_
    obtain ⟨vs', c', rfl, hJ⟩ := hJ
    replace X := X.keeps G1
    replace T := T.keeps G1
    clear G1 G2 F1 N1
    k_lt g1; k_lt2 g2; k_lt2 g3
    simp only [ownL_none, ownC_none, List.nil_append] at F2 N2 ⊢
    have hDI := neN (hn2 _ (.head _))
    dsimp only at hDI
    repeat' (first | (dsimp only; walk1) | walk1 | refine zP _ ?_ | refine zR0 _ _ ?_ | refine zP0 _ ?_ | refine zC _ ?_ | refine zR _ _ ?_ | refine zB _ ?_ | refine zE _ ?_ | fail "" | dsimp only [turnGoal])
    have e9 : ((0 : Int) + (j : Int) * 1).toNat = j := by (first | lia | omega)
    obtain ⟨P, hP1, hP2, hP3⟩ : ∃ P : Int, (9 : Int) ^ j = P ∧ 1 ≤ P ∧ P ≤ 81 := by
      have : j = 0 ∨ j = 1 ∨ j = 2 := by (first | lia | omega)
      rcases this with rfl | rfl | rfl
      · exact ⟨1, rfl, by decide, by decide⟩
      · exact ⟨9, rfl, by decide, by decide⟩
      · exact ⟨81, rfl, by decide, by decide⟩
    rw [e9, hP1]
    have g1r : AllLt D rz := allLt_mono g1.2.2.2.2 g2
    have hvl : vs'.length = j := by obtain ⟨_, _, _, q⟩ := hJ; exact q
    refine floordiv_int (by (first | lia | omega)) ?_ (Or.inl (PyProof.noPylong_small (by (first | lia | omega))))
    repeat' (first | (dsimp only; walk1) | walk1 | refine zP _ ?_ | refine zR0 _ _ ?_ | refine zP0 _ ?_ | refine zC _ ?_ | refine zR _ _ ?_ | refine zB _ ?_ | refine zE _ ?_ | fail "" | dsimp only [turnGoal])
    refine LEnd.intro _ (by assumption) (by assumption) (by k_mem) (fun p hp => .tail _ hp) (ne_head hn2) ?_
    exact ⟨_, _, rfl, hJ.snoc hP1⟩
  · intro D C m₁ news₁ h tk2 hJ F2 N2
    obtain ⟨vs', c', rfl, hJ⟩ := hJ
    clear F1 N1
    simp only [ownL_none, List.nil_append] at F2 N2 ⊢
    obtain ⟨ys, y1, y2, y3⟩ := hJ
    have y4 : (Txt.join (Str.ofString "") ys).cps.toList = (List.range nn).map (signF n) := by rw [join_nil_cps, y2]; exact flatten_one _ _
    have y5 : ∀ y ∈ ys, y.length ≤ 1 := fun y hy => by
      have : y.cps.toList ∈ ys.map (·.cps.toList) := List.mem_map.mpr ⟨y, hy, rfl⟩
      rw [y2] at this
      obtain ⟨p, _, e⟩ := List.mem_map.mp this
      rw [len_eq, ← e]; exact Nat.le_refl 1
    have y6 : ys.length = nn := by
      have := congrArg List.length y2
      simpa using this
    repeat' (first | (dsimp only; walk1) | walk1 | refine zP _ ?_ | refine zR0 _ _ ?_ | refine zP0 _ ?_ | refine zC _ ?_ | refine zR _ _ ?_ | refine zB _ ?_ | refine zE _ ?_ | fail "")
    refine join_list (News.isList N2 (.head _)) y1 (by have q1 := sum_le y5; have q3 : ys.length * (Str.ofString "").length = 0 := Nat.mul_zero _; (first | lia | omega)) ?_
    intro tr kr
    have y7 : (Txt.join (Str.ofString "") ys).length = nn := by rw [len_eq, y4]; simp
    generalize Txt.join (Str.ofString "") ys = nm1 at *
    repeat' (first | (dsimp only; walk1) | walk1 | refine zP _ ?_ | refine zR0 _ _ ?_ | refine zP0 _ ?_ | refine zC _ ?_ | refine zR _ _ ?_ | refine zB _ ?_ | refine zE _ ?_ | fail "")
    rename Fr _ _ _ _ => F3
    rename News _ _ _ _ => N3
    have hnm : (nm1 ++ Txt.item (Str.ofString "PQRS") (i : Int)).cps.toList = nameL i n := by
      rw [Str.cps_append, Array.toList_append, y4, letter_item i hi, nameL, hnn]; rfl
    refine ret _ _ _ _ _ _ _ F3 (Off.eqR (pin2 hm hm3) (Off.set (by decide) Off.refl)) rfl hnm (by assumption) (newsApp N3 (fun p hp => .tail _ hp))

end P18
section P19


noncomputable def endS (n : Int) : Str := ([Str.ofString "", Str.ofString " made", Str.ofString ". \"\""] : List Str).getD (Int.fmod (Int.fdiv n 2916) 3).toNat (Str.ofString "")
theorem turn3b {w : World} {dp un : Nat} {fr : Option (List Env)} {gd : Option (List Code)} {s : Shared} {Q : Flow → Shared → Prop} {mg mb : Str → Option Value} {h₀ : Heap} {L : Addr} {m : Str → Option Value} {rz : List (Addr × Obj)} {o1 : Obj} {tn : Tok} {n : Int}
   (X : (Mine.hd.heap_39 w.params).In h₀) (T : TopRead Mine.hd.view_39 Mine.hd.lz mg mb h₀) (hroom : dp + 12 < recursionLimit) (hun : un + 120 < cLine)
   (F : Fr h₀ L s.heap m) (N : News h₀ L s.heap ((L + 1, o1) :: rz)) (d1 : o1.data = .cell (some (.int n tn)))
   (ret : ∀ h' tk te, Fr h₀ L h' (fun y => if y = Str.ofString "ending" then some (.str (endS n) te) else m y) → News h₀ L h' ((L + 1, o1) :: rz) →
     wpAny (model prog w) (Ar dp un fr gd) (execs (body7.1.drop 3) (lawEnv L)) Q (fun _ _ => False) { s with heap := h', toks := tk }) :
   wpAny (model prog w) (Ar dp un fr gd) (execs (body7.1.drop 2) (lawEnv L)) Q (fun _ _ => False) s := by
  rw [be2]
  dsimp only [tb2]
  generalize hB : body7.1.drop 3 = B at *
  repeat' (first | (dsimp only; walk1) | walk1 | refine zP _ ?_ | refine zR0 _ _ ?_ | refine zP0 _ ?_ | refine zC _ ?_ | refine zR _ _ ?_ | refine zB _ ?_ | refine zE _ ?_ | fail "")
  rename News _ _ _ _ => N3
  refine sub_tab3 N3 (.head _) (Int.fmod_nonneg_of_pos _ (by decide)) (Int.fmod_lt_of_pos _ (by decide)) ?_
  intro xe te hxe
  have hxe : xe = endS n := hxe
  subst hxe
  repeat' (first | (dsimp only; walk1) | walk1 | refine zP _ ?_ | refine zR0 _ _ ?_ | refine zP0 _ ?_ | refine zC _ ?_ | refine zR _ _ ?_ | refine zB _ ?_ | refine zE _ ?_ | fail "")
  rename Fr _ _ _ _ => F9
  rename News _ _ _ _ => N9
  exact ret _ _ _ F9 (newsTl N9)
theorem str_ext {a b : Str} (h : a.cps.toList = b.cps.toList) : a = b := by
  cases a; cases b
  simp only [Str.mk.injEq]
  exact Array.toList_inj.mp h
theorem scan_dup : ∀ (l e : List Nat), (∀ c r, e = c :: r → c ≠ 34) → scan (l.flatMap (sb 34 [34, 34]) ++ 34 :: e) = l
  | [], [], _ => rfl
  | [], c :: r, h => scan_q (h c r rfl)
  | a :: l, e, h => by
    rw [List.flatMap_cons]
    by_cases q : a = 34
    · subst q
      show scan (34 :: 34 :: (l.flatMap (sb 34 [34, 34]) ++ 34 :: e)) = _
      rw [scan_qq, scan_dup l e h]
    · have : sb 34 [34, 34] a = [a] := by unfold sb; rw [if_neg q]
      rw [this]
      show scan (a :: (l.flatMap (sb 34 [34, 34]) ++ 34 :: e)) = _
      rw [scan_o q, scan_dup l e h]
theorem endS_cases (n : Int) : endS n = Str.ofString "" ∨ endS n = Str.ofString " made" ∨ endS n = Str.ofString ". \"\"" := by
  have a1 := Int.fmod_nonneg_of_pos (Int.fdiv n 2916) (show (0 : Int) < 3 by decide)
  have a2 := Int.fmod_lt_of_pos (Int.fdiv n 2916) (show (0 : Int) < 3 by decide)
  have : (Int.fmod (Int.fdiv n 2916) 3).toNat = 0 ∨ (Int.fmod (Int.fdiv n 2916) 3).toNat = 1 ∨ (Int.fmod (Int.fdiv n 2916) 3).toNat = 2 := by (first | lia | omega)
  unfold endS
  rcases this with e | e | e <;> rw [e]
  · exact .inl rfl
  · exact .inr (.inl rfl)
  · exact .inr (.inr rfl)
theorem endS_len (n : Int) : (endS n).length ≤ 5 := by rcases endS_cases n with e | e | e <;> rw [e] <;> decide
theorem endS_head (n : Int) : ∀ c r, (endS n).cps.toList = c :: r → c ≠ 34 := by
  intro c r
  rcases endS_cases n with e | e | e <;> rw [e] <;> intro h q
  · cases h
  · subst q; have h1 : (Str.ofString " made").cps.toList.head? = some 32 := by decide +kernel
    rw [h] at h1; cases h1
  · subst q; have h1 : (Str.ofString ". \"\"").cps.toList.head? = some 46 := by decide +kernel
    rw [h] at h1; cases h1
theorem turn3c {w : World} {dp un : Nat} {fr : Option (List Env)} {gd : Option (List Code)} {s : Shared} {Q : Flow → Shared → Prop} {mg mb : Str → Option Value} {h₀ : Heap} {L : Addr} {m : Str → Option Value} {rz : List (Addr × Obj)} {tm te : Tok} {n : Int} {nm : Str}
   (X : (Mine.hd.heap_39 w.params).In h₀) (T : TopRead Mine.hd.view_39 Mine.hd.lz mg mb h₀) (hroom : dp + 12 < recursionLimit) (hun : un + 120 < cLine)
   (F : Fr h₀ L s.heap m) (N : News h₀ L s.heap rz) (hm : m (Str.ofString "name") = some (.str nm tm)) (hm2 : m (Str.ofString "ending") = some (.str (endS n) te)) (hnl : nm.length ≤ 4)
   (ret : ∀ h' tk t, Fr h₀ L h' (fun y => if y = Str.ofString "told" then some (.str nm t) else m y) → News h₀ L h' rz →
     wpAny (model prog w) (Ar dp un fr gd) (execs (body7.1.drop 4) (lawEnv L)) Q (fun _ _ => False) { s with heap := h', toks := tk }) :
   wpAny (model prog w) (Ar dp un fr gd) (execs (body7.1.drop 3) (lawEnv L)) Q (fun _ _ => False) s := by
  rw [be3]
  have ep := pin2 hm hm2
  generalize hE : endS n = en at *
  have hel : en.length ≤ 5 := hE ▸ endS_len n
  have heh : ∀ c r, en.cps.toList = c :: r → c ≠ 34 := hE ▸ endS_head n
  rw [ep] at F
  dsimp only [tb3]
  generalize hB : body7.1.drop 4 = B at *
  repeat' (first | (dsimp only; walk1) | walk1 | refine zP _ ?_ | refine zR0 _ _ ?_ | refine zP0 _ ?_ | refine zC _ ?_ | refine zR _ _ ?_ | refine zB _ ?_ | refine zE _ ?_ | fail "")
  have hrc : (Txt.replace nm (Str.ofString "\"") (Str.ofString "\"\"")).cps.toList = nm.cps.toList.flatMap (sb 34 [34, 34]) := sb_replace nm (Str.ofString "\"\"") 34
  have hrl : (Txt.replace nm (Str.ofString "\"") (Str.ofString "\"\"")).length ≤ 8 := by
    rw [len_eq, hrc]
    have q1 := sb_len (c := 34) (z := [34, 34]) (b := 2) (by decide) (by decide) nm.cps.toList
    have q2 : nm.cps.toList.length ≤ 4 := by rw [← len_eq]; exact hnl
    (first | lia | omega)
  generalize Txt.replace nm (Str.ofString "\"") (Str.ofString "\"\"") = rp at *
  repeat' (first | (dsimp only; walk1) | walk1 | refine zP _ ?_ | refine zR0 _ _ ?_ | refine zP0 _ ?_ | refine zC _ ?_ | refine zR _ _ ?_ | refine zB _ ?_ | refine zE _ ?_ | fail "")
  rename Fr _ _ _ _ => F2
  rename News _ _ _ _ => N2
  refine unstop ?_
  refine' parse_sum (rest := rp.cps.toList ++ 34 :: en.cps.toList) (X.keeps F2.keep) (T.keeps F2.keep) ?h1 ?h2 ?h3 ?h4 ?_
  case h1 => ((try simp only [depth_under_make, depth_under_kw, depth_in1, depth_deeper, depth_caller]); (try dsimp only [Ar]); (first | lia | omega))
  case h2 => ((try simp only [units_in1, units_deeper, Around.mark_units, units_caller]); (try dsimp only [Ar]); (first | lia | omega))
  case h3 => simp only [Str.cps_append, Array.toList_append, List.append_assoc]; rfl
  case h4 =>
    rw [List.length_append, List.length_cons, ← len_eq, ← len_eq]; (first | lia | omega)
  intro h' tk' r t' hk hr
  have hr' : r = nm := str_ext (by rw [hr, hrc]; exact scan_dup _ _ heh)
  subst hr'
  have F3 := F2.keeps hk
  have N3 := N2.keeps hk
  clear F2 N2
  repeat' (first | (dsimp only; walk1) | walk1 | refine zP _ ?_ | refine zR0 _ _ ?_ | refine zP0 _ ?_ | refine zC _ ?_ | refine zR _ _ ?_ | refine zB _ ?_ | refine zE _ ?_ | fail "")
  rename Fr _ _ _ _ => F9
  rename News _ _ _ _ => N9
  exact ret _ _ _ (by rw [ep]; exact F9) N9
theorem turn3d {w : World} {dp un : Nat} {fr : Option (List Env)} {gd : Option (List Code)} {s : Shared} {Q : Flow → Shared → Prop} {mg mb : Str → Option Value} {h₀ : Heap} {L : Addr} {m : Str → Option Value} {rz : List (Addr × Obj)} {tm th : Tok} {nm : Str} {hd : Int}
   (X : (Mine.hd.heap_39 w.params).In h₀) (T : TopRead Mine.hd.view_39 Mine.hd.lz mg mb h₀) (hroom : dp + 12 < recursionLimit) (hun : un + 120 < cLine)
   (F : Fr h₀ L s.heap m) (N : News h₀ L s.heap rz) (hm : m (Str.ofString "told") = some (.str nm tm)) (hm2 : m (Str.ofString "hand") = some (.int hd th)) (hnl : nm.length ≤ 4)
   (ret : ∀ h' tk wv t, wv.cps.toList = writF hd nm.cps.toList → Fr h₀ L h' (fun y => if y = Str.ofString "written" then some (.str wv t) else m y) → News h₀ L h' rz →
     wpAny (model prog w) (Ar dp un fr gd) (execs (body7.1.drop 5) (lawEnv L)) Q (fun _ _ => False) { s with heap := h', toks := tk }) :
   wpAny (model prog w) (Ar dp un fr gd) (execs (body7.1.drop 4) (lawEnv L)) Q (fun _ _ => False) s := by
  rw [be4]
  have ep := pin2 hm hm2
  rw [ep] at F
  dsimp only [tb4]
  generalize hB : body7.1.drop 5 = B at *
  repeat' (first | (dsimp only; walk1) | walk1 | refine zP _ ?_ | refine zR0 _ _ ?_ | refine zP0 _ ?_ | refine zC _ ?_ | refine zR _ _ ?_ | refine zB _ ?_ | refine zE _ ?_ | fail "")
  rename Fr _ _ _ _ => F2
  rename News _ _ _ _ => N2
  refine unstop ?_
  refine' written_sum (X.keeps F2.keep) (T.keeps F2.keep) ?h1 ?h2 hnl ?_
  case h1 => ((try simp only [depth_under_make, depth_under_kw, depth_in1, depth_deeper, depth_caller]); (try dsimp only [Ar]); (first | lia | omega))
  case h2 => ((try simp only [units_in1, units_deeper, Around.mark_units, units_caller]); (try dsimp only [Ar]); (first | lia | omega))
  intro h' tk' r t' hk hr
  have F3 := F2.keeps hk
  have N3 := N2.keeps hk
  clear F2 N2
  repeat' (first | (dsimp only; walk1) | walk1 | refine zP _ ?_ | refine zR0 _ _ ?_ | refine zP0 _ ?_ | refine zC _ ?_ | refine zR _ _ ?_ | refine zB _ ?_ | refine zE _ ?_ | fail "")
  rename Fr _ _ _ _ => F9
  rename News _ _ _ _ => N9
  exact ret _ _ _ _ hr (by rw [ep]; exact F9) N9
theorem turn3e {w : World} {dp un : Nat} {fr : Option (List Env)} {gd : Option (List Code)} {s : Shared} {Q : Flow → Shared → Prop} {mg mb : Str → Option Value} {h₀ : Heap} {L : Addr} {m : Str → Option Value} {rz : List (Addr × Obj)} {tm tt tw th : Tok} {nm wv : Str} {hd : Int}
   (X : (Mine.hd.heap_39 w.params).In h₀) (T : TopRead Mine.hd.view_39 Mine.hd.lz mg mb h₀) (hroom : dp + 12 < recursionLimit) (hun : un + 120 < cLine)
   (F : Fr h₀ L s.heap m) (N : News h₀ L s.heap rz) (hm : m (Str.ofString "told") = some (.str nm tt)) (hm1 : m (Str.ofString "name") = some (.str nm tm)) (hm3 : m (Str.ofString "written") = some (.str wv tw)) (hm2 : m (Str.ofString "hand") = some (.int hd th)) (hnl : nm.length ≤ 4) (hh : 0 ≤ hd ∧ hd < 5) (hw : wv.cps.toList = writF hd nm.cps.toList)
   (ret : ∀ h' tk, Fr h₀ L h' m → News h₀ L h' rz →
     wpAny (model prog w) (Ar dp un fr gd) (execs (body7.1.drop 6) (lawEnv L)) Q (fun _ _ => False) { s with heap := h', toks := tk }) :
   wpAny (model prog w) (Ar dp un fr gd) (execs (body7.1.drop 5) (lawEnv L)) Q (fun _ _ => False) s := by
  rw [be5]
  have ep := pin4 hm hm1 hm3 hm2
  rw [ep] at F
  dsimp only [tb5]
  generalize hB : body7.1.drop 6 = B at *
  repeat' (first | (dsimp only; walk1) | walk1 | refine zP _ ?_ | refine zR0 _ _ ?_ | refine zP0 _ ?_ | refine zC _ ?_ | refine zR _ _ ?_ | refine zB _ ?_ | refine zE _ ?_ | fail "")
  · exfalso; rename (nm != nm) = true => q; rw [bne_self_eq_false] at q; cases q
  rename Fr _ _ _ _ => F2
  rename News _ _ _ _ => N2
  refine unstop ?_
  refine' spelled_sum (X.keeps F2.keep) (T.keeps F2.keep) ?h1 ?h2 hnl hh ?_
  case h1 => ((try simp only [depth_under_make, depth_under_kw, depth_in1, depth_deeper, depth_caller]); (try dsimp only [Ar]); (first | lia | omega))
  case h2 => ((try simp only [units_in1, units_deeper, Around.mark_units, units_caller]); (try dsimp only [Ar]); (first | lia | omega))
  intro h' tk' r t' hk hr
  have hr' : r = wv := str_ext (by rw [hr, hw])
  subst hr'
  have F3 := F2.keeps hk
  have N3 := N2.keeps hk
  clear F2 N2
  repeat' (first | (dsimp only; walk1) | walk1 | refine zP _ ?_ | refine zR0 _ _ ?_ | refine zP0 _ ?_ | refine zC _ ?_ | refine zR _ _ ?_ | refine zB _ ?_ | refine zE _ ?_ | fail "")
  · exfalso; rename (r != r) = true => q; rw [bne_self_eq_false] at q; cases q
  rename Fr _ _ _ _ => F9
  rename News _ _ _ _ => N9
  exact ret _ _ (by rw [ep]; exact F9) N9
theorem allLt_all {d : Addr} : ∀ {l : List (Addr × Obj)}, AllLt d l → ∀ p ∈ l, @LT.lt Nat _ p.1 d
  | [], _, _, hp => (nomatch hp)
  | _ :: _, h, _, hp => by
    rcases List.mem_cons.mp hp with rfl | hp
    · exact h.1
    · exact allLt_all h.2 _ hp
theorem turn3f {w : World} {dp un : Nat} {fr : Option (List Env)} {gd : Option (List Code)} {s : Shared} {Q : Flow → Shared → Prop} {mg mb : Str → Option Value} {h₀ : Heap} {L it : Addr} {m : Str → Option Value} {its : List Value} {ci : Nat} {rz : List (Addr × Obj)} {tn tw : Tok} {n : Int} {wv : Str} {o1 o2 : Obj}
   (X : (Mine.hd.heap_39 w.params).In h₀) (T : TopRead Mine.hd.view_39 Mine.hd.lz mg mb h₀) (hroom : dp + 12 < recursionLimit) (hun : un + 120 < cLine)
   (F : Fr h₀ L s.heap m) (N : News h₀ L s.heap ((it, listOf its.toArray ci) :: (L + 1, o1) :: (L + 2, o2) :: rz)) (d1 : o1.data = .cell (some (.int n tn))) (d2 : o2.data = .cell (some (.ref it))) (q3 : @Ne Nat it (L + 1)) (q4 : @Ne Nat it (L + 2)) (hw : ∀ p ∈ rz, p.1 ≠ it) (hil : its.length ≤ 4) (hm3 : m (Str.ofString "written") = some (.str wv tw))
   (ret : ∀ h' tk a c t1 t2, Fr h₀ L h' m → News h₀ L h' ((a, tupOf [.int n t1, .str wv t2] c) :: (it, listOf (its ++ [Value.ref a]).toArray (ci + 1)) :: (L + 1, o1) :: (L + 2, o2) :: rz) → @LT.lt Nat _ it a → (∀ p ∈ rz, @LT.lt Nat _ p.1 a) → Q .next { s with heap := h', toks := tk }) :
   wpAny (model prog w) (Ar dp un fr gd) (execs (body7.1.drop 6) (lawEnv L)) Q (fun _ _ => False) s := by
  rw [be6]
  have ep := pin hm3
  rw [ep] at F
  show wpAny _ _ (execs [tb6.1] (lawEnv L)) _ _ _
  dsimp only [tb6]
  repeat' (first | (dsimp only; walk1) | walk1 | refine zP _ ?_ | refine zR0 _ _ ?_ | refine zP0 _ ?_ | refine zC _ ?_ | refine zR _ _ ?_ | refine zB _ ?_ | refine zE _ ?_ | fail "")
  rename Fr _ _ _ _ => F9
  rename News _ _ _ _ => N9
  rename @LT.lt Nat _ it _ ∧ _ => l9
  exact ret _ _ _ _ _ _ (by rw [ep]; exact F9) N9 l9.1 (allLt_all l9.2.2.2)

end P19
section P20


theorem Off.trans {xs ys : List Str} {a b c : Str → Option Value} (h1 : Off ys a b) (h2 : Off xs b c) (hs : ∀ y ∈ ys, y ∈ xs) : Off xs a c := fun z hz => (h1 z fun q => hz (hs z q)).trans (h2 z hz)
structure ItemsIn (hd : Int) (cs : List Int) (tz : List (Addr × Obj)) (its : List Value) (i : Nat) : Prop where
  len : its.length = i
  it : ∀ j, j < i → ∃ (a : Addr) (n : Int) (tn : Tok) (wv : Str) (tw : Tok) (c : Nat), cs[6 + j]? = some n ∧ its[j]? = some (Value.ref a) ∧ wv.cps.toList = writF hd (nameL j n) ∧ (a, tupOf [Value.int n tn, Value.str wv tw] c) ∈ tz
theorem ItemsIn.snoc {hd : Int} {cs : List Int} {tz tz' : List (Addr × Obj)} {its : List Value} {i : Nat} (W : ItemsIn hd cs tz its i) (hs : ∀ p ∈ tz, p ∈ tz') {a : Addr} {n : Int} {tn tw : Tok} {wv : Str} {c : Nat} (hn : cs[6 + i]? = some n) (hw : wv.cps.toList = writF hd (nameL i n)) (hm : (a, tupOf [Value.int n tn, Value.str wv tw] c) ∈ tz') : ItemsIn hd cs tz' (its ++ [Value.ref a]) (i + 1) where
  len := by simp [W.len]
  it := fun j hj => by
    rcases Nat.lt_or_ge j i with q | q
    · obtain ⟨b, n', t1, w', t2, d, h1, h2, h3, h4⟩ := W.it j q
      exact ⟨b, n', t1, w', t2, d, h1, by rw [List.getElem?_append_left (by rw [W.len]; exact q)]; exact h2, h3, hs _ h4⟩
    · obtain rfl : j = i := by (first | lia | omega)
      exact ⟨a, n, tn, wv, tw, c, hn, by rw [List.getElem?_append_right (by rw [W.len]; exact Nat.le_refl _), W.len, Nat.sub_self]; rfl, hw, hm⟩
theorem nameL_len (i : Nat) (n : Int) : (nameL i n).length ≤ 4 := by
  have a1 := Int.fmod_nonneg_of_pos (Int.fdiv n 729) (show (0 : Int) < 4 by decide)
  have a2 := Int.fmod_lt_of_pos (Int.fdiv n 729) (show (0 : Int) < 4 by decide)
  unfold nameL
  simp only [List.length_append, List.length_map, List.length_range, List.length_cons, List.length_nil]
  (first | lia | omega)
theorem turn3 {w : World} {dp un : Nat} {fr : Option (List Env)} {gd : Option (List Code)} {s : Shared} {Q : Flow → Shared → Prop} {mg mb : Str → Option Value} {h₀ : Heap} {L I cl it : Addr} {oI : Obj} {m : Str → Option Value} {rz : List (Addr × Obj)} {vs its : List Value} {c ci : Nat} {cs : List Int} {o1 o2 : Obj} {v1 : Option Value} {hd : Int} {th tk : Tok} {i : Nat} {n : Int}
   (X : (Mine.hd.heap_39 w.params).In h₀) (T : TopRead Mine.hd.view_39 Mine.hd.lz mg mb h₀) (hroom : dp + 12 < recursionLimit) (hun : un + 120 < cLine)
   (F : Fr h₀ L s.heap m) (N : News h₀ L s.heap ((I, oI) :: (it, listOf its.toArray ci) :: (cl, listOf vs.toArray c) :: (L + 1, o1) :: (L + 2, o2) :: rz)) (d1 : o1.data = .cell v1) (d2 : o2.data = .cell (some (.ref it))) (hz : ∀ p ∈ rz, p.1 ≠ L + 1) (hw : ∀ p ∈ rz, p.1 ≠ it)
   (q1 : @LT.lt Nat _ (L + 7) cl) (q2 : @LT.lt Nat _ cl it) (q3 : @LT.lt Nat _ it I) (hm : m (Str.ofString "cells") = some (.ref cl)) (hm2 : m (Str.ofString "hand") = some (.int hd th)) (hm3 : m (Str.ofString "k") = some (.int i tk)) (hi : i < 4) (hh : 0 ≤ hd ∧ hd < 5) (hv : IntsAre vs cs) (hc : cs.length = 10) (hn : cs[6 + i]? = some n) (hil : its.length = i)
   (ret : ∀ h' tk m' a c' o1' v1' tn tw wv, Fr h₀ L h' m' → Off [Str.ofString "name", Str.ofString "ending", Str.ofString "told", Str.ofString "written"] m' m → o1'.data = .cell v1' → wv.cps.toList = writF hd (nameL i n) → @LT.lt Nat _ I a → News h₀ L h' ((a, tupOf [Value.int n tn, Value.str wv tw] c') :: (it, listOf (its ++ [Value.ref a]).toArray (ci + 1)) :: (L + 1, o1') :: (L + 2, o2) :: (I, oI) :: (cl, listOf vs.toArray c) :: rz) → Q .next { s with heap := h', toks := tk }) :
   wpAny (model prog w) (Ar dp un fr gd) (execs body7.1 (lawEnv L)) Q (fun _ _ => False) s := by
  refine turn3a (oc := o1) (o2 := o2) X T hroom hun F N d1 (fun p hp => ?_) q1 q2 q3 hm hm3 hi hv hc hn ?_
  · revert hp; revert p
    refine consC ?_ ?_
    · exact Nat.succ_ne_self (L + 1)
    · intro p hp
      exact hz p hp
  intro h1 k1 m1 o1' tn nm tm F1 O1 p1 hnm d1' N1
  have hnl : nm.length ≤ 4 := by rw [len_eq, hnm]; exact nameL_len i n
  refine turn3b (rz := (I, oI) :: (it, listOf its.toArray ci) :: (cl, listOf vs.toArray c) :: (L + 2, o2) :: rz) X T hroom hun F1 (newsApp N1 fun p hp => ?_) d1' ?_
  · revert hp; revert p
    refine consC ?_ ?_
    · k_mem
    refine consC ?_ ?_
    · k_mem
    refine consC ?_ ?_
    · k_mem
    refine consC ?_ ?_
    · k_mem
    · intro p hp
      exact .tail _ (.tail _ (.tail _ (.tail _ hp)))
  intro h2 k2 te F2 N2
  refine turn3c (n := n) (nm := nm) X T hroom hun F2 N2 p1 rfl hnl ?_
  intro h3 k3 tt F3 N3
  refine turn3d (nm := nm) (hd := hd) X T hroom hun F3 N3 rfl ((O1.at rfl).trans hm2) hnl ?_
  intro h4 k4 wv tw hwv F4 N4
  refine turn3e (nm := nm) (wv := wv) (hd := hd) X T hroom hun F4 N4 rfl p1 rfl ((O1.at rfl).trans hm2) hnl hh hwv ?_
  intro h5 k5 F5 N5
  refine turn3f (it := it) (its := its) (ci := ci) (rz := (I, oI) :: (cl, listOf vs.toArray c) :: rz) (o1 := o1') (o2 := o2) X T hroom hun F5 (newsApp N5 fun p hp => ?_) d1' d2 (Nat.ne_of_gt (by (first | lia | omega))) (Nat.ne_of_gt (by (first | lia | omega))) (fun p hp => ?_) (by (first | lia | omega)) rfl ?_
  · revert hp; revert p
    refine consC ?_ ?_
    · k_mem
    refine consC ?_ ?_
    · k_mem
    refine consC ?_ ?_
    · k_mem
    refine consC ?_ ?_
    · k_mem
    refine consC ?_ ?_
    · k_mem
    · intro p hp
      exact .tail _ (.tail _ (.tail _ (.tail _ (.tail _ hp))))
  · revert hp; revert p
    refine consC ?_ ?_
    · exact Nat.ne_of_gt q3
    refine consC ?_ ?_
    · exact Nat.ne_of_lt q2
    · intro p hp
      exact hw p hp
  intro h6 k6 a c6 t1 t2 F6 N6 l6 l7
  refine ret _ _ _ a c6 o1' _ t1 t2 wv F6 ?_ d1' (by rw [hwv, hnm]) (l7 _ (.head _)) N6
  exact Off.set (by decide) (Off.set (by decide) (Off.set (by decide) (Off.sub (by decide) O1)))
theorem seg3 {w : World} {dp un : Nat} {fr : Option (List Env)} {gd : Option (List Code)} {s : Shared} {Q : Flow → Shared → Prop} {mg mb : Str → Option Value} {h₀ : Heap} {L cl : Addr} {m : Str → Option Value} {nz : List (Addr × Obj)} {vs : List Value} {c : Nat} {cs : List Int} {o1 o2 : Obj} {v1 v2 : Option Value} {hd : Int} {th : Tok}
   (X : (Mine.hd.heap_39 w.params).In h₀) (T : TopRead Mine.hd.view_39 Mine.hd.lz mg mb h₀) (hroom : dp + 12 < recursionLimit) (hun : un + 120 < cLine)
   (F : Fr h₀ L s.heap m) (N : News h₀ L s.heap ((cl, listOf vs.toArray c) :: (L + 1, o1) :: (L + 2, o2) :: nz)) (d1 : o1.data = .cell v1) (d2 : o2.data = .cell v2) (hz : ∀ p ∈ nz, p.1 ≠ L + 1) (hy : ∀ p ∈ nz, p.1 ≠ L + 2) (q1 : @LT.lt Nat _ (L + 7) cl) (hm : m (Str.ofString "cells") = some (.ref cl)) (hm2 : m (Str.ofString "hand") = some (.int hd th)) (hh : 0 ≤ hd ∧ hd < 5) (hv : IntsAre vs cs) (hc : cs.length = 10)
   (ret : ∀ h' tk m' it its ci o1' v1' o2' tz, Fr h₀ L h' m' → Off [Str.ofString "k", Str.ofString "name", Str.ofString "ending", Str.ofString "told", Str.ofString "written"] m' m → News h₀ L h' ((L + 1, o1') :: (L + 2, o2') :: (tz ++ nz)) → o1'.data = .cell v1' → o2'.data = .cell (some (.ref it)) → (∀ p ∈ tz, @LT.lt Nat _ (L + 7) p.1) → (it, listOf its.toArray ci) ∈ tz → ItemsIn hd cs tz its 4 →
     wpAny (model prog w) (Ar dp un fr gd) (execs (lawBody.drop 8) (lawEnv L)) Q (fun _ _ => False) { s with heap := h', toks := tk }) :
   wpAny (model prog w) (Ar dp un fr gd) (execs (lawBody.drop 6) (lawEnv L)) Q (fun _ _ => False) s := by
  rw [bd6, bd7]
  dsimp only [st6, st7]
  generalize hB : lawBody.drop 8 = B at *
  have hne1 : @Ne Nat cl (L + 1) := by (first | lia | omega)
  have hne2 : @Ne Nat cl (L + 2) := by (first | lia | omega)
  repeat' (first | (dsimp only; walk1) | walk1 | refine zP _ ?_ | refine zR0 _ _ ?_ | refine zP0 _ ?_ | refine zC _ ?_ | refine zR _ _ ?_ | refine zB _ ?_ | refine zE _ ?_ | fail "")
  rename Fr _ _ _ _ => F1
  rename News _ _ _ _ => N1
  rename IsRange _ _ _ _ _ _ _ _ => R1
  rename @LT.lt Nat _ cl _ ∧ _ => l9
  rename_i it _ _ o2' _ _ d2' _ _ _ _ _ _
  have hA3 := l9.2.2.2
  have hitI := Heap.lt_size (N1 _ (.head _)).1
  refine for_range (n := 4) (fun i m' n' => Off [Str.ofString "k", Str.ofString "name", Str.ofString "ending", Str.ofString "told", Str.ofString "written"] m' m ∧ ∃ (its : List Value) (ci : Nat) (o1 : Obj) (v1 : Option Value) (tz : List (Addr × Obj)), n' = (it, listOf its.toArray ci) :: (cl, listOf vs.toArray c) :: (L + 1, o1) :: (L + 2, o2') :: (tz ++ nz) ∧ o1.data = .cell v1 ∧ (∀ p ∈ tz, @LT.lt Nat _ it p.1) ∧ ItemsIn hd cs tz its i) rfl F1 N1 R1 (small_one (by l_bnd) (by l_bnd) (by l_bnd) (by l_bnd)) (rangeSize_nat _ _) ⟨Off.refl, [], 0, _, _, [], rfl, d1, fun _ hp => (nomatch hp), ⟨rfl, fun j hj => absurd hj (Nat.not_lt_zero j)⟩⟩ ?_ ?_
  · intro I i t m₁ news₁ h tk oI hI hi hJ F2 N2 hn2
    refine hideL fun zQ zP zC zR zB => ?_
    obtain ⟨hoff, its, ci, o1, v1, tz, rfl, d1, htz, hW⟩ := hJ
    clear F1 N1
    obtain ⟨n, hn⟩ : ∃ n, cs[6 + i]? = some n := ⟨cs[6 + i], by rw [List.getElem?_eq_getElem]⟩
    have e0 : (0 : Int) + (i : Int) * 1 = (i : Int) := by (first | lia | omega)
    have hq1 := neN (hn2 _ (.head _))
    dsimp only at hq1
    have hiI : @LT.lt Nat _ it I := by rw [hI]; exact hitI
    rw [e0]
    walk1
    walk1
    rename Fr _ _ _ _ => F3
    rename News _ _ _ _ => N3
    clear F2 N2
    refine turn3 (m := fun y => if y = Str.ofString "k" then some (Value.int i t) else m₁ y) (I := I) (oI := oI) (it := it) (its := its) (rz := tz ++ nz) (n := n) X T hroom hun F3 N3 d1 d2' (fun p hp => ?_) (fun p hp => ?_) q1 l9.1 hiI ((hoff.at rfl).trans hm) ((hoff.at rfl).trans hm2) rfl hi hh hv hc hn hW.len ?_
    · rcases List.mem_append.mp hp with hp | hp
      · exact Nat.ne_of_gt (Nat.lt_trans (Nat.lt_trans (by (first | lia | omega)) l9.1) (htz p hp))
      · exact hz p hp
    · rcases List.mem_append.mp hp with hp | hp
      · exact Nat.ne_of_gt (htz p hp)
      · exact allLt_ne hA3 p hp
    intro h' tk' m' a c' o1' v1' tn tw wv F4 O4 d1'' hwv hIa N4
    all_goals (try (first | refine zP _ ?_ | dsimp only [LPost] | fail ""))
    refine LEnd.intro ((it, listOf (its ++ [Value.ref a]).toArray (ci + 1)) :: (cl, listOf vs.toArray c) :: (L + 1, o1') :: (L + 2, o2') :: (a, tupOf [Value.int n tn, Value.str wv tw] c') :: (tz ++ nz)) F4 N4 (by k_mem) (fun p hp => ?_) (fun p hp => ?_) ⟨?_, _, _, _, _, (a, tupOf [Value.int n tn, Value.str wv tw] c') :: tz, rfl, d1'', fun p hp => ?_, hW.snoc (fun p hp => .tail _ hp) hn hwv (.head _)⟩
    · revert hp; revert p
      refine consC ?_ ?_
      · k_mem
      refine consC ?_ ?_
      · k_mem
      refine consC ?_ ?_
      · k_mem
      refine consC ?_ ?_
      · k_mem
      refine consC ?_ ?_
      · k_mem
      · intro p hp
        exact .tail _ (.tail _ (.tail _ (.tail _ (.tail _ (.tail _ hp)))))
    · revert hp; revert p
      refine consC ?_ ?_
      · exact hq1
      refine consC ?_ ?_
      · exact hn2 _ (.tail _ (.head _))
      refine consC ?_ ?_
      · exact hn2 (L + 1, o1) (.tail _ (.tail _ (.head _)))
      refine consC ?_ ?_
      · exact hn2 _ (.tail _ (.tail _ (.tail _ (.head _))))
      refine consC ?_ ?_
      · exact Nat.ne_of_gt hIa
      · intro p hp
        exact hn2 p (.tail _ (.tail _ (.tail _ (.tail _ hp))))
    · exact Off.trans O4 (Off.set (by decide) hoff) (by decide)
    · revert hp; revert p
      refine consC ?_ ?_
      · exact Nat.lt_trans hiI hIa
      · intro p hp
        exact htz p hp
  · intro m₁ news₁ h tk hJ F2 N2
    obtain ⟨hoff, its, ci, o1, v1, tz, rfl, d1, htz, hW⟩ := hJ
    clear F1 N1
    repeat' (first | (dsimp only; walk1) | walk1 | refine zP _ ?_ | refine zR0 _ _ ?_ | refine zP0 _ ?_ | refine zC _ ?_ | refine zR _ _ ?_ | refine zB _ ?_ | refine zE _ ?_ | fail "")
    try dsimp only
    refine ret _ _ _ it its ci o1 v1 o2' ((it, listOf its.toArray ci) :: tz) F2 hoff (newsApp N2 (fun p hp => ?_)) d1 d2' (fun p hp => ?_) (.head _) ⟨hW.len, fun j hj => ?_⟩
    · revert hp; revert p
      refine consC ?_ ?_
      · k_mem
      refine consC ?_ ?_
      · k_mem
      refine consC ?_ ?_
      · k_mem
      · intro p hp
        exact .tail _ (.tail _ (.tail _ (.tail _ hp)))
    · revert hp; revert p
      refine consC ?_ ?_
      · exact Nat.lt_trans q1 l9.1
      · intro p hp
        exact Nat.lt_trans (Nat.lt_trans q1 l9.1) (htz p hp)
    · obtain ⟨b, n', t1, w', t2, d, h1, h2, h3, h4⟩ := hW.it j hj
      exact ⟨b, n', t1, w', t2, d, h1, h2, h3, .tail _ h4⟩

end P20
section P21


section
variable {prg : Program} {w : World} {A : Around} {E : Value → Shared → Prop} {s : Shared} {h₀ : Heap} {env : Env} {m : Str → Option Value} {news : List (Addr × Obj)} {R : Result → Shared → Prop}
theorem comp_newG {elt target iter : PySem.Expr} {ifs : List PySem.Expr} {gs : List Comprehension} {scope : Scope} {pos : Pos} {cl : List (Str × Addr)} {tail : Value → Env → Sem Unit} {o : Obj} {fp : List Addr} {n : Nat} {P : Nat → Value → List (Addr × Obj) → Prop} {St : Nat → Heap → Prop} {L : Addr} (Post : Value → Addr → Result → Shared → Prop) (own : Option Str)
    (J : Addr → Addr → Nat → (Str → Option Value) → List (Addr × Obj) → Prop)
    (hturn : ∀ it acc cenv, compTurn (.ListComp elt (⟨target, iter, ifs, 0⟩ :: gs) scope pos) 0 it acc cenv = compForm iter.pos target it ifs cenv (tail acc cenv) (.compLoop (.ListComp elt (⟨target, iter, ifs, 0⟩ :: gs) scope pos) 0 it acc cenv))
    (hpc : ∀ h, pushCells h scope.names = withOwn own h) (hcf : ∀ C, cellsFrom (C + 1) scope.names cl = ownC own C cl)
    (W : Iter prg w A target s.heap.objs.size fp n P St) (hst : ∀ h, (∀ b ob, (s.heap.push o).get? b = some ob → h.get? b = some ob) → St 0 h)
    (F : Fr h₀ L s.heap m) (N : News h₀ L s.heap news)
    (hfp : ∀ b ∈ fp, b ≠ s.heap.objs.size → (∃ o, s.heap.get? b = some o ∧ b ∉ news.map (·.1)) ∨ (∃ o, ∀ D C i m' n', J D C i m' n' → (b, o) ∈ n'))
    (hj : ∀ D C, J D C 0 (fun _ => none) ((D, listOf #[] 0) :: (ownL own C ++ news)))
    (turn : ∀ g I D C i v ex m₁ news₁ h tk oI, (∀ b o, h₀.get? b = some o → g.get? b = some o) → (∀ b o, s.heap.get? b = some o → b ∉ news.map (·.1) → g.get? b = some o) → (∀ p ∈ news, p.1 < I) → I < D → D < C →
      i < n → P i v ex → J D C i m₁ news₁ → Fr g C h m₁ → News g C h ((I, oI) :: (ex ++ news₁)) → (∀ p ∈ news₁, p.1 ≠ I) →
      wpAny (model prg w) A (assign target (compEnvC scope (ownC own C cl) C env) v) (fun _ s₂ => tested (prg := prg) (w := w) A (compEnvC scope (ownC own C cl) C env) ifs (tail (.ref D) (compEnvC scope (ownC own C cl) C env)) (LEnd g C I oI (J D C (i + 1)) { s with heap := h, toks := tk }) s₂) (fun _ _ => False) { s with heap := h, toks := tk })
    (done : ∀ D C m₁ news₁ h tk mC, J D C n m₁ news₁ → h.Ns C mC → @Ne Nat C L → h₀.get? C = none → (∀ p ∈ news₁, p.1 ≠ C) → Fr h₀ L h m → News h₀ L h news₁ → Post (.ref D) C (.ok .next) { s with heap := h, toks := tk }) :
    wpAny (model prg w) A (newList []) (fun acc s₃ => wpAny (model prg w) A (newFunctionEnv scope env.globals cl [] env.qual none .none (some env)) (fun cenv s₄ =>
      codeAny (model prg w) A (.compStart (.ListComp elt (⟨target, iter, ifs, 0⟩ :: gs) scope pos) 0 (.ref s.heap.objs.size) acc { cenv with scope := relabel scope env }) (Post acc cenv.locals) s₄) E s₃) E { s with heap := s.heap.push o } := by
  refine wpAny_newObj_type (compEnv_new hpc hcf ?_)
  try dsimp only
  have sz1 : (s.heap.push o).objs.size = s.heap.objs.size + 1 := Heap.size_push ..
  have sz2 : ((s.heap.push o).push { cls := .type "list", dict := none, data := .seq ([] : List Value).toArray }).objs.size = s.heap.objs.size + 1 + 1 := by rw [Heap.size_push, sz1]
  generalize hH : ((s.heap.push o).push { cls := .type "list", dict := none, data := .seq ([] : List Value).toArray }) = H at *
  rw [sz2, sz1]
  generalize hI : s.heap.objs.size = I at *
  generalize hD : I + 1 = D at *
  generalize hC : D + 1 = C at *
  have kI : @Eq Nat s.heap.objs.size I := hI
  have kD : @Eq Nat (I + 1) D := hD
  have kC : @Eq Nat (D + 1) C := hC
  have hHD : H.get? D = some (listOf #[] 0) := by rw [← hH, ← sz1]; exact Heap.get?_push_size _ rfl
  have hHo : ∀ b ob, s.heap.get? b = some ob → H.get? b = some ob := fun b ob e => by rw [← hH]; exact Heap.get?_push_of_some _ (Heap.get?_push_of_some _ e)
  have hHp : ∀ b ob, (s.heap.push o).get? b = some ob → H.get? b = some ob := fun b ob e => by rw [← hH]; exact Heap.get?_push_of_some _ e
  have hHC : (H.push { cls := .type "dict", data := .dict #[] }).Ns C (fun _ => none) := by rw [← sz2]; exact Heap.Ns.new H (.type "dict")
  -- the heap with the frame and the cell
  obtain ⟨H₂, hH₂, hns, hup, hcell⟩ : ∃ H₂ : Heap, withOwn own (H.push { cls := .type "dict", data := .dict #[] }) = H₂ ∧ H₂.Ns C (fun _ => none) ∧ (∀ b ob, H.get? b = some ob → H₂.get? b = some ob) ∧ (∀ p ∈ ownL own C, H₂.get? p.1 = some p.2) := by
    cases own with
    | none => exact ⟨_, rfl, hHC, fun b ob e => Heap.get?_push_of_some _ e, fun _ hp => (nomatch hp)⟩
    | some x =>
      refine ⟨_, rfl, hHC.keeps fun b ob e => Heap.get?_push_of_some _ e, fun b ob e => Heap.get?_push_of_some _ (Heap.get?_push_of_some _ e), fun p hp => ?_⟩
      rw [List.mem_singleton.mp hp]
      have : (H.push { cls := .type "dict", data := .dict #[] }).objs.size = C + 1 := by rw [Heap.size_push, sz2]
      show ((H.push { cls := .type "dict", data := .dict #[] }).push (cellObj none)).get? (C + 1) = _
      rw [← this]; exact Heap.get?_push_size _ rfl
  rw [hH₂]
  have nm : ∀ b ob, h₀.get? b = some ob → b ∉ news.map (·.1) := fun b ob e q => by
    obtain ⟨p, hp, rfl⟩ := List.mem_map.mp q
    rw [(N p hp).2.2] at e; cases e
  have st : ∀ b ob, h₀.get? b = some ob → (hideAll s.heap (news.map (·.1))).get? b = some ob := fun b ob e => hideAll_get _ (F.keep b ob e) (nm b ob e)
  have st' : ∀ b ob, s.heap.get? b = some ob → b ∉ news.map (·.1) → (hideAll s.heap (news.map (·.1))).get? b = some ob := fun b ob e q => hideAll_get _ e q
  have gsz : @Eq Nat (hideAll s.heap (news.map (·.1))).objs.size I := by rw [hideAll_size]; exact hI
  have gno : ∀ a, I ≤ a → (hideAll s.heap (news.map (·.1))).get? a = none := fun a ha => by
    cases q : (hideAll s.heap (news.map (·.1))).get? a with
    | none => rfl
    | some ob => exact absurd ha (Nat.not_le.mpr (gsz ▸ Heap.lt_size q))
  have nlt : ∀ p ∈ news, p.1 < I := fun p hp => kI ▸ Heap.lt_size (N p hp).1
  have hID : I < D := Nat.lt_of_lt_of_eq (Nat.lt_succ_self I) kD
  have hDC : D < C := Nat.lt_of_lt_of_eq (Nat.lt_succ_self D) kC
  have hIC : I < C := Nat.lt_trans hID hDC
  have FC : Fr (hideAll s.heap (news.map (·.1))) C H₂ (fun _ => none) := ⟨hns, fun b ob e => hup _ _ (hHo b ob (of_hideAll _ e)), by rw [gsz]; exact Nat.le_of_lt hIC⟩
  have NC : News (hideAll s.heap (news.map (·.1))) C H₂ ((D, listOf #[] 0) :: (ownL own C ++ news)) := by
    intro p hp
    rcases List.mem_cons.mp hp with rfl | hp
    · exact ⟨hup _ _ hHD, Nat.ne_of_lt hDC, gno _ (Nat.le_of_lt hID)⟩
    · rcases List.mem_append.mp hp with hp | hp
      · cases own with
        | none => exact (nomatch hp)
        | some x =>
          refine ⟨hcell p hp, ?_, gno _ ?_⟩ <;> rw [List.mem_singleton.mp hp]
          · exact Nat.succ_ne_self C
          · exact Nat.le_succ_of_le (Nat.le_of_lt hIC)
      · exact ⟨hup _ _ (hHo _ _ (N p hp).1), Nat.ne_of_lt (Nat.lt_trans (nlt p hp) hIC), hideAll_none _ (List.mem_map_of_mem hp)⟩
  have nI : ∀ p ∈ (D, listOf #[] 0) :: (ownL own C ++ news), p.1 ≠ I := by
    intro p hp
    rcases List.mem_cons.mp hp with rfl | hp
    · exact Nat.ne_of_gt hID
    · rcases List.mem_append.mp hp with hp | hp
      · cases own with
        | none => exact (nomatch hp)
        | some x => rw [List.mem_singleton.mp hp]; exact Nat.ne_of_gt (Nat.lt_succ_of_lt hIC)
      · exact Nat.ne_of_lt (nlt p hp)
  show codeAny (model prg w) A (.compStart (.ListComp elt (⟨target, iter, ifs, 0⟩ :: gs) scope pos) 0 (.ref I) (.ref D) (compEnvC scope (ownC own C cl) C env)) _ _
  have hst₂ : St 0 H₂ := hst H₂ fun b ob e => hup _ _ (hHp b ob e)
  refine comp_start (g := ⟨target, iter, ifs, 0⟩) rfl rfl (fun Q E hq => W.self 0 _ Q E hst₂ hq) ?_
  refine comp_walk (env := compEnvC scope (ownC own C cl) C env) (h₀ := hideAll s.heap (news.map (·.1))) (hturn _ _ _) W (J D C) (Nat.ne_of_gt hIC) (gno _ (Nat.le_refl _)) (fun b hb hbI => ?_) FC NC nI hst₂ (hj D C)
    (fun i v ex m₁ news₁ h tk oI hi hP hJ F' N' hn' => turn _ I D C i v ex m₁ news₁ h tk oI st st' nlt hID hDC hi hP hJ F' N' hn') (fun m₁ news₁ h tk hJ F' N' => ?_)
  · rcases hfp b hb hbI with ⟨ob, e, q⟩ | ⟨ob, q⟩
    · exact ⟨ob, fun i m' n' h' _ F' _ => F'.keep _ _ (st' b ob e q)⟩
    · exact ⟨ob, fun i m' n' h' hJ _ N' => N'.get (q D C i m' n' hJ)⟩
  · obtain ⟨oL, es, ep, hL, hr⟩ := id F.ns
    have hLI : L < I := kI ▸ Heap.lt_size hL
    have nL : L ∉ news.map (·.1) := fun q => by
      obtain ⟨p, hp, e⟩ := List.mem_map.mp q
      exact (N p hp).2.1 e
    have hLg := hideAll_get (news.map (·.1)) hL nL
    have hCL : @Ne Nat C L := Nat.ne_of_gt (Nat.lt_trans hLI hIC)
    have hC₀ : h₀.get? C = none := by
      cases q : h₀.get? C with
      | none => rfl
      | some ob => exact absurd (kI ▸ Heap.lt_size (F.keep C ob q) : @LT.lt Nat _ C I) (Nat.not_lt.mpr (Nat.le_of_lt hIC))
    refine done D C m₁ news₁ h tk _ hJ F'.ns hCL hC₀ (fun p hp => (N' p hp).2.1) ⟨⟨oL, es, ep, F'.keep L oL hLg, hr⟩, fun b ob e => F'.keep b ob (st b ob e), F.above⟩ fun p hp => ⟨(N' p hp).1, fun q => ?_, ?_⟩
    · have := (N' p hp).2.2; rw [q, hLg] at this; cases this
    · cases q : h₀.get? p.1 with
      | none => rfl
      | some ob => have := (N' p hp).2.2; rw [st _ _ q] at this; cases this
theorem comp_listGG {target : PySem.Expr} {l : Addr} {items : List Value} {elt iter : PySem.Expr} {ifs : List PySem.Expr} {scope : Scope} {pos : Pos} {cl : List (Str × Addr)} {L : Addr} (Post : Value → Addr → Result → Shared → Prop) (own : Option Str)
    (J : Addr → Addr → Nat → (Str → Option Value) → List (Addr × Obj) → Prop) (hh : A.handled = none)
    (hpc : ∀ h, pushCells h scope.names = withOwn own h) (hcf : ∀ C, cellsFrom (C + 1) scope.names cl = ownC own C cl)
    (F : Fr h₀ L s.heap m) (N : News h₀ L s.heap news)
    (hl : s.heap.IsList l items.toArray)
    (hfp : (∃ o, s.heap.get? l = some o ∧ l ∉ news.map (·.1)) ∨ (∃ o, ∀ D C i m' n', J D C i m' n' → (l, o) ∈ n'))
    (hj : ∀ D C, J D C 0 (fun _ => none) ((D, listOf #[] 0) :: (ownL own C ++ news)))
    (turn : ∀ g I D C i v m₁ news₁ h tk oI, (∀ b o, h₀.get? b = some o → g.get? b = some o) → (∀ b o, s.heap.get? b = some o → b ∉ news.map (·.1) → g.get? b = some o) → (∀ p ∈ news, p.1 < I) → I < D → D < C →
      items[i]? = some v → J D C i m₁ news₁ → Fr g C h m₁ → News g C h ((I, oI) :: news₁) → (∀ p ∈ news₁, p.1 ≠ I) →
      wpAny (model prg w) A (assign target (compEnvC scope (ownC own C cl) C env) v) (fun _ s₂ => turnGoal (prg := prg) (w := w) A (compEnvC scope (ownC own C cl) C env) ifs elt D (LEnd g C I oI (J D C (i + 1)) { s with heap := h, toks := tk }) s₂) (fun _ _ => False) { s with heap := h, toks := tk })
    (done : ∀ D C m₁ news₁ h tk mC, J D C items.length m₁ news₁ → h.Ns C mC → @Ne Nat C L → h₀.get? C = none → (∀ p ∈ news₁, p.1 ≠ C) → Fr h₀ L h m → News h₀ L h news₁ → Post (.ref D) C (.ok .next) { s with heap := h, toks := tk }) :
    wpAny (model prg w) A (pyIter (.ref l)) (fun it s₂ => wpAny (model prg w) A (newList []) (fun acc s₃ => wpAny (model prg w) A (newFunctionEnv scope env.globals cl [] env.qual none .none (some env)) (fun cenv s₄ =>
      codeAny (model prg w) A (.compStart (.ListComp elt [⟨target, iter, ifs, 0⟩] scope pos) 0 it acc { cenv with scope := relabel scope env }) (Post acc cenv.locals) s₄) E s₃) E s₂) E s := by
  refine wpAny_pyIter_list hl ?_
  obtain ⟨ol, hol, hr⟩ := id hl
  have hne : l ≠ s.heap.objs.size := Nat.ne_of_lt (Heap.lt_size hol)
  refine comp_newG (tail := appendTail elt) Post own J (fun _ _ _ => rfl) hpc hcf (Iter.list hh s.heap.objs.size l hne items.toArray) (fun h hk => ⟨⟨_, hk _ _ (Heap.get?_push_size _ rfl), rfl, rfl⟩, hl.at fun o e => hk _ _ (Heap.get?_push_of_some _ e)⟩) F N (fun b hb hbI => ?_) hj (fun g I D C i v ex m₁ news₁ h tk oI a1 a2 a3 a4 a5 hi hP hJ F' N' hn' => ?_) (fun D C m₁ news₁ h tk mC hJ => done D C m₁ news₁ h tk mC (by simpa using hJ))
  · rcases List.mem_cons.mp hb with h | h
    · exact absurd h hbI
    · rw [List.mem_singleton.mp h]; exact hfp
  · obtain ⟨hv, rfl⟩ := hP
    exact wpAny_mono (turn g I D C i v m₁ news₁ h tk oI a1 a2 a3 a4 a5 (by simpa using hv) hJ F' N' hn') (fun _ _ x => turn_tested x) fun _ _ x => x
theorem comp_assign {elt target iter : PySem.Expr} {ifs : List PySem.Expr} {gs : List Comprehension} {y : Str} {py : Pos} {scope : Scope} {cl : List (Str × Addr)} {pos spos : Pos} {Q : Flow → Shared → Prop}
    (hsw : swapsWith (.ListComp elt (⟨target, iter, ifs, 0⟩ :: gs) scope pos) (some (.Name y py)) spos.line env = pure true)
    (hclos : closureFor scope env = pure cl) (hkind : scope.kind = .function) (hnames : ∀ z ∈ scope.names, z.2 = .local → scope.names.lookup z.1 = some .local) (hs : ∀ x, foldedSetIterable iter env x = pure x)
    (h : wpAny (model prg w) A (eval iter env) (fun x s₁ => wpAny (model prg w) A (pyIter x) (fun it s₂ => wpAny (model prg w) A (newList []) (fun acc s₃ => wpAny (model prg w) A (newFunctionEnv scope env.globals cl [] env.qual none .none (some env)) (fun cenv s₄ =>
        codeAny (model prg w) A (.compStart (.ListComp elt (⟨target, iter, ifs, 0⟩ :: gs) scope pos) 0 it acc { cenv with scope := relabel scope env }) (compPost (model prg w) A E (some (assign (.Name y py) env)) (fun _ s' => Q .next s') acc cenv.locals) s₄) E s₃) E s₂) E s₁) E s) :
    wpAny (model prg w) A (exec (.Assign [.Name y py] (.ListComp elt (⟨target, iter, ifs, 0⟩ :: gs) scope pos) spos) env) Q E s := by
  rw [exec_Assign_Name_used _ _ _ _ hsw]
  refine wpAny_bind (wpAny_standAt (wpAny_bind ?_))
  show wpAny _ A (do let _ ← comprehension (.ListComp elt (⟨target, iter, ifs, 0⟩ :: gs) scope pos) scope env _ (newList []) false (eval iter env) (some (assign (.Name y py) env))) _ _ s
  exact wpAny_bind (wpAny_mono (wpAny_comprehension_free (use := some (assign (.Name y py) env)) (Q := fun _ s' => Q .next s') rfl hs hclos hkind hnames h) (fun _ s' hq => wpAny_pure (wpAny_pure hq)) fun _ _ e => e)
theorem post_assign {C : Addr} {L : Addr} {mC : Str → Option Value} {y : Str} {py : Pos} {v : Value} {Q : Shared → Prop} (F : Fr h₀ L s.heap m) (N : News h₀ L s.heap news) (hnC : s.heap.Ns C mC) (hCL : @Ne Nat C L) (hC₀ : h₀.get? C = none) (offC : ∀ p ∈ news, p.1 ≠ C)
    (k : ∀ h' tk, Fr h₀ L h' (fun z => if z = y then some v else m z) → News h₀ L h' news → Q { s with heap := h', toks := tk })
    (hL : env.locals = L) (hy : env.kindOf y = some .local) (hp : (env.scope.kind == .class || (env.scope.kind == .module && env.locals != env.globals)) = false) :
    compPost (model prg w) A E (some (assign (.Name y py) env)) (fun _ s' => Q s') v C (.ok .next) s := by
  subst hL
  show wpAny _ A (assign (.Name y py) env v) _ _ _
  refine wpAny_assign_Name (wpAny_storeName_local hy F.ns (fun h₂ hn₂ hs₂ => ?_) hp)
  have hL₀ : h₀.get? env.locals = none := Heap.get?_none_of_le F.above
  have F₂ : Fr h₀ env.locals h₂ (fun z => if z = y then some v else m z) := ⟨hn₂, fun b o e => hs₂.extBut b o (fun q => by rw [q, hL₀] at e; cases e) (F.keep b o e), F.above⟩
  refine ⟨mC, hnC.sameBut hs₂ hCL, fun h'' hs'' => k h'' _ (F₂.change hs'' hCL hC₀) (fun p hp => ?_)⟩
  have z : h₂.get? p.1 = some p.2 := hs₂.extBut _ _ (N p hp).2.1 (N p hp).1
  exact ⟨hs''.extBut _ _ (offC p hp) z, (N p hp).2⟩
end
noncomputable def secondTail (elt : PySem.Expr) (i2 : PySem.Expr) (gens : List Comprehension) (scope : Scope) (pos : Pos) (acc : Value) (cenv : Env) : Sem Unit := do
  let x ← eval i2 cenv
  standAt i2.pos
  let x ← foldedSetIterable i2 cenv x
  let _ ← runOwn (.compStart (.ListComp elt gens scope pos) 1 (← holding [x] (pyIter x)) acc cenv) cenv
section
variable {prg : Program} {w : World} {A : Around} {E : Value → Shared → Prop} {s : Shared} {h₀ : Heap} {env : Env} {m : Str → Option Value} {news : List (Addr × Obj)} {R : Result → Shared → Prop}
theorem tail_second {elt i2 : PySem.Expr} {gens : List Comprehension} {scope : Scope} {pos : Pos} {acc : Value} {P : Shared → Prop} (hs : ∀ x, foldedSetIterable i2 env x = pure x)
    (h : wpAny (model prg w) A (eval i2 env) (fun x s₁ => wpAny (model prg w) A (pyIter x) (fun it s₂ => codeAny (model prg w) A (.compStart (.ListComp elt gens scope pos) 1 it acc env) (fun r s' => match r with | .ok _ => P s' | .error _ => False) s₂) (fun _ _ => False) s₁) (fun _ _ => False) s) :
    wpAny (model prg w) A (secondTail elt i2 gens scope pos acc env) (fun _ s' => P s') (fun _ _ => False) s := by
  unfold secondTail
  refine wpAny_bind (wpAny_mono h (fun x s₁ h₁ => wpAny_bind (wpAny_standAt (wpAny_bind (wpAny_of_eq (hs x) (wpAny_bind (wpAny_holding (wpAny_mono h₁ (fun it s₂ h₂ => ?_) fun _ _ x => x))))))) fun _ _ x => x)
  refine wpAny_bind (wpAny_runOwn (codeAny_mono h₂ fun r s' hr => ?_))
  cases r with
  | ok f => exact wpAny_pure hr
  | error e => exact hr.elim
/-- the second clause's loop, over an iterator that was just made -/
theorem comp_in {elt : PySem.Expr} {gens : List Comprehension} {scope : Scope} {pos : Pos} {acc : Value} {target iter : PySem.Expr} {ifs : List PySem.Expr} {ip : Pos} {tail : Sem Unit} {o : Obj} {fp : List Addr} {n : Nat} {P : Nat → Value → List (Addr × Obj) → Prop} {St : Nat → Heap → Prop} (J : Nat → (Str → Option Value) → List (Addr × Obj) → Prop)
    (hg : gens[1]? = some ⟨target, iter, ifs, 0⟩)
    (hturn : ∀ it, compTurn (.ListComp elt gens scope pos) 1 it acc env = compForm ip target it ifs env tail (.compLoop (.ListComp elt gens scope pos) 1 it acc env))
    (W : Iter prg w A target s.heap.objs.size fp n P St) (F : Fr h₀ env.locals s.heap m) (N : News h₀ env.locals s.heap news) (hst : St 0 (s.heap.push o))
    (hfp : ∀ b ∈ fp, b ≠ s.heap.objs.size → ∃ o, ∀ i m' n' h', J i m' n' → Fr h₀ env.locals h' m' → News h₀ env.locals h' n' → h'.get? b = some o)
    (hj : J 0 m news)
    (turn : ∀ I i v ex m₁ news₁ h tk oI, I = s.heap.objs.size → i < n → P i v ex → J i m₁ news₁ → Fr h₀ env.locals h m₁ → News h₀ env.locals h ((I, oI) :: (ex ++ news₁)) → (∀ p ∈ news₁, p.1 ≠ I) →
      wpAny (model prg w) A (assign target env v) (fun _ s₂ => tested (prg := prg) (w := w) A env ifs tail (LEnd h₀ env.locals I oI (J (i + 1)) { s with heap := h, toks := tk }) s₂) (fun _ _ => False) { s with heap := h, toks := tk })
    (done : ∀ m₁ news₁ h tk, J n m₁ news₁ → Fr h₀ env.locals h m₁ → News h₀ env.locals h news₁ → R (.ok .next) { s with heap := h, toks := tk }) :
    codeAny (model prg w) A (.compStart (.ListComp elt gens scope pos) 1 (.ref s.heap.objs.size) acc env) R { s with heap := s.heap.push o } := by
  have hI₀ : h₀.get? s.heap.objs.size = none := by
    cases q : h₀.get? s.heap.objs.size with
    | none => rfl
    | some o => exact absurd (Heap.lt_size (F.keep _ _ q)) (Nat.lt_irrefl _)
  refine comp_start hg rfl (fun Q E hq => W.self 0 _ Q E hst hq) ?_
  exact comp_walk (s := { s with heap := s.heap.push o }) (hturn _) W J (Nat.ne_of_lt F.ns.lt) hI₀ hfp (F.push _) (fun p hp => ⟨Heap.get?_push_of_some _ (N p hp).1, (N p hp).2⟩)
    (fun p hp => Nat.ne_of_lt (Heap.lt_size (N p hp).1)) hst hj (fun i v ex m₁ news₁ h tk oI hi hP hj' F' N' hn' => turn _ i v ex m₁ news₁ h tk oI rfl hi hP hj' F' N' hn') done
theorem comp_in_list {elt : PySem.Expr} {g1 : Comprehension} {scope : Scope} {pos : Pos} {D : Addr} {target iter : PySem.Expr} {ifs : List PySem.Expr} {l : Addr} {items : List Value} {c : Nat} (J : Nat → (Str → Option Value) → List (Addr × Obj) → Prop) (hh : A.handled = none)
    (F : Fr h₀ env.locals s.heap m) (N : News h₀ env.locals s.heap news) (hm : ∀ i m' n', J i m' n' → (l, listOf items.toArray c) ∈ n') (hj : J 0 m news)
    (turn : ∀ I i v m₁ news₁ h tk oI, I = s.heap.objs.size → items[i]? = some v → J i m₁ news₁ → Fr h₀ env.locals h m₁ → News h₀ env.locals h ((I, oI) :: news₁) → (∀ p ∈ news₁, p.1 ≠ I) →
      wpAny (model prg w) A (assign target env v) (fun _ s₂ => turnGoal (prg := prg) (w := w) A env ifs elt D (LEnd h₀ env.locals I oI (J (i + 1)) { s with heap := h, toks := tk }) s₂) (fun _ _ => False) { s with heap := h, toks := tk })
    (done : ∀ m₁ news₁ h tk, J items.length m₁ news₁ → Fr h₀ env.locals h m₁ → News h₀ env.locals h news₁ → R (.ok .next) { s with heap := h, toks := tk }) :
    wpAny (model prg w) A (pyIter (.ref l)) (fun it s₂ => codeAny (model prg w) A (.compStart (.ListComp elt [g1, ⟨target, iter, ifs, 0⟩] scope pos) 1 it (.ref D) env) R s₂) E s := by
  have hl := News.isList N (hm 0 m news hj)
  refine wpAny_pyIter_list hl ?_
  obtain ⟨ol, hol, hr⟩ := id hl
  have hne : l ≠ s.heap.objs.size := Nat.ne_of_lt (Heap.lt_size hol)
  refine comp_in (tail := appendTail elt (.ref D) env) J rfl (fun _ => rfl) (Iter.list hh s.heap.objs.size l hne items.toArray) F N ⟨⟨_, Heap.get?_push_size _ rfl, rfl, rfl⟩, hl.push _⟩ (fun b hb hbI => ?_) hj (fun I i v ex m₁ news₁ h tk oI hI hi hP hj' F' N' hn' => ?_) (fun m₁ news₁ h tk hJ => done m₁ news₁ h tk (by simpa using hJ))
  · rcases List.mem_cons.mp hb with h | h
    · exact absurd h hbI
    · rw [List.mem_singleton.mp h]; exact ⟨listOf items.toArray c, fun i m' n' h' hj' _ N' => N'.get (hm i m' n' hj')⟩
  · obtain ⟨hv, rfl⟩ := hP
    exact wpAny_mono (turn I i v m₁ news₁ h tk oI hI (by simpa using hv) hj' F' N' hn') (fun _ _ x => turn_tested x) fun _ _ x => x
theorem comp_in_range {elt : PySem.Expr} {g1 : Comprehension} {scope : Scope} {pos : Pos} {D : Addr} {x : Str} {px : Pos} {iter : PySem.Expr} {ifs : List PySem.Expr} {r : Addr} {a b k : Int} {t u v : Tok} {n : Nat} (J : Nat → (Str → Option Value) → List (Addr × Obj) → Prop) (hh : A.handled = none)
    (F : Fr h₀ env.locals s.heap m) (N : News h₀ env.locals s.heap news) (hr : IsRange s.heap r a b k t u v) (hsmall : Builtin.Range.small a b k = true) (hn : Builtin.Range.rangeSize a b k = (n : Int)) (hj : J 0 m news)
    (turn : ∀ I i t m₁ news₁ h tk oI, I = s.heap.objs.size → i < n → J i m₁ news₁ → Fr h₀ env.locals h m₁ → News h₀ env.locals h ((I, oI) :: news₁) → (∀ p ∈ news₁, p.1 ≠ I) →
      wpAny (model prg w) A (assign (.Name x px) env (.int (a + i * k) t)) (fun _ s₂ => turnGoal (prg := prg) (w := w) A env ifs elt D (LEnd h₀ env.locals I oI (J (i + 1)) { s with heap := h, toks := tk }) s₂) (fun _ _ => False) { s with heap := h, toks := tk })
    (done : ∀ m₁ news₁ h tk, J n m₁ news₁ → Fr h₀ env.locals h m₁ → News h₀ env.locals h news₁ → R (.ok .next) { s with heap := h, toks := tk }) :
    wpAny (model prg w) A (pyIter (.ref r)) (fun it s₂ => codeAny (model prg w) A (.compStart (.ListComp elt [g1, ⟨.Name x px, iter, ifs, 0⟩] scope pos) 1 it (.ref D) env) R s₂) E s := by
  refine wpAny_pyIter_range hr hsmall ?_
  refine comp_in (tail := appendTail elt (.ref D) env) J rfl (fun _ => rfl) (Iter.range hh s.heap.objs.size a k n) F N ?_ (fun b hb hbI => absurd (List.mem_singleton.mp hb) hbI) hj (fun I i v ex m₁ news₁ h tk oI hI hi hP hj' F' N' hn' => ?_) done
  · show (s.heap.push _).get? _ = _
    rw [Heap.get?_push_size _ rfl, hn]
    simp
  · obtain ⟨⟨t, rfl⟩, rfl⟩ := hP
    exact wpAny_mono (turn I i t m₁ news₁ h tk oI hI hi hj' F' N' hn') (fun _ _ x => turn_tested x) fun _ _ x => x
theorem two_turn {elt target iter t2 i2 : PySem.Expr} {ifs2 : List PySem.Expr} {scope : Scope} {pos : Pos} {it acc : Value} {cenv : Env} : compTurn (.ListComp elt [⟨target, iter, [], 0⟩, ⟨t2, i2, ifs2, 0⟩] scope pos) 0 it acc cenv =
    compForm iter.pos target it [] cenv (secondTail elt i2 [⟨target, iter, [], 0⟩, ⟨t2, i2, ifs2, 0⟩] scope pos acc cenv) (.compLoop (.ListComp elt [⟨target, iter, [], 0⟩, ⟨t2, i2, ifs2, 0⟩] scope pos) 0 it acc cenv) := by
  unfold compTurn compForm secondTail
  simp only [bind_assoc, pure_bind]
  rfl
/-- the first clause of two, over a list of the ledger -/
theorem comp_two {target t2 i2 : PySem.Expr} {ifs2 : List PySem.Expr} {l : Addr} {items : List Value} {c₀ : Nat} {elt iter : PySem.Expr} {scope : Scope} {pos : Pos} {cl : List (Str × Addr)} {L : Addr} (Post : Value → Addr → Result → Shared → Prop) (own : Option Str)
    (J : Addr → Addr → Nat → (Str → Option Value) → List (Addr × Obj) → Prop) (hh : A.handled = none)
    (hpc : ∀ h, pushCells h scope.names = withOwn own h) (hcf : ∀ C, cellsFrom (C + 1) scope.names cl = ownC own C cl)
    (F : Fr h₀ L s.heap m) (N : News h₀ L s.heap news)
    (hl : (l, listOf items.toArray c₀) ∈ news) (hm : ∀ D C i m' n', J D C i m' n' → (l, listOf items.toArray c₀) ∈ n')
    (hj : ∀ D C, J D C 0 (fun _ => none) ((D, listOf #[] 0) :: (ownL own C ++ news)))
    (turn : ∀ g I D C i v m₁ news₁ h tk oI, (∀ b o, h₀.get? b = some o → g.get? b = some o) → (∀ b o, s.heap.get? b = some o → b ∉ news.map (·.1) → g.get? b = some o) → (∀ p ∈ news, p.1 < I) → I < D → D < C →
      items[i]? = some v → J D C i m₁ news₁ → Fr g C h m₁ → News g C h ((I, oI) :: news₁) → (∀ p ∈ news₁, p.1 ≠ I) →
      wpAny (model prg w) A (assign target (compEnvC scope (ownC own C cl) C env) v) (fun _ s₂ => wpAny (model prg w) A (secondTail elt i2 [⟨target, iter, [], 0⟩, ⟨t2, i2, ifs2, 0⟩] scope pos (.ref D) (compEnvC scope (ownC own C cl) C env)) (fun _ s' => LEnd g C I oI (J D C (i + 1)) { s with heap := h, toks := tk } s') (fun _ _ => False) s₂) (fun _ _ => False) { s with heap := h, toks := tk })
    (done : ∀ D C m₁ news₁ h tk mC, J D C items.length m₁ news₁ → h.Ns C mC → @Ne Nat C L → h₀.get? C = none → (∀ p ∈ news₁, p.1 ≠ C) → Fr h₀ L h m → News h₀ L h news₁ → Post (.ref D) C (.ok .next) { s with heap := h, toks := tk }) :
    wpAny (model prg w) A (pyIter (.ref l)) (fun it s₂ => wpAny (model prg w) A (newList []) (fun acc s₃ => wpAny (model prg w) A (newFunctionEnv scope env.globals cl [] env.qual none .none (some env)) (fun cenv s₄ =>
      codeAny (model prg w) A (.compStart (.ListComp elt [⟨target, iter, [], 0⟩, ⟨t2, i2, ifs2, 0⟩] scope pos) 0 it acc { cenv with scope := relabel scope env }) (Post acc cenv.locals) s₄) E s₃) E s₂) E s := by
  have hl' := News.isList N hl
  refine wpAny_pyIter_list hl' ?_
  obtain ⟨ol, hol, hr⟩ := id hl'
  have hne : l ≠ s.heap.objs.size := Nat.ne_of_lt (Heap.lt_size hol)
  refine comp_newG (tail := fun acc cenv => secondTail elt i2 [⟨target, iter, [], 0⟩, ⟨t2, i2, ifs2, 0⟩] scope pos acc cenv) Post own J (fun _ _ _ => two_turn) hpc hcf (Iter.list hh s.heap.objs.size l hne items.toArray) (fun h hk => ⟨⟨_, hk _ _ (Heap.get?_push_size _ rfl), rfl, rfl⟩, hl'.at fun o e => hk _ _ (Heap.get?_push_of_some _ e)⟩) F N (fun b hb hbI => ?_) hj (fun g I D C i v ex m₁ news₁ h tk oI a1 a2 a3 a4 a5 hi hP hJ F' N' hn' => ?_) (fun D C m₁ news₁ h tk mC hJ => done D C m₁ news₁ h tk mC (by simpa using hJ))
  · rcases List.mem_cons.mp hb with h | h
    · exact absurd h hbI
    · rw [List.mem_singleton.mp h]; exact .inr ⟨_, hm⟩
  · obtain ⟨hv, rfl⟩ := hP
    exact turn g I D C i v m₁ news₁ h tk oI a1 a2 a3 a4 a5 (by simpa using hv) hJ F' N' hn'
end

end P21
section P22


theorem sub_tab4 {prog : Program} {w : World} {A : Around} {E : Value → Shared → Prop} {s : Shared} {h₀ : Heap} {L D : Addr} {news : List (Addr × Obj)} {c : Nat} {k : Int} {u t0 t1 t2 t3 : Tok} {x0 x1 x2 x3 : Str} {value slice : PySem.Expr} {Q : Value → Shared → Prop} (N : News h₀ L s.heap news) (hm : (D, listOf #[Value.str x0 t0, Value.str x1 t1, Value.str x2 t2, Value.str x3 t3] c) ∈ news) (h0 : 0 ≤ k) (h3 : k < 4)
    (h : ∀ x t, x = ([x0, x1, x2, x3] : List Str).getD k.toNat x0 → Q (.str x t) s)
    (hs : subscripted slice false (.ref D) (.int k u) = operate [.ref D, .int k u] (getItem (.ref D) (.int k u)) := by with_unfolding_all rfl) :
    wpAny (model prog w) A (subscriptTail value slice (.ref D) (.int k u)) Q E s := by
  have : k = 0 ∨ k = 1 ∨ k = 2 ∨ k = 3 := by (first | lia | omega)
  rcases this with rfl | rfl | rfl | rfl
  · exact sub_list (vs := [Value.str x0 t0, Value.str x1 t1, Value.str x2 t2, Value.str x3 t3]) (v := Value.str x0 t0) N hm (by decide) (by decide) rfl (h _ _ rfl) hs
  · exact sub_list (vs := [Value.str x0 t0, Value.str x1 t1, Value.str x2 t2, Value.str x3 t3]) (v := Value.str x1 t1) N hm (by decide) (by decide) rfl (h _ _ rfl) hs
  · exact sub_list (vs := [Value.str x0 t0, Value.str x1 t1, Value.str x2 t2, Value.str x3 t3]) (v := Value.str x2 t2) N hm (by decide) (by decide) rfl (h _ _ rfl) hs
  · exact sub_list (vs := [Value.str x0 t0, Value.str x1 t1, Value.str x2 t2, Value.str x3 t3]) (v := Value.str x3 t3) N hm (by decide) (by decide) rfl (h _ _ rfl) hs
theorem four_cases {k : Int} (h0 : 0 ≤ k) (h4 : k < 4) : k.toNat = 0 ∨ k.toNat = 1 ∨ k.toNat = 2 ∨ k.toNat = 3 := by (first | lia | omega)
theorem seg4a {w : World} {dp un : Nat} {fr : Option (List Env)} {gd : Option (List Code)} {s : Shared} {Q : Flow → Shared → Prop} {mg mb : Str → Option Value} {h₀ : Heap} {L : Addr} {m : Str → Option Value} {nz : List (Addr × Obj)} {o3 : Obj} {v3 : Option Value} {d : Int} {td : Tok}
   (X : (Mine.hd.heap_39 w.params).In h₀) (T : TopRead Mine.hd.view_39 Mine.hd.lz mg mb h₀) (hroom : dp + 12 < recursionLimit) (hun : un + 120 < cLine)
   (F : Fr h₀ L s.heap m) (N : News h₀ L s.heap ((L + 3, o3) :: nz)) (d3 : o3.data = .cell v3) (hz : ∀ p ∈ nz, p.1 ≠ L + 3) (hm : m (Str.ofString "drawn") = some (.int d td))
   (ret : ∀ h' tk o3' xl tl xp tp a b, a < 4 → b < 4 → xl.cps.toList = leadS a → xp.cps.toList = pieceS b → Fr h₀ L h' (fun y => if y = Str.ofString "piece" then some (.str xp tp) else m y) → News h₀ L h' ((L + 3, o3') :: nz) → o3'.data = .cell (some (.str xl tl)) →
     wpAny (model prog w) (Ar dp un fr gd) (execs (lawBody.drop 10) (lawEnv L)) Q (fun _ _ => False) { s with heap := h', toks := tk }) :
   wpAny (model prog w) (Ar dp un fr gd) (execs (lawBody.drop 8) (lawEnv L)) Q (fun _ _ => False) s := by
  rw [bd8, bd9]
  have ep := pin hm
  rw [ep] at F
  dsimp only [st8, st9]
  generalize hB : lawBody.drop 10 = B at *
  repeat' (first | (dsimp only; walk1) | walk1 | refine zP _ ?_ | refine zR0 _ _ ?_ | refine zP0 _ ?_ | refine zC _ ?_ | refine zR _ _ ?_ | refine zB _ ?_ | refine zE _ ?_ | fail "")
  rename News _ _ _ _ => N3
  rename @LT.lt Nat _ (L + 3) _ ∧ _ => l3
  refine sub_tab4 N3 (.head _) (Int.fmod_nonneg_of_pos _ (by decide)) (Int.fmod_lt_of_pos _ (by decide)) ?_
  intro xl tl hxl
  repeat' (first | (dsimp only; walk1) | walk1 | refine zP _ ?_ | refine zR0 _ _ ?_ | refine zP0 _ ?_ | refine zC _ ?_ | refine zR _ _ ?_ | refine zB _ ?_ | refine zE _ ?_ | fail "")
  rename News _ _ _ _ => N4
  refine sub_tab4 N4 (.head _) (Int.fmod_nonneg_of_pos _ (by decide)) (Int.fmod_lt_of_pos _ (by decide)) ?_
  intro xp tp hxp
  repeat' (first | (dsimp only; walk1) | walk1 | refine zP _ ?_ | refine zR0 _ _ ?_ | refine zP0 _ ?_ | refine zC _ ?_ | refine zR _ _ ?_ | refine zB _ ?_ | refine zE _ ?_ | fail "")
  rename Fr _ _ _ _ => F9
  rename News _ _ _ _ => N9
  have c1 := four_cases (Int.fmod_nonneg_of_pos (Int.fdiv d 5) (show (0 : Int) < 4 by decide)) (Int.fmod_lt_of_pos (Int.fdiv d 5) (show (0 : Int) < 4 by decide))
  have c2 := four_cases (Int.fmod_nonneg_of_pos (Int.fdiv d 20) (show (0 : Int) < 4 by decide)) (Int.fmod_lt_of_pos (Int.fdiv d 20) (show (0 : Int) < 4 by decide))
  refine ret _ _ _ xl tl xp tp (Int.fmod (Int.fdiv d 5) 4).toNat (Int.fmod (Int.fdiv d 20) 4).toNat (by (first | lia | omega)) (by (first | lia | omega)) ?_ ?_ (by rw [ep]; exact F9) (newsApp N9 (fun p hp => ?_)) (by assumption)
  · rcases c1 with e | e | e | e <;> (rw [hxl, e]; decide +kernel)
  · rcases c2 with e | e | e | e <;> (rw [hxp, e]; decide +kernel)
  · revert hp; revert p
    refine consC ?_ ?_
    · k_mem
    · intro p hp
      exact .tail _ (.tail _ (.tail _ hp))
theorem News.pick3 {h₀ h : Heap} {L : Addr} {a b c : Addr × Obj} {r : List (Addr × Obj)} (N : News h₀ L h (a :: b :: c :: r)) : News h₀ L h (c :: a :: b :: r) := fun p hp => by
  rcases List.mem_cons.mp hp with rfl | hp
  · exact N _ (.tail _ (.tail _ (.head _)))
  rcases List.mem_cons.mp hp with rfl | hp
  · exact N _ (.head _)
  rcases List.mem_cons.mp hp with rfl | hp
  · exact N _ (.tail _ (.head _))
  · exact N _ (.tail _ (.tail _ (.tail _ hp)))
theorem leadW_w (a b j : Nat) : ∃ k : Nat, (leadW a b j)[k]? = some 119 := ⟨_, by unfold leadW; rw [List.getElem?_append_right (Nat.le_refl _)]; simp⟩
noncomputable def NotCell (tz : List (Addr × Obj)) : Prop := ∀ p ∈ tz, ∀ v, p.2.data ≠ .cell v
noncomputable def LeadOf (a b j : Nat) (tz : List (Addr × Obj)) (x : Addr) : Prop :=
  ∃ (dx nm ct : Addr) (h1 h2 h3 h4 h5 : Int) (k1 k2 k3 k4 k5 tw tn tnt tb : Tok) (c1 c2 : Nat) (ws : Str) (cvs : List Value),
    (nm, tupOf [Value.ref ct, .int (wsFold (leadW a b j) ⟨0, 0, 0, []⟩).b tb] c1) ∈ tz ∧ (ct, tupOf cvs c2) ∈ tz ∧ (x, instObj 157 dx) ∈ tz ∧
    (dx, wsDict h1 h2 h3 h4 h5 k1 k2 k3 k4 k5 tw tn tnt ws (wsFold (leadW a b j) ⟨0, 0, 0, []⟩).n (wsFold (leadW a b j) ⟨0, 0, 0, []⟩).nt nm (decide ((wsFold (leadW a b j) ⟨0, 0, 0, []⟩).cnt.length ≤ 1))) ∈ tz ∧ IntsAre cvs (wsFold (leadW a b j) ⟨0, 0, 0, []⟩).cnt
theorem LeadOf.sub {a b j : Nat} {tz tz' : List (Addr × Obj)} {x : Addr} (hs : ∀ p ∈ tz, p ∈ tz') : LeadOf a b j tz x → LeadOf a b j tz' x := by
  unfold LeadOf
  exact Exists.imp fun _ => Exists.imp fun _ => Exists.imp fun _ => Exists.imp fun _ => Exists.imp fun _ => Exists.imp fun _ => Exists.imp fun _ => Exists.imp fun _ => Exists.imp fun _ => Exists.imp fun _ => Exists.imp fun _ => Exists.imp fun _ => Exists.imp fun _ => Exists.imp fun _ => Exists.imp fun _ => Exists.imp fun _ => Exists.imp fun _ => Exists.imp fun _ => Exists.imp fun _ => Exists.imp fun _ => Exists.imp fun _ h => ⟨hs _ h.1, hs _ h.2.1, hs _ h.2.2.1, hs _ h.2.2.2.1, h.2.2.2.2⟩
structure LeadsIn (a b : Nat) (tz : List (Addr × Obj)) (vs : List Value) (k : Nat) : Prop where
  len : vs.length = k
  it : ∀ j, j < k → ∃ x : Addr, vs[j]? = some (Value.ref x) ∧ LeadOf a b j tz x
theorem LeadsIn.snoc {a b : Nat} {tz tz' : List (Addr × Obj)} {vs : List Value} {k : Nat} (W : LeadsIn a b tz vs k) (hs : ∀ p ∈ tz, p ∈ tz') {x : Addr} (h : LeadOf a b k tz' x) : LeadsIn a b tz' (vs ++ [Value.ref x]) (k + 1) where
  len := by simp [W.len]
  it := fun j hj => by
    rcases Nat.lt_or_ge j k with q | q
    · obtain ⟨y, f1, f2⟩ := W.it j q
      exact ⟨y, by rw [List.getElem?_append_left (by rw [W.len]; exact q)]; exact f1, f2.sub hs⟩
    · obtain rfl : j = k := by (first | lia | omega)
      exact ⟨x, by rw [List.getElem?_append_right (by rw [W.len]; exact Nat.le_refl _), W.len, Nat.sub_self]; rfl, h⟩
theorem LEnd.p4 {h₀ : Heap} {L I : Addr} {oI : Obj} {J : (Str → Option Value) → List (Addr × Obj) → Prop} {s₁ : Shared} {h' : Heap} {tk : Nat} {m' : Str → Option Value} {a b c d e f g i j : Addr × Obj} {rest : List (Addr × Obj)} (F : Fr h₀ L h' m') (N : News h₀ L h' (a :: b :: c :: d :: (I, oI) :: e :: f :: g :: i :: j :: rest))
    (hn : ∀ p ∈ e :: f :: g :: i :: j :: a :: b :: c :: d :: rest, p.1 ≠ I) (hj : J m' (e :: f :: g :: i :: j :: a :: b :: c :: d :: rest)) : LEnd h₀ L I oI J s₁ { s₁ with heap := h', toks := tk } :=
  LEnd.intro _ F N (.tail _ (.tail _ (.tail _ (.tail _ (.head _))))) (fun p hp => by
    iterate 9 (rcases List.mem_cons.mp hp with rfl | hp; focus k_mem)
    exact .tail _ (.tail _ (.tail _ (.tail _ (.tail _ (.tail _ (.tail _ (.tail _ (.tail _ (.tail _ hp)))))))))) hn hj
theorem seg4b {w : World} {dp un : Nat} {fr : Option (List Env)} {gd : Option (List Code)} {s : Shared} {Q : Flow → Shared → Prop} {mg mb : Str → Option Value} {h₀ : Heap} {L : Addr} {m : Str → Option Value} {nz : List (Addr × Obj)} {o3 : Obj} {xl xp : Str} {tl tp : Tok} {a b : Nat}
   (X : (Mine.hd.heap_39 w.params).In h₀) (T : TopRead Mine.hd.view_39 Mine.hd.lz mg mb h₀) (hroom : dp + 20 < recursionLimit) (hun : un + 120 < cLine)
   (F : Fr h₀ L s.heap m) (N : News h₀ L s.heap ((L + 3, o3) :: nz)) (d3 : o3.data = .cell (some (.str xl tl))) (hz : ∀ p ∈ nz, p.1 ≠ L + 3) (hm : m (Str.ofString "piece") = some (.str xp tp)) (ha : a < 4) (hb : b < 4) (hxl : xl.cps.toList = leadS a) (hxp : xp.cps.toList = pieceS b)
   (ret : ∀ h' tk tz le vs c, Fr h₀ L h' (fun y => if y = Str.ofString "leads" then some (.ref le) else m y) → News h₀ L h' ((L + 3, o3) :: (tz ++ nz)) → NotCell tz → (le, listOf vs.toArray c) ∈ tz → LeadsIn a b tz vs 4 →
     wpAny (model prog w) (Ar dp un fr gd) (execs (lawBody.drop 11) (lawEnv L)) Q (fun _ _ => False) { s with heap := h', toks := tk }) :
   wpAny (model prog w) (Ar dp un fr gd) (execs (lawBody.drop 10) (lawEnv L)) Q (fun _ _ => False) s := by
  rw [bd10]
  have ep := pin hm
  rw [ep] at F
  dsimp only [st10]
  generalize hB : lawBody.drop 11 = B at *
  have hll : xl.length ≤ 3 := by
    rw [len_eq, hxl]; unfold leadS
    split
    · decide
    split
    · decide
    split <;> decide
  have hpl : xp.length ≤ 2 := by
    rw [len_eq, hxp]; unfold pieceS
    split
    · decide
    split
    · decide
    split <;> decide
  repeat' (first | ((with_reducible show wpAny _ _ (call (Value.ref 157) _) _ _ _); refine stop ?_) | (dsimp only; walk1) | walk1 | refine zP _ ?_ | refine zR0 _ _ ?_ | refine zP0 _ ?_ | refine zC _ ?_ | refine zR _ _ ?_ | refine zB _ ?_ | refine zE _ ?_ | fail "")
  refine comp_assign (by with_unfolding_all rfl) (by with_unfolding_all rfl) rfl (by decide) (fun _ => rfl) ?_
  repeat' (first | ((with_reducible show wpAny _ _ (call (Value.ref 157) _) _ _ _); refine stop ?_) | (dsimp only; walk1) | walk1 | refine zP _ ?_ | refine zR0 _ _ ?_ | refine zP0 _ ?_ | refine zC _ ?_ | refine zR _ _ ?_ | refine zB _ ?_ | refine zE _ ?_ | fail "")
  rename Fr _ _ _ _ => F1
  rename News _ _ _ _ => N1
  rename @LT.lt Nat _ (L + 3) _ ∧ _ => l1
  rename_i l _
  refine comp_two (compPost (model prog w) _ _ _ _) none (J := fun D C i m' n' => ∃ vs cc tz, n' = (D, listOf vs.toArray cc) :: (l, _) :: (L + 3, o3) :: (tz ++ nz) ∧ (∀ p ∈ tz, p.1 ≠ D) ∧ NotCell tz ∧ LeadsIn a b tz vs (2 * i)) rfl (fun _ => rfl) (fun _ => rfl) F1 N1 (.head _) (fun D C i m' n' hJ => by obtain ⟨vs, cc, tz, rfl, _⟩ := hJ; exact .tail _ (.head _)) (fun D C => ⟨[], 0, [], rfl, fun _ hp => (nomatch hp), fun _ hp => (nomatch hp), ⟨rfl, fun j hj => absurd hj (Nat.not_lt_zero j)⟩⟩) ?_ ?_
  · intro g I D C i v m₁ news₁ h tk oI G1 G2 g1 g2 g3 hx hJ F2 N2 hn2
    obtain ⟨vs, cc, tz, rfl, htz, hnc, hW⟩ := hJ
    replace X := X.keeps G1
    replace T := T.keeps G1
    clear G1 G2 F1 N1
    k_lt g1; k_lt2 g2; k_lt2 g3
    simp only [ownL_none, ownC_none, List.nil_append] at F2 N2 ⊢
    have hi2 : i < 2 := by
      rcases Nat.lt_or_ge i 2 with q | q
      · exact q
      · rw [List.getElem?_eq_none q] at hx; cases hx
    obtain ⟨xm, tm, rfl, hxm, hml⟩ : ∃ xm tm, v = Value.str xm tm ∧ xm.cps.toList = (if i = 0 then [] else pieceS b) ∧ xm.length ≤ 2 := by
      have : i = 0 ∨ i = 1 := by (first | lia | omega)
      rcases this with rfl | rfl
      · simp only [List.getElem?_cons_zero, Option.some.injEq] at hx
        exact ⟨_, _, hx.symm, rfl, by decide⟩
      · simp only [List.getElem?_cons_succ, List.getElem?_cons_zero, Option.some.injEq] at hx
        exact ⟨_, _, hx.symm, hxp, hpl⟩
    have hrD : ∀ p ∈ tz ++ nz, p.1 ≠ D := fun p hp => by
      rcases List.mem_append.mp hp with hp | hp
      · exact htz p hp
      · exact Nat.ne_of_lt (Nat.lt_trans (allLt_all g1.2.2 p hp) g2)
    have hq1 := neN (hn2 _ (.head _))
    dsimp only at hq1
    generalize hrz : tz ++ nz = rz at *
    repeat' (first | ((with_reducible show wpAny _ _ (call (Value.ref 157) _) _ _ _); refine stop ?_) | (dsimp only; walk1) | walk1 | refine zP _ ?_ | refine zR0 _ _ ?_ | refine zP0 _ ?_ | refine zC _ ?_ | refine zR _ _ ?_ | refine zB _ ?_ | refine zE _ ?_ | fail "")
    refine tail_second (fun _ => rfl) ?_
    repeat' (first | ((with_reducible show wpAny _ _ (call (Value.ref 157) _) _ _ _); refine stop ?_) | (dsimp only; walk1) | walk1 | refine zP _ ?_ | refine zR0 _ _ ?_ | refine zP0 _ ?_ | refine zC _ ?_ | refine zR _ _ ?_ | refine zB _ ?_ | refine zE _ ?_ | fail "")
    rename Fr _ _ _ _ => F3
    rename News _ _ _ _ => N3
    rename @LT.lt Nat _ I _ ∧ _ => l3
    rename_i l2 _
    replace N3 := News.pick3 N3
    refine comp_in_list (fun q m' n' => Off [Str.ofString "tab"] m' _ ∧ ∃ vs cc tz2, n' = (D, listOf vs.toArray cc) :: (l2, _) :: (I, oI) :: (l, _) :: (L + 3, o3) :: (tz2 ++ rz) ∧ (∀ p ∈ tz2, p.1 ≠ D ∧ p.1 ≠ I) ∧ NotCell tz2 ∧ LeadsIn a b (tz2 ++ tz) vs (2 * i + q)) rfl F3 N3 (fun q m' n' hJ => by obtain ⟨_, vs, cc, tz2, rfl, _⟩ := hJ; exact .tail _ (.head _)) ⟨Off.refl, vs, cc, [], rfl, fun _ hp => (nomatch hp), fun _ hp => (nomatch hp), hW⟩ ?_ ?_
    · intro I2 q v m₂ news₂ h2 tk2 oI2 hI2 hx2 hJ F4 N4 hn4
      refine hideT fun zQ zE => ?_
      obtain ⟨hoff, vs, cc, tz2, rfl, htz2, hnc2, hW⟩ := hJ
      rw [Off.ov hoff] at F4
      dsimp only at F4 N4 ⊢
      clear F3 N3
      have hq2 : q < 2 := by
        rcases Nat.lt_or_ge q 2 with z | z
        · exact z
        · rw [List.getElem?_eq_none z] at hx2; cases hx2
      obtain ⟨xt, tt, rfl, hxt, htl⟩ : ∃ xt tt, v = Value.str xt tt ∧ xt.cps.toList = (if q = 0 then [9] else [32, 9]) ∧ xt.length ≤ 2 := by
        have : q = 0 ∨ q = 1 := by (first | lia | omega)
        rcases this with rfl | rfl
        · simp only [List.getElem?_cons_zero, Option.some.injEq] at hx2
          exact ⟨_, _, hx2.symm, by decide +kernel, by decide⟩
        · simp only [List.getElem?_cons_succ, List.getElem?_cons_zero, Option.some.injEq] at hx2
          exact ⟨_, _, hx2.symm, by decide +kernel, by decide⟩
      have hr1 := neN (hn4 _ (.head _))
      have hr2 := neN (hn4 _ (.tail _ (.head _)))
      have hr3 := neN (hn4 _ (.tail _ (.tail _ (.head _))))
      dsimp only at hr1 hr2 hr3
      have hrD2 : ∀ p ∈ tz2 ++ rz, p.1 ≠ D := fun p hp => by
        rcases List.mem_append.mp hp with hp | hp
        · exact (htz2 p hp).1
        · exact hrD p hp
      generalize hrz2 : tz2 ++ rz = rz2 at *
      repeat' (first | ((with_reducible show wpAny _ _ (call (Value.ref 157) _) _ _ _); refine stop ?_) | (dsimp only; walk1) | walk1 | refine zP _ ?_ | refine zR0 _ _ ?_ | refine zP0 _ ?_ | refine zC _ ?_ | refine zR _ _ ?_ | refine zB _ ?_ | refine zE _ ?_ | fail "" | dsimp only [turnGoal])
      rename Fr _ _ _ _ => F5
      rename News _ _ _ _ => N5
      have hws : (xl ++ xt ++ xm ++ Str.ofString "w").cps.toList = leadW a b (2 * i + q) := by
        simp only [Str.cps_append, Array.toList_append, hxl, hxt, hxm, leadW]
        have : (i = 0 ∨ i = 1) ∧ (q = 0 ∨ q = 1) := by (first | lia | omega)
        obtain ⟨rfl | rfl, rfl | rfl⟩ := this <;> simp <;> decide +kernel
      refine unstop ?_
      have hwl : (Str.ofString "w").length = 1 := rfl
      obtain ⟨kw, hkw⟩ := leadW_w a b (2 * i + q)
      refine' ws_new F5 N5 X T ?h1 ?h2 ?h3 ⟨kw, ?h4⟩ (wsFold (leadW a b (2 * i + q)) ⟨0, 0, 0, []⟩) (by rw [hws]) ?_
      case h1 => ((try simp only [depth_under_make, depth_under_kw, depth_in1, depth_deeper, depth_caller]); (try dsimp only [Ar]); (first | lia | omega))
      case h2 => ((try simp only [units_in1, units_deeper, Around.mark_units, units_caller]); (try dsimp only [Ar]); (first | lia | omega))
      case h3 => (first | lia | omega)
      case h4 => rw [← hws] at hkw; simpa using hkw
      intro h6 tk6 x dx nm ct h1 h2' h3' h4 h5 k1 k2 k3 k4 k5 tw tn tnt tb cvs c1 c2 l6 l7 F6 N6 hI6 hf6
      clear F5 N5 N4
      have y1 := neN (hf6 _ (.tail _ (.head _))).1
      have y2 := neN (hf6 _ (.tail _ (.head _))).2
      have y3 := ltN (l6 _ (.tail _ (.head _)))
      have y4 := ltN l7
      dsimp only at y1 y2 y3 y4
      have hvl : vs.length ≤ 4 := by rw [hW.len]; (first | lia | omega)
      try dsimp only
      repeat' (first | ((with_reducible show wpAny _ _ (call (Value.ref 157) _) _ _ _); refine stop ?_) | (dsimp only; walk1) | walk1 | refine zP _ ?_ | refine zR0 _ _ ?_ | refine zP0 _ ?_ | refine zC _ ?_ | refine zR _ _ ?_ | refine zB _ ?_ | refine zE _ ?_ | fail "" | dsimp only [turnGoal])
      rename Fr _ _ _ _ => F7
      rename News _ _ _ _ => N7
      subst hrz2
      refine LEnd.p4 F7 N7 (fun p hp => ?_) ⟨?_, _, _, (nm, _) :: (ct, _) :: (x, _) :: (dx, _) :: tz2, rfl, fun p hp => ?_, fun p hp => ?_, ?_⟩
      · revert hp; revert p
        refine consC ?_ ?_
        · exact hr1
        refine consC ?_ ?_
        · exact hr2
        refine consC ?_ ?_
        · exact hr3
        refine consC ?_ ?_
        · exact hn4 _ (.tail _ (.tail _ (.tail _ (.head _))))
        refine consC ?_ ?_
        · exact hn4 _ (.tail _ (.tail _ (.tail _ (.tail _ (.head _)))))
        refine consC ?_ ?_
        · exact Ne.symm (hf6 _ (.head _)).1
        refine consC ?_ ?_
        · exact Ne.symm (hf6 _ (.head _)).2
        refine consC ?_ ?_
        · exact Nat.ne_of_gt (Nat.lt_trans (l6 _ (.head _)) l7)
        refine consC ?_ ?_
        · exact Nat.ne_of_gt (l6 _ (.head _))
        · intro p hp
          exact hn4 p (.tail _ (.tail _ (.tail _ (.tail _ (.tail _ hp)))))
      · exact Off.set (by decide) Off.of_ov
      · have yI := hf6 _ (.tail _ (.tail _ (.tail _ (.head _))))
        have yJ := l6 _ (.tail _ (.tail _ (.tail _ (.head _))))
        rcases List.mem_cons.mp hp with rfl | hp
        · exact ⟨Ne.symm y1, Ne.symm yI.1⟩
        rcases List.mem_cons.mp hp with rfl | hp
        · exact ⟨Ne.symm y2, Ne.symm yI.2⟩
        rcases List.mem_cons.mp hp with rfl | hp
        · exact ⟨Nat.ne_of_gt (Nat.lt_trans y3 y4), Nat.ne_of_gt (Nat.lt_trans yJ y4)⟩
        rcases List.mem_cons.mp hp with rfl | hp
        · exact ⟨Nat.ne_of_gt y3, Nat.ne_of_gt yJ⟩
        · exact htz2 p hp
      · revert hp; revert p
        refine consC ?_ ?_
        · exact fun v h => by cases h
        refine consC ?_ ?_
        · exact fun v h => by cases h
        refine consC ?_ ?_
        · exact fun v h => by cases h
        refine consC ?_ ?_
        · exact fun v h => by cases h
        · intro p hp
          exact hnc2 p hp
      · exact hW.snoc (fun p hp => .tail _ (.tail _ (.tail _ (.tail _ hp)))) ⟨_, _, _, _, _, _, _, _, _, _, _, _, _, _, _, _, _, _, _, _, _, .head _, .tail _ (.head _), .tail _ (.tail _ (.head _)), .tail _ (.tail _ (.tail _ (.head _))), hI6⟩
    · intro m₂ news₂ h2 tk2 hJ F4 N4
      obtain ⟨hoff, vs, cc, tz2, rfl, htz2, hnc2, hW⟩ := hJ
      try dsimp only
      subst hrz
      refine LEnd.intro ((D, listOf vs.toArray cc) :: (l, _) :: (L + 3, o3) :: ((tz2 ++ tz) ++ nz)) F4 N4 (.tail _ (.tail _ (.head _))) (fun p hp => ?_) (fun p hp => ?_) ⟨vs, cc, tz2 ++ tz, rfl, fun p hp => ?_, fun p hp => ?_, ?_⟩
      · revert hp; revert p
        refine consC ?_ ?_
        · k_mem
        refine consC ?_ ?_
        · k_mem
        refine consC ?_ ?_
        · k_mem
        · intro p hp
          rw [List.append_assoc] at hp; exact .tail _ (.tail _ (.tail _ (.tail _ (.tail _ hp))))
      · revert hp; revert p
        refine consC ?_ ?_
        · exact hq1
        refine consC ?_ ?_
        · exact hn2 _ (.tail _ (.head _))
        refine consC ?_ ?_
        · exact hn2 _ (.tail _ (.tail _ (.head _)))
        · intro p hp
          rw [List.append_assoc] at hp
          rcases List.mem_append.mp hp with hp | hp
          · exact (htz2 p hp).2
          · exact hn2 p (.tail _ (.tail _ (.tail _ hp)))
      · rcases List.mem_append.mp hp with hp | hp
        · exact (htz2 p hp).1
        · exact htz p hp
      · rcases List.mem_append.mp hp with hp | hp
        · exact hnc2 p hp
        · exact hnc p hp
      · exact hW
  · intro D C m₁ news₁ h tk mC hJ hnC hCL hC₀ offC F2 N2
    obtain ⟨vs, cc, tz, rfl, htz, hnc, hW⟩ := hJ
    clear F1 N1
    refine post_assign (s := { heap := h, gens := _, drawn := _, toks := tk, os := _ }) F2 N2 hnC hCL hC₀ offC (fun h' tk' F3 N3 => ?_) rfl rfl rfl
    refine ret _ _ ((D, listOf vs.toArray cc) :: tz) D vs cc (by rw [ep]; exact F3) (newsApp N3 (fun p hp => ?_)) (fun p hp => ?_) (.head _) ⟨hW.len, fun j hj => ?_⟩
    · revert hp; revert p
      refine consC ?_ ?_
      · k_mem
      refine consC ?_ ?_
      · k_mem
      · intro p hp
        exact .tail _ (.tail _ (.tail _ hp))
    · revert hp; revert p
      refine consC ?_ ?_
      · exact fun v h => by cases h
      · intro p hp
        exact hnc p hp
    · obtain ⟨x, dx, nm, ct, h1, h2, h3, h4, h5, k1, k2, k3, k4, k5, tw, tn, tnt, tb, c1, c2, ws, cvs, e1, e2, e3, e4, e5, e6⟩ := hW.it j hj
      exact ⟨x, dx, nm, ct, h1, h2, h3, h4, h5, k1, k2, k3, k4, k5, tw, tn, tnt, tb, c1, c2, ws, cvs, e1, .tail _ e2, .tail _ e3, .tail _ e4, .tail _ e5, e6⟩

end P22
section P23


noncomputable def body12 : {b : List Stmt // ∃ t i p, st12.1 = Stmt.For t i b [] p} := ⟨_, _, _, _, rfl⟩
noncomputable def tc0 : {x : Stmt // body12.1[0]? = some x} := ⟨_, rfl⟩
noncomputable def tc1 : {x : Stmt // body12.1[1]? = some x} := ⟨_, rfl⟩
noncomputable def tc2 : {x : Stmt // body12.1[2]? = some x} := ⟨_, rfl⟩
noncomputable def tc3 : {x : Stmt // body12.1[3]? = some x} := ⟨_, rfl⟩
theorem bf0 : body12.1.drop 0 = tc0.1 :: body12.1.drop 1 := rfl
theorem bf1 : body12.1.drop 1 = tc1.1 :: body12.1.drop 2 := rfl
theorem bf2 : body12.1.drop 2 = tc2.1 :: body12.1.drop 3 := rfl
theorem bf3 : body12.1.drop 3 = tc3.1 :: body12.1.drop 4 := rfl

theorem start_all : ∀ i : Nat, i < 16 → List.map (fun k' : Int => 2 * Builtin.bitAnd ((i : Int).fdiv (2 ^ k'.toNat)) 1 + k'.fmod 2) (rangeKs 0 ((4 : Int) - 0).toNat) = startF i := by decide +kernel
theorem turn5a {w : World} {dp un : Nat} {fr : Option (List Env)} {gd : Option (List Code)} {s : Shared} {Q : Flow → Shared → Prop} {mg mb : Str → Option Value} {h₀ : Heap} {L : Addr} {m : Str → Option Value} {rz : List (Addr × Obj)} {o4 : Obj} {i : Nat} {ti : Tok}
   (X : (Mine.hd.heap_39 w.params).In h₀) (T : TopRead Mine.hd.view_39 Mine.hd.lz mg mb h₀) (hroom : dp + 20 < recursionLimit) (hun : un + 120 < cLine)
   (F : Fr h₀ L s.heap m) (N : News h₀ L s.heap ((L + 4, o4) :: rz)) (d4 : o4.data = .cell (some (.int i ti))) (hi : i < 16)
   (ret : ∀ h' tk D ys c, Fr h₀ L h' (fun y => if y = Str.ofString "start" then some (.ref D) else m y) → News h₀ L h' ((D, listOf ys.toArray c) :: (L + 4, o4) :: rz) → IntsAre ys (startF i) →
     wpAny (model prog w) (Ar dp un fr gd) (execs (body12.1.drop 1) (lawEnv L)) Q (fun _ _ => False) { s with heap := h', toks := tk }) :
   wpAny (model prog w) (Ar dp un fr gd) (execs (body12.1.drop 0) (lawEnv L)) Q (fun _ _ => False) s := by
  rw [bf0]
  dsimp only [tc0]
  generalize hB : body12.1.drop 1 = B at *
  repeat' (first | (dsimp only; walk1) | walk1 | refine zP _ ?_ | refine zR0 _ _ ?_ | refine zP0 _ ?_ | refine zC _ ?_ | refine zR _ _ ?_ | refine zB _ ?_ | refine zE _ ?_ | fail "")
  rename Fr _ _ _ _ => F9
  rename (News _ _ _ ((_, LCg.lst _) :: _)) => N9
  rename IntsAre _ (List.map _ _) => hI
  obtain ⟨ns, hns, hI'⟩ : ∃ ns, ns = startF i ∧ IntsAre _ ns := ⟨_, start_all i hi, hI⟩
  subst hns
  exact ret _ _ _ _ _ F9 N9 hI'
theorem turn5b {w : World} {dp un : Nat} {fr : Option (List Env)} {gd : Option (List Code)} {s : Shared} {Q : Flow → Shared → Prop} {mg mb : Str → Option Value} {h₀ : Heap} {L D wi le : Addr} {m : Str → Option Value} {rz fz : List (Addr × Obj)} {i : Nat} {ys : List Value} {c : Nat} {wr : List (Int × Int)} {pr : Int → Wp}
   (X : (Mine.hd.heap_39 w.params).In h₀) (T : TopRead Mine.hd.view_39 Mine.hd.lz mg mb h₀) (hroom : dp + 20 < recursionLimit) (hun : un + 120 < cLine)
   (F : Fr h₀ L s.heap m) (N : News h₀ L s.heap ((D, listOf ys.toArray c) :: rz)) (hI : IntsAre ys (startF i)) (hfz : ∀ p ∈ fz, p ∈ rz) (hW : ∀ h, Has h fz → WiresAt h wi wr) (hL : ∀ h, Has h fz → LeadsAt h le pr) (hwr : WiresOk wr) (hpr : ∀ x y, 0 ≤ x ∧ x < 4 → 0 ≤ y ∧ y < 4 → (pr x).less (pr y) = decide (Int.fdiv x 2 < Int.fdiv y 2))
   (hm : m (Str.ofString "start") = some (.ref D)) (hm1 : m (Str.ofString "wires") = some (.ref wi)) (hm2 : m (Str.ofString "leads") = some (.ref le))
   (ret : ∀ h' tk R vs c', Fr h₀ L h' (fun y => if y = Str.ofString "row" then some (.ref R) else m y) → News h₀ L h' ((R, listOf vs.toArray c') :: (D, listOf ys.toArray c) :: rz) → (∀ p ∈ rz, p.1 ≠ R) → IntsAre vs (wr.foldl (plainStep 2) (startF i)) →
     wpAny (model prog w) (Ar dp un fr gd) (execs (body12.1.drop 3) (lawEnv L)) Q (fun _ _ => False) { s with heap := h', toks := tk }) :
   wpAny (model prog w) (Ar dp un fr gd) (execs (body12.1.drop 1) (lawEnv L)) Q (fun _ _ => False) s := by
  rw [bf1, bf2]
  have ep := pin3 hm hm1 hm2
  rw [ep] at F
  dsimp only [tc1, tc2]
  generalize hB : body12.1.drop 3 = B at *
  repeat' (first | (dsimp only; walk1) | walk1 | refine zP _ ?_ | refine zR0 _ _ ?_ | refine zP0 _ ?_ | refine zC _ ?_ | refine zR _ _ ?_ | refine zB _ ?_ | refine zE _ ?_ | fail "")
  rename Fr _ _ _ _ => F1
  rename News _ _ _ _ => N1
  have H1 := Has.of N1 (fun p hp => .tail _ (hfz p hp))
  refine unstop ?_
  refine' leads_sum (X.keeps F1.keep) (T.keeps F1.keep) ?h1 ?h2 (News.isList N1 (.head _)) hI rfl (start_mem i) (hL _ H1) (hW _ H1) hwr ?_
  case h1 => ((try simp only [depth_under_make, depth_under_kw, depth_in1, depth_deeper, depth_caller]); (try dsimp only [Ar]); (first | lia | omega))
  case h2 => ((try simp only [units_in1, units_deeper, Around.mark_units, units_caller]); (try dsimp only [Ar]); (first | lia | omega))
  intro h' tk' R vs c' hk hR hn hvs
  rw [lawA hwr hpr rfl (start_mem i)] at hvs
  have fr2 : ∀ p ∈ rz, p.1 ≠ R := fun p hp e => by
    have := (N1 p (.tail _ hp)).1
    rw [e] at this
    rw [show _ = none from hn] at this
    cases this
  have N2 := News.more F1 (N1.keeps hk) hR hn
  have F2 := F1.keeps hk
  clear F1 N1 H1
  repeat' (first | (dsimp only; walk1) | walk1 | refine zP _ ?_ | refine zR0 _ _ ?_ | refine zP0 _ ?_ | refine zC _ ?_ | refine zR _ _ ?_ | refine zB _ ?_ | refine zE _ ?_ | fail "")
  rename Fr _ _ _ _ => F3
  rename News _ _ _ _ => N3
  have H3 := Has.of N3 (fun p hp => .tail _ (.tail _ (hfz p hp)))
  refine unstop ?_
  refine' plain_sum (X.keeps F3.keep) (T.keeps F3.keep) ?h1 (News.isList N3 (.tail _ (.head _))) hI rfl (hW _ H3) hwr (.inr rfl) ?_
  case h1 => ((try simp only [depth_under_make, depth_under_kw, depth_in1, depth_deeper, depth_caller]); (try dsimp only [Ar]); (first | lia | omega))
  intro h4 tk4 R2 vs2 c2 hk4 hR4 hn4 hvs2
  have N4 := News.more F3 (N3.keeps hk4) hR4 hn4
  have F4 := F3.keeps hk4
  clear F3 N3 H3
  repeat' (first | (dsimp only; walk1) | walk1 | refine zP _ ?_ | refine zR0 _ _ ?_ | refine zP0 _ ?_ | refine zC _ ?_ | refine zR _ _ ?_ | refine zB _ ?_ | refine zE _ ?_ | fail "")
  try dsimp only
  exact ret _ _ R vs c' (by rw [ep]; exact F4) (newsTl N4) fr2 hvs
theorem turn5c {w : World} {dp un : Nat} {fr : Option (List Env)} {gd : Option (List Code)} {s : Shared} {Q : Flow → Shared → Prop} {mg mb : Str → Option Value} {h₀ : Heap} {L se R : Addr} {m : Str → Option Value} {rz : List (Addr × Obj)} {vs ys : List Value} {c c' : Nat} {ns : List Int}
   (X : (Mine.hd.heap_39 w.params).In h₀) (T : TopRead Mine.hd.view_39 Mine.hd.lz mg mb h₀) (hroom : dp + 20 < recursionLimit) (hun : un + 120 < cLine)
   (F : Fr h₀ L s.heap m) (N : News h₀ L s.heap ((R, listOf ys.toArray c) :: (se, listOf vs.toArray c') :: rz)) (hI : IntsAre ys ns) (hns : ns.length = 4) (hne : @Ne Nat R se) (hw : ∀ p ∈ rz, p.1 ≠ se) (hl : vs.length ≤ 16)
   (hm : m (Str.ofString "row") = some (.ref R)) (hm1 : m (Str.ofString "settled") = some (.ref se))
   (ret : ∀ h' tk D zs c1, Fr h₀ L h' m → News h₀ L h' ((D, listOf zs.toArray c1) :: (R, listOf ys.toArray c) :: (se, listOf (vs ++ [Value.ref D]).toArray (c' + 1)) :: rz) → IntsAre zs (ns.map fun x => Int.fdiv x 2) → @Ne Nat D se → (∀ p ∈ rz, p.1 ≠ D) → Q .next { s with heap := h', toks := tk }) :
   wpAny (model prog w) (Ar dp un fr gd) (execs (body12.1.drop 3) (lawEnv L)) Q (fun _ _ => False) s := by
  rw [bf3]
  have ep := pin2 hm hm1
  rw [ep] at F
  show wpAny _ _ (execs [tc3.1] (lawEnv L)) _ _ _
  dsimp only [tc3]
  have hyl : ys.length = 4 := by rw [hI.length]; exact hns
  repeat' (first | (dsimp only; walk1) | walk1 | refine zP _ ?_ | refine zR0 _ _ ?_ | refine zP0 _ ?_ | refine zC _ ?_ | refine zR _ _ ?_ | refine zB _ ?_ | refine zE _ ?_ | fail "")
  refine comp_listN none (J := fun D C i m' n' => ∃ zs c1, n' = (D, listOf zs.toArray c1) :: (R, listOf ys.toArray c) :: (se, listOf vs.toArray c') :: rz ∧ IntsAre zs ((ns.take i).map fun x => Int.fdiv x 2) ∧ zs.length = i ∧ (0 < i → ∀ p ∈ (R, listOf ys.toArray c) :: (se, listOf vs.toArray c') :: rz, @LT.lt Nat _ p.1 D)) rfl (fun _ => rfl) (fun _ => rfl) F N (.head _) (fun D C i m' n' hJ => by obtain ⟨zs, c1, rfl, _⟩ := hJ; exact .tail _ (.head _)) (fun D C => ⟨[], 0, rfl, .nil, rfl, fun h => absurd h (Nat.lt_irrefl 0)⟩) ?_ ?_
  · intro g I D C i v m₁ news₁ h tk oI G1 G2 g1 g2 g3 hx hJ F2 N2 hn2
    refine hideT fun zQ zE => ?_
    obtain ⟨zs, c1, rfl, hz, hzl, _⟩ := hJ
    replace X := X.keeps G1
    replace T := T.keeps G1
    clear G1 G2
    obtain ⟨n, tn, rfl, hn⟩ := hI.at i v hx
    have hi4 : i < 4 := by
      rcases Nat.lt_or_ge i 4 with q | q
      · exact q
      · rw [List.getElem?_eq_none (by (first | lia | omega))] at hn; cases hn
    have g4 := fun p hp => Nat.lt_trans (g1 p hp) g2
    have hD : AllLt D ((R, listOf ys.toArray c) :: (se, listOf vs.toArray c') :: rz) := allLt_of g4
    have hDR := hD.1
    have hDs := hD.2.1
    have hDz := hD.2.2
    try simp only [ownL_none, ownC_none, List.nil_append] at F2 N2 ⊢
    have hDI := neN (hn2 _ (.head _))
    dsimp only at hDI hDR hDs
    clear hD
    repeat' (first | (dsimp only; walk1) | walk1 | refine zP _ ?_ | refine zR0 _ _ ?_ | refine zP0 _ ?_ | refine zC _ ?_ | refine zR _ _ ?_ | refine zB _ ?_ | refine zE _ ?_ | fail "" | dsimp only [turnGoal])
    refine LEnd.intro _ (by assumption) (by assumption) (by k_mem) (fun p hp => .tail _ hp) (ne_head hn2) ⟨_, _, rfl, ?_, by rw [List.length_append, hzl]; rfl, fun _ => g4⟩
    rw [List.take_add_one, hn, Option.toList, List.map_append]
    exact IntsAre.append hz (.cons _ _ .nil)
  · intro D C m₁ news₁ h tk hJ F2 N2
    obtain ⟨zs, c1, rfl, hz, hzl, hD⟩ := hJ
    have hD := hD (by (first | lia | omega))
    have h1 := neN (Nat.ne_of_gt (hD _ (.tail _ (.head _))))
    rw [List.take_of_length_le (by (first | lia | omega))] at hz
    have h2 : ∀ p ∈ (se, listOf vs.toArray c') :: rz, p.1 ≠ D := fun p hp => Nat.ne_of_lt (hD p (.tail _ hp))
    have h3 := neN (Nat.ne_of_lt (hD _ (.head _)))
    dsimp only at h1 h3
    repeat' (first | (dsimp only; walk1) | walk1 | refine zP _ ?_ | refine zR0 _ _ ?_ | refine zP0 _ ?_ | refine zC _ ?_ | refine zR _ _ ?_ | refine zB _ ?_ | refine zE _ ?_ | fail "")
    try dsimp only
    rename Fr _ _ _ _ => F9
    rename News _ _ _ _ => N9
    exact ret _ _ D zs c1 (by rw [ep]; exact F9) N9 hz h1 (fun p hp => h2 p (.tail _ hp))
theorem Fr.re {h₀ h : Heap} {L : Addr} {m m' : Str → Option Value} (F : Fr h₀ L h m) (e : m' = m) : Fr h₀ L h m' := e ▸ F
structure RowsIn (wr : List (Int × Int)) (fz : List (Addr × Obj)) (vs : List Value) (k : Nat) : Prop where
  len : vs.length = k
  it : ∀ j, j < k → ∃ (a : Addr) (ws : List Value) (c : Nat), vs[j]? = some (Value.ref a) ∧ (a, listOf ws.toArray c) ∈ fz ∧ IntsAre ws (rowS wr j)
theorem RowsIn.snoc {wr : List (Int × Int)} {tz tz' : List (Addr × Obj)} {vs : List Value} {k : Nat} (W : RowsIn wr tz vs k) (hs : ∀ p ∈ tz, p ∈ tz') {a : Addr} {ws : List Value} {c : Nat} (hm : (a, listOf ws.toArray c) ∈ tz') (hi : IntsAre ws (rowS wr k)) : RowsIn wr tz' (vs ++ [Value.ref a]) (k + 1) where
  len := by simp [W.len]
  it := fun j hj => by
    rcases Nat.lt_or_ge j k with q | q
    · obtain ⟨b, us, d, h1, h2, h3⟩ := W.it j q
      exact ⟨b, us, d, by rw [List.getElem?_append_left (by rw [W.len]; exact q)]; exact h1, hs _ h2, h3⟩
    · obtain rfl : j = k := by (first | lia | omega)
      exact ⟨a, ws, c, by rw [List.getElem?_append_right (by rw [W.len]; exact Nat.le_refl _), W.len, Nat.sub_self]; rfl, hm, hi⟩
theorem seg5 {w : World} {dp un : Nat} {fr : Option (List Env)} {gd : Option (List Code)} {s : Shared} {Q : Flow → Shared → Prop} {mg mb : Str → Option Value} {h₀ : Heap} {L wi le : Addr} {m : Str → Option Value} {nz fz : List (Addr × Obj)} {o4 : Obj} {v4 : Option Value} {wr : List (Int × Int)} {pr : Int → Wp}
   (X : (Mine.hd.heap_39 w.params).In h₀) (T : TopRead Mine.hd.view_39 Mine.hd.lz mg mb h₀) (hroom : dp + 20 < recursionLimit) (hun : un + 120 < cLine)
   (F : Fr h₀ L s.heap m) (N : News h₀ L s.heap ((L + 4, o4) :: nz)) (d4 : o4.data = .cell v4) (hz : ∀ p ∈ nz, p.1 ≠ L + 4) (hfz : ∀ p ∈ fz, p ∈ nz) (hW : ∀ h, Has h fz → WiresAt h wi wr) (hL : ∀ h, Has h fz → LeadsAt h le pr) (hwr : WiresOk wr) (hpr : ∀ x y, 0 ≤ x ∧ x < 4 → 0 ≤ y ∧ y < 4 → (pr x).less (pr y) = decide (Int.fdiv x 2 < Int.fdiv y 2))
   (hm1 : m (Str.ofString "wires") = some (.ref wi)) (hm2 : m (Str.ofString "leads") = some (.ref le))
   (ret : ∀ h' tk m' o4' v4' tz se vs c, Fr h₀ L h' m' → Off [Str.ofString "settled", Str.ofString "start", Str.ofString "row"] m' m → m' (Str.ofString "settled") = some (.ref se) → News h₀ L h' ((L + 4, o4') :: (tz ++ nz)) → o4'.data = .cell v4' → NotCell tz → (se, listOf vs.toArray c) ∈ tz → RowsIn wr tz vs 16 →
     wpAny (model prog w) (Ar dp un fr gd) (execs (lawBody.drop 13) (lawEnv L)) Q (fun _ _ => False) { s with heap := h', toks := tk }) :
   wpAny (model prog w) (Ar dp un fr gd) (execs (lawBody.drop 11) (lawEnv L)) Q (fun _ _ => False) s := by
  rw [bd11, bd12]
  have ep := pin2 hm1 hm2
  rw [ep] at F
  dsimp only [st11, st12]
  generalize hB : lawBody.drop 13 = B at *
  repeat' (first | (dsimp only; walk1) | walk1 | refine zP _ ?_ | refine zR0 _ _ ?_ | refine zP0 _ ?_ | refine zC _ ?_ | refine zR _ _ ?_ | refine zB _ ?_ | refine zE _ ?_ | fail "")
  rename Fr _ _ _ _ => F1
  rename News _ _ _ _ => N1
  rename IsRange _ _ _ _ _ _ _ _ => R1
  rename @LT.lt Nat _ (L + 4) _ ∧ _ => l1
  rename_i se _ _ _ _ _ _ _ _ _ _
  have hA := l1.2
  have F1' := Fr.re F1 (congrArg (fun (k : Str → Option Value) => fun y => if y = Str.ofString "settled" then some (Value.ref se) else k y) ep)
  clear F1
  refine for_range (n := 16) (fun i m' n' => Off [Str.ofString "start", Str.ofString "row"] m' (fun y => if y = Str.ofString "settled" then some (Value.ref se) else m y) ∧ ∃ (vs : List Value) (c : Nat) (o4 : Obj) (v4 : Option Value) (tz : List (Addr × Obj)), n' = (se, listOf vs.toArray c) :: (L + 4, o4) :: (tz ++ nz) ∧ o4.data = .cell v4 ∧ (∀ p ∈ tz, p.1 ≠ se) ∧ NotCell tz ∧ RowsIn wr tz vs i) rfl F1' N1 R1 (small_one (by l_bnd) (by l_bnd) (by l_bnd) (by l_bnd)) (rangeSize_nat _ _) ⟨Off.refl, [], 0, _, _, [], rfl, d4, fun _ hp => (nomatch hp), fun _ hp => (nomatch hp), ⟨rfl, fun j hj => absurd hj (Nat.not_lt_zero j)⟩⟩ ?_ ?_
  · intro I i t m₁ news₁ h tk oI hI hi hJ F2 N2 hn2
    refine hideL fun zQ zP zC zR zB => ?_
    obtain ⟨hoff, vs, c, o4, v4, tz, rfl, d4, htz, hnc, hR⟩ := hJ
    have e0 : (0 : Int) + (i : Int) * 1 = (i : Int) := by (first | lia | omega)
    have hq1 := neN (hn2 _ (.head _))
    have hq2 := neN (hn2 _ (.tail _ (.head _)))
    have hq3 := ltN l1.1
    dsimp only at hq1 hq2
    have hzr : ∀ p ∈ tz ++ nz, p.1 ≠ L + 4 := fun p hp => by
      rcases List.mem_append.mp hp with hp | hp
      · intro e
        have z1 := (N2 p (.tail _ (.tail _ (.tail _ (List.mem_append.mpr (.inl hp)))))).1
        have z2 := (N2 _ (.tail _ (.tail _ (.head _)))).1
        dsimp only at z2
        rw [e, z2] at z1
        injection z1 with z1
        exact hnc p hp _ (z1 ▸ d4)
      · exact hz p hp
    have hzs : ∀ p ∈ tz ++ nz, p.1 ≠ se := fun p hp => by
      rcases List.mem_append.mp hp with hp | hp
      · exact htz p hp
      · exact allLt_ne hA p hp
    have hzI : ∀ p ∈ tz ++ nz, p.1 ≠ I := fun p hp => hn2 p (.tail _ (.tail _ hp))
    have hfr : ∀ p ∈ fz, p ∈ tz ++ nz := fun p hp => List.mem_append.mpr (.inr (hfz p hp))
    generalize hrz : tz ++ nz = rz at *
    rw [e0]
    walk1
    walk1
    rename Fr _ _ _ _ => F3
    rename News _ _ _ _ => N3
    clear F2 N2
    rename Obj => o4x
    have hoff' : Off [Str.ofString "start", Str.ofString "row"] m₁ (fun y => if y = Str.ofString "settled" then some (Value.ref se) else m y) := hoff
    show wpAny _ _ (execs (body12.1.drop 0) _) _ _ _
    refine turn5a (rz := (I, oI) :: (se, listOf vs.toArray c) :: rz) X T hroom hun F3 (newsApp N3 (fun p hp => ?_)) (by assumption) hi ?_
    · revert hp; revert p
      refine consC ?_ ?_
      · k_mem
      refine consC ?_ ?_
      · k_mem
      refine consC ?_ ?_
      · k_mem
      · intro p hp
        exact .tail _ (.tail _ (.tail _ hp))
    intro h4 tk4 D ys c4 F4 N4 hys
    refine turn5b (D := D) X T hroom hun F4 N4 hys (fun p hp => .tail _ (.tail _ (.tail _ (hfr p hp)))) hW hL hwr hpr rfl ((hoff'.at rfl).trans hm1) ((hoff'.at rfl).trans hm2) ?_
    intro h5 tk5 R us c5 F5 N5 hRf hus
    have hRse := neN (hRf (se, listOf vs.toArray c) (.tail _ (.tail _ (.head _))))
    dsimp only at hRse
    refine turn5c (R := R) (se := se) (vs := vs) (c := c5) (c' := c) (rz := (L + 4, o4x) :: (I, oI) :: rz) X T hroom hun F5 (newsApp N5 (fun p hp => ?_)) hus (by rw [plain_net]; exact (net_mem hwr rfl (P := fun _ => True) (fun _ _ => trivial)).1) (Ne.symm hRse) (fun p hp => ?_) (by rw [hR.len]; (first | lia | omega)) rfl (hoff'.at rfl) ?_
    · revert hp; revert p
      refine consC ?_ ?_
      · k_mem
      refine consC ?_ ?_
      · k_mem
      refine consC ?_ ?_
      · k_mem
      refine consC ?_ ?_
      · k_mem
      · intro p hp
        exact .tail _ (.tail _ (.tail _ (.tail _ (.tail _ hp))))
    · revert hp; revert p
      refine consC ?_ ?_
      · exact Nat.ne_of_lt hq3
      refine consC ?_ ?_
      · exact Ne.symm hq1
      · intro p hp
        exact hzs p hp
    intro h6 tk6 Z zs c6 F6 N6 hzs6 hZse hZ
    all_goals (try (first | refine zP _ ?_ | dsimp only [LPost] | fail ""))
    subst hrz
    refine LEnd.intro ((se, listOf (vs ++ [Value.ref Z]).toArray (c + 1)) :: (L + 4, o4x) :: (((Z, listOf zs.toArray c6) :: tz) ++ nz)) F6 N6 (.tail _ (.tail _ (.tail _ (.tail _ (.head _))))) (fun p hp => ?_) (fun p hp => ?_) ⟨?_, _, _, _, _, (Z, listOf zs.toArray c6) :: tz, rfl, by assumption, fun p hp => ?_, fun p hp => ?_, hR.snoc (fun p hp => .tail _ hp) (.head _) hzs6⟩
    · revert hp; revert p
      refine consC ?_ ?_
      · k_mem
      refine consC ?_ ?_
      · k_mem
      refine consC ?_ ?_
      · exact .head _
      · intro p hp
        exact .tail _ (.tail _ (.tail _ (.tail _ (.tail _ hp))))
    · revert hp; revert p
      refine consC ?_ ?_
      · exact hq1
      refine consC ?_ ?_
      · exact hq2
      refine consC ?_ ?_
      · exact Ne.symm (hZ (I, oI) (.tail _ (.head _)))
      · intro p hp
        exact hzI p hp
    · exact Off.set (by decide) (Off.set (by decide) hoff)
    · revert hp; revert p
      refine consC ?_ ?_
      · exact hZse
      · intro p hp
        exact htz p hp
    · revert hp; revert p
      refine consC ?_ ?_
      · exact fun v h => by cases h
      · intro p hp
        exact hnc p hp
  · intro m₁ news₁ h tk hJ F2 N2
    obtain ⟨hoff, vs, c, o4, v4, tz, rfl, d4, htz, hnc, hR⟩ := hJ
    repeat' (first | (dsimp only; walk1) | walk1 | refine zP _ ?_ | refine zR0 _ _ ?_ | refine zP0 _ ?_ | refine zC _ ?_ | refine zR _ _ ?_ | refine zB _ ?_ | refine zE _ ?_ | fail "")
    try dsimp only
    refine ret _ _ _ o4 v4 ((se, listOf vs.toArray c) :: tz) se vs c F2 ?_ (hoff.at rfl) (newsApp N2 (fun p hp => ?_)) d4 (fun p hp => ?_) (.head _) ⟨hR.len, fun j hj => ?_⟩
    · exact Off.trans hoff (Off.set (by decide) Off.refl) (by decide)
    · revert hp; revert p
      refine consC ?_ ?_
      · k_mem
      refine consC ?_ ?_
      · k_mem
      · intro p hp
        exact .tail _ (.tail _ hp)
    · revert hp; revert p
      refine consC ?_ ?_
      · exact fun v h => by cases h
      · intro p hp
        exact hnc p hp
    · obtain ⟨b, us, d, h1, h2, h3⟩ := hR.it j hj
      exact ⟨b, us, d, h1, .tail _ h2, h3⟩

end P23
section P24

noncomputable def ltT (a : Int) (x : Str) (b : Int) (y : Str) : Bool := decide (a < b) || ((a == b) && decide (x.cps.toList < y.cps.toList))
section
variable {prog : Program} {w : World} {A : Around} {E : Value → Shared → Prop} {s : Shared}

theorem tup_lt {p q : Addr} {a b : Int} {x y : Str} {ta tb tx ty : Tok} {P : Fin → Shared → Prop} (hp : IsTup s.heap p [Value.int a ta, .str x tx].toArray) (hq : IsTup s.heap q [Value.int b tb, .str y ty].toArray)
    (h : P (.done (.ret (.bool (ltT a x b y)))) s) : wpAny (model prog w) A (Builtin.«tuple.__lt__» ⟨[.ref p, .ref q], []⟩) P E s := by
  have hT := hq.typeIs (s := s)
  obtain ⟨oa, hoa, _, na, hda⟩ := hp
  obtain ⟨ob, hob, _, nb, hdb⟩ := hq
  show wpAny _ _ (isInstance (.ref q) (.type "tuple") >>= _) _ _ s
  refine wpAny_bind (wpAny_isInstance hT isSubtype_tuple_tuple ?_)
  simp only [Bool.not_true, Bool.false_eq_true, if_false]
  refine wpAny_bind (wpAny_tupleItemsOf hoa hda ?_)
  refine wpAny_bind (wpAny_tupleItemsOf hob hdb ?_)
  refine wpAny_bind ?_
  simp only [List.zip_cons_cons, List.zip_nil_right, List.forIn_cons, List.forIn_nil]
  refine wpAny_bind (wpAny_bind (wpAny_eqBool_int ?_))
  by_cases e : a = b
  · subst e
    simp only [beq_self_eq_true, Bool.not_true, Bool.false_eq_true, if_false]
    refine wpAny_pure ?_
    try dsimp only
    refine wpAny_bind (wpAny_bind (wpAny_eqBool_str ?_))
    by_cases f : x = y
    · subst f
      simp only [decide_true, Bool.not_true, Bool.false_eq_true, if_false]
      refine wpAny_pure ?_
      try dsimp only
      refine wpAny_pure ?_
      try dsimp only
      refine wpAny_pure ?_
      have : Value.bool (ltT a x a x) = Builtin.Tuple.tupleCompareSizes .Lt 2 2 := by
        have hx : decide (x.cps.toList < x.cps.toList) = false := decide_eq_false (List.lt_irrefl _)
        have ha : decide (a < a) = false := decide_eq_false (Int.lt_irrefl a)
        simp only [ltT, hx, ha, Bool.and_false, Bool.or_false]
        rfl
      rw [this] at h
      exact h
    · rw [decide_eq_false f]
      simp only [Bool.not_false, if_true]
      refine wpAny_bind (wpAny_rule (wpAny_bind ?_))
      refine (show wpAny _ _ (compareOp .Lt (.str x tx) (.str y ty)) _ _ s from lt_str ?_)
      refine wpAny_bind (wpAny_pure ?_)
      refine wpAny_pure ?_
      try dsimp only
      refine wpAny_pure ?_
      try dsimp only
      refine wpAny_pure ?_
      have ha : decide (a < a) = false := decide_eq_false (Int.lt_irrefl a)
      simp only [ltT, ha, beq_self_eq_true, Bool.true_and, Bool.false_or] at h
      exact h
  · have hb : (a == b) = false := beq_eq_false_iff_ne.mpr e
    rw [hb]
    simp only [Bool.not_false, if_true]
    refine wpAny_bind (wpAny_rule (wpAny_bind ?_))
    refine (show wpAny _ _ (compareOp .Lt (.int a ta) (.int b tb)) _ _ s from lt_int ?_)
    refine wpAny_bind (wpAny_pure ?_)
    refine wpAny_pure ?_
    try dsimp only
    refine wpAny_pure ?_
    try dsimp only
    refine wpAny_pure ?_
    simp only [ltT, hb, Bool.false_and, Bool.or_false] at h
    exact h

theorem cmpT_lt {p q : Addr} {a b : Int} {x y : Str} {ta tb tx ty : Tok} {Q : Value → Shared → Prop} (hu : A.units < cLine) (hp : IsTup s.heap p [Value.int a ta, .str x tx].toArray) (hq : IsTup s.heap q [Value.int b tb, .str y ty].toArray)
    (h : Q (.bool (ltT a x b y)) s) : wpAny (model prog w) A (compareOp .Lt (.ref p) (.ref q)) Q E s := by
  refine cmp_ofLt (wpAny_richCompare_same_room (hp.typeIs) (hq.typeIs) F.slot_tuple_lt ?_ hu)
  exact wpAny_call_entry F.slot_tuple_lt hp.typeIs F.entry_tuple_lt (tup_lt hp hq ⟨_, rfl, (fun h => by cases h), h⟩) (F.args_tuple_lt_2 _ _)

theorem tup_ge {p q : Addr} {a b : Int} {x y : Str} {ta tb tx ty : Tok} {P : Fin → Shared → Prop} (hp : IsTup s.heap p [Value.int a ta, .str x tx].toArray) (hq : IsTup s.heap q [Value.int b tb, .str y ty].toArray)
    (h : P (.done (.ret (.bool (!ltT a x b y)))) s) : wpAny (model prog w) A (Builtin.«tuple.__ge__» ⟨[.ref p, .ref q], []⟩) P E s := by
  have hT := hq.typeIs (s := s)
  obtain ⟨oa, hoa, _, na, hda⟩ := hp
  obtain ⟨ob, hob, _, nb, hdb⟩ := hq
  show wpAny _ _ (isInstance (.ref q) (.type "tuple") >>= _) _ _ s
  refine wpAny_bind (wpAny_isInstance hT isSubtype_tuple_tuple ?_)
  simp only [Bool.not_true, Bool.false_eq_true, if_false]
  refine wpAny_bind (wpAny_tupleItemsOf hoa hda ?_)
  refine wpAny_bind (wpAny_tupleItemsOf hob hdb ?_)
  refine wpAny_bind ?_
  simp only [List.zip_cons_cons, List.zip_nil_right, List.forIn_cons, List.forIn_nil]
  refine wpAny_bind (wpAny_bind (wpAny_eqBool_int ?_))
  by_cases e : a = b
  · subst e
    simp only [beq_self_eq_true, Bool.not_true, Bool.false_eq_true, if_false]
    refine wpAny_pure ?_
    try dsimp only
    refine wpAny_bind (wpAny_bind (wpAny_eqBool_str ?_))
    by_cases f : x = y
    · subst f
      simp only [decide_true, Bool.not_true, Bool.false_eq_true, if_false]
      refine wpAny_pure ?_
      try dsimp only
      refine wpAny_pure ?_
      try dsimp only
      refine wpAny_pure ?_
      have : Value.bool (!ltT a x a x) = Builtin.Tuple.tupleCompareSizes .GtE 2 2 := by
        have hx : decide (x.cps.toList < x.cps.toList) = false := decide_eq_false (List.lt_irrefl _)
        have ha : decide (a < a) = false := decide_eq_false (Int.lt_irrefl a)
        simp only [ltT, hx, ha, Bool.and_false, Bool.or_false]
        rfl
      rw [this] at h
      exact h
    · rw [decide_eq_false f]
      simp only [Bool.not_false, if_true]
      refine wpAny_bind (wpAny_rule (wpAny_bind ?_))
      refine (show wpAny _ _ (compareOp .GtE (.str x tx) (.str y ty)) _ _ s from PySem.P.ge_str ?_)
      refine wpAny_bind (wpAny_pure ?_)
      refine wpAny_pure ?_
      try dsimp only
      refine wpAny_pure ?_
      try dsimp only
      refine wpAny_pure ?_
      have ha : decide (a < a) = false := decide_eq_false (Int.lt_irrefl a)
      simp only [ltT, ha, beq_self_eq_true, Bool.true_and, Bool.false_or] at h
      exact h
  · have hb : (a == b) = false := beq_eq_false_iff_ne.mpr e
    rw [hb]
    simp only [Bool.not_false, if_true]
    refine wpAny_bind (wpAny_rule (wpAny_bind ?_))
    refine (show wpAny _ _ (compareOp .GtE (.int a ta) (.int b tb)) _ _ s from ge_int ?_)
    refine wpAny_bind (wpAny_pure ?_)
    refine wpAny_pure ?_
    try dsimp only
    refine wpAny_pure ?_
    try dsimp only
    refine wpAny_pure ?_
    simp only [ltT, hb, Bool.false_and, Bool.or_false] at h
    have h2 : decide (a ≥ b) = !decide (a < b) := by by_cases c : a < b <;> simp [c] <;> (first | lia | omega)
    rw [h2]
    exact h

theorem cmpT_ge {p q : Addr} {a b : Int} {x y : Str} {ta tb tx ty : Tok} {Q : Value → Shared → Prop} (hu : A.units < cLine) (hp : IsTup s.heap p [Value.int a ta, .str x tx].toArray) (hq : IsTup s.heap q [Value.int b tb, .str y ty].toArray)
    (h : Q (.bool (!ltT a x b y)) s) : wpAny (model prog w) A (compareOp .GtE (.ref p) (.ref q)) Q E s := by
  refine cmp_ofGtE (wpAny_richCompare_same_room (hp.typeIs) (hq.typeIs) F.slot_tuple_ge ?_ hu)
  exact wpAny_call_entry F.slot_tuple_ge hp.typeIs F.entry_tuple_ge (tup_ge hp hq ⟨_, rfl, (fun h => by cases h), h⟩) (F.args_tuple_ge_2 _ _)

end

end P24
section P25


structure ItsAt (fz : List (Addr × Obj)) (its : List Value) (ad : Nat → Addr) (num : Nat → Int) (txt : Nat → Str) : Prop where
  eq : its = i4.map fun j => Value.ref (ad j)
  it : ∀ j, j < 4 → ∃ (tn tw : Tok) (c : Nat), (ad j, tupOf [Value.int (num j) tn, Value.str (txt j) tw] c) ∈ fz
theorem ItsAt.sub {fz fz' : List (Addr × Obj)} {its : List Value} {ad : Nat → Addr} {num : Nat → Int} {txt : Nat → Str} (H : ItsAt fz its ad num txt) (hs : ∀ p ∈ fz, p ∈ fz') : ItsAt fz' its ad num txt := ⟨H.eq, fun j hj => by
  obtain ⟨a, b, c, h⟩ := H.it j hj; exact ⟨a, b, c, hs _ h⟩⟩
theorem ItemsIn.pick {hd : Int} {cs : List Int} {tz : List (Addr × Obj)} {its : List Value} (W : ItemsIn hd cs tz its 4) :
    ∃ ad num txt, ItsAt tz its ad num txt ∧ ∀ j, j < 4 → cs[6 + j]? = some (num j) ∧ (txt j).cps.toList = writF hd (nameL j (num j)) := by
  have key : ∀ j, ∃ x : Addr × Int × Str, j < 4 → ∃ (tn : Tok) (tw : Tok) (c : Nat), cs[6 + j]? = some x.2.1 ∧ its[j]? = some (Value.ref x.1) ∧ x.2.2.cps.toList = writF hd (nameL j x.2.1) ∧ (x.1, tupOf [Value.int x.2.1 tn, Value.str x.2.2 tw] c) ∈ tz := fun j => by
    by_cases hj : j < 4
    · obtain ⟨a, n, tn, wv, tw, c, h⟩ := W.it j hj
      exact ⟨(a, n, wv), fun _ => ⟨tn, tw, c, h⟩⟩
    · exact ⟨(0, 0, Str.empty), fun h => absurd h hj⟩
  obtain ⟨f, hf⟩ := Classical.axiomOfChoice key
  refine ⟨fun j => (f j).1, fun j => (f j).2.1, fun j => (f j).2.2, ⟨?_, fun j hj => ?_⟩, fun j hj => ?_⟩
  · refine List.ext_getElem? fun j => ?_
    by_cases hj : j < 4
    · obtain ⟨_, _, _, _, h, _⟩ := hf j hj
      rw [h]
      have : i4[j]? = some j := by match j, hj with | 0, _ => rfl | 1, _ => rfl | 2, _ => rfl | 3, _ => rfl
      rw [List.getElem?_map, this]
      rfl
    · rw [List.getElem?_eq_none (by rw [W.len]; (first | lia | omega)), List.getElem?_eq_none (by simp only [List.length_map]; show 4 ≤ j; (first | lia | omega))]
  · obtain ⟨tn, tw, c, _, _, _, h⟩ := hf j hj
    exact ⟨tn, tw, c, h⟩
  · obtain ⟨tn, tw, c, h1, _, h2, _⟩ := hf j hj
    exact ⟨h1, h2⟩
theorem cmpF_lt (a : Int) (x : Str) (b : Int) (y : Str) : decide (cmpF a x b y < 0) = ltT a x b y := by
  unfold cmpF ltT
  by_cases h1 : a < b
  · simp [h1]
  · by_cases h2 : b < a
    · have h3 : (a == b) = false := beq_eq_false_iff_ne.mpr (by (first | lia | omega))
      simp [h1, h2, h3]
    · have h3 : (a == b) = true := beq_iff_eq.mpr (by (first | lia | omega))
      simp only [h1, h2, if_false, h3, decide_false, Bool.false_or, Bool.true_and]
      by_cases h4 : x.cps.toList < y.cps.toList
      · simp [h4]
      · simp only [h4, if_false, decide_false]
        split <;> simp
noncomputable def ltI (num : Nat → Int) (txt : Nat → Str) (a b : Nat) : Bool := ltT (num a) (txt a) (num b) (txt b)
noncomputable def ordI (wr : List (Int × Int)) (num : Nat → Int) (txt : Nat → Str) : List Nat := wr.foldl (sortStep 0 (ltI num txt)) i4
theorem seg6a {w : World} {dp un : Nat} {fr : Option (List Env)} {gd : Option (List Code)} {s : Shared} {Q : Flow → Shared → Prop} {mg mb : Str → Option Value} {h₀ : Heap} {L it wi : Addr} {m : Str → Option Value} {nz fz : List (Addr × Obj)} {o2 : Obj} {its : List Value} {ci : Nat} {wr : List (Int × Int)} {ad : Nat → Addr} {num : Nat → Int} {txt : Nat → Str}
   (X : (Mine.hd.heap_39 w.params).In h₀) (T : TopRead Mine.hd.view_39 Mine.hd.lz mg mb h₀) (hroom : dp + 20 < recursionLimit) (hun : un + 120 < cLine)
   (F : Fr h₀ L s.heap m) (N : News h₀ L s.heap ((L + 2, o2) :: (it, listOf its.toArray ci) :: nz)) (d2 : o2.data = .cell (some (.ref it))) (hfz : ∀ p ∈ fz, p ∈ nz) (hI : ItsAt fz its ad num txt) (hW : ∀ h, Has h fz → WiresAt h wi wr) (hwr : WiresOk wr)
   (hm1 : m (Str.ofString "wires") = some (.ref wi))
   (ret : ∀ h' tk me c, Fr h₀ L h' (fun y => if y = Str.ofString "met" then some (.ref me) else m y) → News h₀ L h' ((me, listOf ((ordI wr num txt).map fun j => Value.ref (ad j)).toArray c) :: (L + 2, o2) :: (it, listOf its.toArray ci) :: nz) → (∀ p ∈ nz, p.1 ≠ me) → me ≠ L + 2 →
     wpAny (model prog w) (Ar dp un fr gd) (execs (lawBody.drop 14) (lawEnv L)) Q (fun _ _ => False) { s with heap := h', toks := tk }) :
   wpAny (model prog w) (Ar dp un fr gd) (execs (lawBody.drop 13) (lawEnv L)) Q (fun _ _ => False) s := by
  rw [bd13]
  have ep := pin hm1
  rw [ep] at F
  dsimp only [st13]
  generalize hB : lawBody.drop 14 = B at *
  repeat' (first | (dsimp only; walk1) | walk1 | refine zP _ ?_ | refine zR0 _ _ ?_ | refine zP0 _ ?_ | refine zC _ ?_ | refine zR _ _ ?_ | refine zB _ ?_ | refine zE _ ?_ | fail "")
  rename Fr _ _ _ _ => F1
  rename News _ _ _ _ => N1
  have H1 := Has.of N1 (fun p hp => .tail _ (.tail _ (hfz p hp)))
  refine unstop ?_
  refine' rows_sum (rs := i4) (ad := ad) (num := num) (txt := txt) (X.keeps F1.keep) (T.keeps F1.keep) ?h1 ?h2 rfl i4_mem ?h3 (hW _ H1) hwr ?_
  case h1 => ((try simp only [depth_under_make, depth_under_kw, depth_in1, depth_deeper, depth_caller]); (try dsimp only [Ar]); (first | lia | omega))
  case h2 => rw [← hI.eq]; exact News.isList N1 (.tail _ (.head _))
  case h3 =>
    intro j hj
    obtain ⟨tn, tw, c, hm⟩ := hI.it j hj
    exact ⟨tn, tw, H1.tup hm⟩
  intro h' tk' R c' hk hR hn
  have e1 : (fun a b => decide (cmpF (num a) (txt a) (num b) (txt b) < 0)) = ltI num txt := funext fun a => funext fun b => cmpF_lt ..
  rw [e1] at hR
  have fr2 : ∀ p ∈ (L + 2, o2) :: (it, listOf its.toArray ci) :: nz, p.1 ≠ R := fun p hp e => by
    have := (N1 p hp).1
    rw [e] at this
    rw [show _ = none from hn] at this
    cases this
  have N2 := News.more F1 (N1.keeps hk) hR hn
  have F2 := F1.keeps hk
  clear F1 N1 H1
  repeat' (first | (dsimp only; walk1) | walk1 | refine zP _ ?_ | refine zR0 _ _ ?_ | refine zP0 _ ?_ | refine zC _ ?_ | refine zR _ _ ?_ | refine zB _ ?_ | refine zE _ ?_ | fail "")
  try dsimp only
  rename Fr _ _ _ _ => F3
  rename News _ _ _ _ => N3
  refine ret _ _ R c' (Fr.re F3 (congrArg (fun (k : Str → Option Value) => fun y => if y = Str.ofString "met" then some (Value.ref R) else k y) ep)) N3 (fun p hp => fr2 p (.tail _ (.tail _ hp))) (Ne.symm (fr2 _ (.head _)))

end P25
section P26


noncomputable def body14 : {b : List Stmt // ∃ t i p, st14.1 = Stmt.For t i b [] p} := ⟨_, _, _, _, rfl⟩
noncomputable def td0 : {x : Stmt // body14.1[0]? = some x} := ⟨_, rfl⟩
noncomputable def td1 : {x : Stmt // body14.1[1]? = some x} := ⟨_, rfl⟩
theorem bg0 : body14.1.drop 0 = td0.1 :: body14.1.drop 1 := rfl
theorem bg1 : body14.1.drop 1 = td1.1 :: body14.1.drop 2 := rfl

/-- the weights of the items at the bar -/
noncomputable def wts (num : Nat → Int) (txt : Nat → Str) (b k : Nat) : List Int := ((List.range k).filter fun j => !ltI num txt j b).map fun j => 2 ^ j
theorem wts_succ_pos {num : Nat → Int} {txt : Nat → Str} {b k : Nat} (h : ltI num txt k b = false) : wts num txt b (k + 1) = wts num txt b k ++ [2 ^ k] := by
  simp [wts, List.range_succ, List.filter_append, h]
theorem wts_succ_neg {num : Nat → Int} {txt : Nat → Str} {b k : Nat} (h : ltI num txt k b = true) : wts num txt b (k + 1) = wts num txt b k := by
  simp [wts, List.range_succ, List.filter_append, h]
theorem i4_get {k : Nat} (hk : k < 4) : i4[k]? = some k := by
  match k, hk with
  | 0, _ => rfl
  | 1, _ => rfl
  | 2, _ => rfl
  | 3, _ => rfl
theorem ItsAt.get {fz : List (Addr × Obj)} {its : List Value} {ad : Nat → Addr} {num : Nat → Int} {txt : Nat → Str} (H : ItsAt fz its ad num txt) {k : Nat} (hk : k < 4) : its[((k : Int)).toNat]? = some (Value.ref (ad k)) := by
  rw [H.eq, Int.toNat_natCast, List.getElem?_map, i4_get hk]
  rfl
theorem turn6a {w : World} {dp un : Nat} {fr : Option (List Env)} {gd : Option (List Code)} {s : Shared} {Q : Flow → Shared → Prop} {mg mb : Str → Option Value} {h₀ : Heap} {L it : Addr} {m : Str → Option Value} {rz fz : List (Addr × Obj)} {o2 o4 o5 : Obj} {its : List Value} {ci b : Nat} {ad : Nat → Addr} {num : Nat → Int} {txt : Nat → Str}
   (X : (Mine.hd.heap_39 w.params).In h₀) (T : TopRead Mine.hd.view_39 Mine.hd.lz mg mb h₀) (hroom : dp + 20 < recursionLimit) (hun : un + 120 < cLine)
   (F : Fr h₀ L s.heap m) (N : News h₀ L s.heap ((L + 4, o4) :: (L + 5, o5) :: (L + 2, o2) :: (it, listOf its.toArray ci) :: rz)) {v4 : Option Value} (d4 : o4.data = .cell v4) (d2 : o2.data = .cell (some (.ref it))) (d5 : o5.data = .cell (some (.ref (ad b)))) (hb : b < 4) (hfz : ∀ p ∈ fz, p ∈ rz) (hI : ItsAt fz its ad num txt)
   (hit : @LT.lt Nat _ (L + 7) it) (hz : ∀ p ∈ rz, p.1 ≠ L + 4)
   (ret : ∀ h' tk (zs : List Value) c1 D o4' t, Fr h₀ L h' m → News h₀ L h' ((D, listOf zs.toArray c1) :: (L + 4, o4') :: (L + 5, o5) :: (L + 2, o2) :: (it, listOf its.toArray ci) :: rz) → o4'.data = .cell (some (.int ((wts num txt b 4).sum) t)) → (∀ p ∈ rz, @LT.lt Nat _ p.1 D) →
     wpAny (model prog w) (Ar dp un fr gd) (execs (body14.1.drop 1) (lawEnv L)) Q (fun _ _ => False) { s with heap := h', toks := tk }) :
   wpAny (model prog w) (Ar dp un fr gd) (execs (body14.1.drop 0) (lawEnv L)) Q (fun _ _ => False) s := by
  rw [bg0]
  dsimp only [td0]
  generalize hB : body14.1.drop 1 = B at *
  repeat' (first | ((with_reducible show wpAny _ _ (compareOp CmpOp.Lt (Value.ref _) (Value.ref _)) _ _ _); refine cmpT_lt ?_ ?_ ?_ ?_) | (dsimp only; walk1) | walk1 | refine zP _ ?_ | refine zR0 _ _ ?_ | refine zP0 _ ?_ | refine zC _ ?_ | refine zR _ _ ?_ | refine zB _ ?_ | refine zE _ ?_ | fail "")
  rename Fr _ _ _ _ => F1
  rename News _ _ _ _ => N1
  rename IsRange _ _ _ _ _ _ _ _ => R1
  refine comp_range (n := 4) none (J := fun D C k m' n' => ∃ zs c1, n' = (D, listOf zs.toArray c1) :: _ ∧ IntsAre zs (wts num txt b k) ∧ zs.length ≤ k ∧ (0 < k → @LT.lt Nat _ (L + 4) D ∧ ∀ p ∈ rz, @LT.lt Nat _ p.1 D)) rfl (fun _ => rfl) (fun _ => rfl) F1 N1 R1 (small_one (by l_bnd) (by l_bnd) (by l_bnd) (by l_bnd)) (rangeSize_nat _ _) (fun D C => ⟨[], 0, rfl, .nil, Nat.le_refl _, fun h => absurd h (Nat.lt_irrefl 0)⟩) ?_ ?_
  · intro g I D C k t m₁ news₁ h tk oI G1 G2 g1 g2 g3 hk hJ F2 N2 hn2
    refine hideT fun zQ zE => ?_
    obtain ⟨zs, c1, rfl, hZ, hzl, hD⟩ := hJ
    have g5 : ∀ p ∈ rz, @LT.lt Nat _ p.1 D := fun p hp => Nat.lt_trans (g1 p (.tail _ (.tail _ (.tail _ (.tail _ hp))))) g2
    replace X := X.keeps G1
    replace T := T.keeps G1
    clear G1 G2 F1 N1
    k_lt g1; k_lt2 g2; k_lt2 g3
    simp only [ownL_none, ownC_none, List.nil_append] at F2 N2 ⊢
    have hDI := neN (hn2 _ (.head _))
    dsimp only at hDI
    have e0 : (0 : Int) + (k : Int) * 1 = (k : Int) := by (first | lia | omega)
    rw [e0]
    have g4 : @LT.lt Nat _ (L + 4) D ∧ ∀ p ∈ rz, @LT.lt Nat _ p.1 D := ⟨Nat.lt_trans g1.1 g2, g5⟩
    have g1r : AllLt D rz := allLt_mono g1.2.2.2.2 g2
    repeat' (first | ((with_reducible show wpAny _ _ (compareOp CmpOp.Lt (Value.ref _) (Value.ref _)) _ _ _); refine cmpT_lt ?_ ?_ ?_ ?_) | (dsimp only; walk1) | walk1 | refine zP _ ?_ | refine zR0 _ _ ?_ | refine zP0 _ ?_ | refine zC _ ?_ | refine zR _ _ ?_ | refine zB _ ?_ | refine zE _ ?_ | fail "" | dsimp only [turnGoal])
    obtain ⟨tn, tw, cc, hm1⟩ := hI.it k hk
    obtain ⟨tn2, tw2, cc2, hm2⟩ := hI.it b hb
    rename Fr _ _ _ _ => F3
    rename News _ _ _ _ => N3
    have H3 : Has _ fz := Has.of N3 (fun p hp => (.tail _ (.tail _ (.tail _ (.tail _ (.tail _ (.tail _ (hfz p hp))))))))
    have q1 := H3.tup hm1
    have q2 := H3.tup hm2
    clear H3
    refine sub_list (v := Value.ref (ad k)) N3 (by k_mem) (by (first | lia | omega)) (by (first | lia | omega)) (hI.get hk) ?_
    repeat' (first | ((with_reducible show wpAny _ _ (compareOp CmpOp.Lt (Value.ref _) (Value.ref _)) _ _ _); refine cmpT_lt ?_ ?_ ?_ ?_) | (dsimp only; walk1) | walk1 | refine zP _ ?_ | refine zR0 _ _ ?_ | refine zP0 _ ?_ | refine zC _ ?_ | refine zR _ _ ?_ | refine zB _ ?_ | refine zE _ ?_ | fail "" | dsimp only [turnGoal])
    refine cmpT_ge ?hu q1 q2 ?_
    case hu => ((try simp only [units_in1, units_deeper, Around.mark_units, units_caller]); (try dsimp only [Ar]); (first | lia | omega))
    by_cases hlt : ltI num txt k b = true
    · rw [show ltT _ _ _ _ = true from hlt]
      repeat' (first | ((with_reducible show wpAny _ _ (compareOp CmpOp.Lt (Value.ref _) (Value.ref _)) _ _ _); refine cmpT_lt ?_ ?_ ?_ ?_) | (dsimp only; walk1) | walk1 | refine zP _ ?_ | refine zR0 _ _ ?_ | refine zP0 _ ?_ | refine zC _ ?_ | refine zR _ _ ?_ | refine zB _ ?_ | refine zE _ ?_ | fail "" | dsimp only [turnGoal])
      exact LEnd.intro _ (by assumption) (by assumption) (by k_mem) (fun p hp => .tail _ hp) (ne_head hn2) ⟨_, _, rfl, by rw [wts_succ_neg hlt]; exact hZ, Nat.le_succ_of_le hzl, fun _ => g4⟩
    · rw [show ltT _ _ _ _ = false from eq_false_of_ne_true hlt]
      repeat' (first | ((with_reducible show wpAny _ _ (compareOp CmpOp.Lt (Value.ref _) (Value.ref _)) _ _ _); refine cmpT_lt ?_ ?_ ?_ ?_) | (dsimp only; walk1) | walk1 | refine zP _ ?_ | refine zR0 _ _ ?_ | refine zP0 _ ?_ | refine zC _ ?_ | refine zR _ _ ?_ | refine zB _ ?_ | refine zE _ ?_ | fail "" | dsimp only [turnGoal])
      all_goals (first | ((try simp only [units_in1, units_deeper, Around.mark_units, units_caller]); (try dsimp only [Ar]); (first | lia | omega)) | skip)
      refine LEnd.intro _ (by assumption) (by assumption) (by k_mem) (fun p hp => .tail _ hp) (ne_head hn2) ⟨_, _, rfl, ?_, by simp; (first | lia | omega), fun _ => g4⟩
      rw [wts_succ_pos (eq_false_of_ne_true hlt)]
      have e5 : (1 : Int) * 2 ^ ((k : Int)).toNat = 2 ^ k := by rw [Int.one_mul, Int.toNat_natCast]
      rw [← e5]
      exact IntsAre.append hZ (.cons _ _ .nil)
  · intro D C m₁ news₁ h tk hJ F2 N2
    obtain ⟨zs, c1, rfl, hZ, hzl, hD⟩ := hJ
    simp only [ownL_none, List.nil_append] at N2
    have hD4 := neN (Nat.ne_of_gt (hD (by (first | lia | omega))).1)
    repeat' (first | ((with_reducible show wpAny _ _ (compareOp CmpOp.Lt (Value.ref _) (Value.ref _)) _ _ _); refine cmpT_lt ?_ ?_ ?_ ?_) | (dsimp only; walk1) | walk1 | refine zP _ ?_ | refine zR0 _ _ ?_ | refine zP0 _ ?_ | refine zC _ ?_ | refine zR _ _ ?_ | refine zB _ ?_ | refine zE _ ?_ | fail "")
    rename Fr _ _ _ _ => F9
    rename News _ _ _ _ => N9
    exact ret _ _ zs c1 D _ _ F9 N9 (by assumption) (hD (by (first | lia | omega))).2

end P26
section P27


theorem wts_mask (num : Nat → Int) (txt : Nat → Str) (b : Nat) : (wts num txt b 4).sum = ((mask (ltI num txt) b : Nat) : Int) := by
  unfold wts mask
  have e : List.range 4 = [0, 1, 2, 3] := rfl
  rw [e]
  cases h0 : ltI num txt 0 b <;> cases h1 : ltI num txt 1 b <;> cases h2 : ltI num txt 2 b <;> cases h3 : ltI num txt 3 b <;> simp [List.filter, h0, h1, h2, h3]
theorem ord_lt {wr : List (Int × Int)} (hw : WiresOk wr) (num : Nat → Int) (txt : Nat → Str) : (ordI wr num txt).length = 4 ∧ ∀ a ∈ ordI wr num txt, a < 4 := net_mem hw rfl i4_mem
theorem turn6b {w : World} {dp un : Nat} {fr : Option (List Env)} {gd : Option (List Code)} {s : Shared} {Q : Flow → Shared → Prop} {mg mb : Str → Option Value} {h₀ : Heap} {L se me : Addr} {m : Str → Option Value} {rz fz : List (Addr × Obj)} {o4 o5 : Obj} {its vs : List Value} {c cm b : Nat} {t4 : Tok} {ad : Nat → Addr} {num : Nat → Int} {txt : Nat → Str} {wr : List (Int × Int)}
   (X : (Mine.hd.heap_39 w.params).In h₀) (T : TopRead Mine.hd.view_39 Mine.hd.lz mg mb h₀) (hroom : dp + 20 < recursionLimit) (hun : un + 120 < cLine)
   (F : Fr h₀ L s.heap m) (N : News h₀ L s.heap ((L + 4, o4) :: (L + 5, o5) :: rz)) (d4 : o4.data = .cell (some (.int ((mask (ltI num txt) b : Nat) : Int) t4))) (d5 : o5.data = .cell (some (.ref (ad b)))) (hb : b < 4) (hfz : ∀ p ∈ fz, p ∈ rz) (hI : ItsAt fz its ad num txt)
   (hse : (se, listOf vs.toArray c) ∈ rz) (hR : RowsIn wr rz vs 16) (hme : (me, listOf ((ordI wr num txt).map fun j => Value.ref (ad j)).toArray cm) ∈ rz) (hwr : WiresOk wr) (hlaw : rowS wr (mask (ltI num txt) b) = (ordI wr num txt).map (thr (ltI num txt) b))
   (hm : m (Str.ofString "settled") = some (.ref se)) (hm1 : m (Str.ofString "met") = some (.ref me))
   (ret : ∀ h' tk (D : Addr) (zs : List Value) c1, Fr h₀ L h' m → News h₀ L h' ((D, listOf zs.toArray c1) :: (L + 4, o4) :: (L + 5, o5) :: rz) → (∀ p ∈ rz, @LT.lt Nat _ p.1 D) → Q .next { s with heap := h', toks := tk }) :
   wpAny (model prog w) (Ar dp un fr gd) (execs (body14.1.drop 1) (lawEnv L)) Q (fun _ _ => False) s := by
  rw [bg1]
  have ep := pin2 hm hm1
  rw [ep] at F
  show wpAny _ _ (execs [td1.1] (lawEnv L)) _ _ _
  dsimp only [td1]
  have hmk := mask_lt (ltI num txt) b
  generalize hM : mask (ltI num txt) b = M at *
  obtain ⟨a, ws, ca, hva, hma, hwa⟩ := hR.it M hmk
  obtain ⟨hol, hom⟩ := ord_lt hwr num txt
  generalize hO : ordI wr num txt = os at *
  repeat' (first | (dsimp only; walk1) | walk1 | refine zP _ ?_ | refine zR0 _ _ ?_ | refine zP0 _ ?_ | refine zC _ ?_ | refine zR _ _ ?_ | refine zB _ ?_ | refine zE _ ?_ | fail "")
  refine sub_list (v := Value.ref a) N (.tail _ (.tail _ hse)) (by (first | lia | omega)) (by (first | lia | omega)) (by rw [Int.toNat_natCast]; exact hva) ?_
  repeat' (first | (dsimp only; walk1) | walk1 | refine zP _ ?_ | refine zR0 _ _ ?_ | refine zP0 _ ?_ | refine zC _ ?_ | refine zR _ _ ?_ | refine zB _ ?_ | refine zE _ ?_ | fail "")
  refine comp_listN none (J := fun D C i m' n' => ∃ zs c1, n' = (D, listOf zs.toArray c1) :: (L + 4, o4) :: (L + 5, o5) :: rz ∧ IntsAre zs ((os.take i).map (thr (ltI num txt) b)) ∧ zs.length = i ∧ (0 < i → ∀ p ∈ (L + 4, o4) :: (L + 5, o5) :: rz, @LT.lt Nat _ p.1 D)) rfl (fun _ => rfl) (fun _ => rfl) F N (.tail _ (.tail _ hme)) (fun D C i m' n' hJ => by obtain ⟨zs, c1, rfl, _⟩ := hJ; exact .tail _ (.tail _ (.tail _ hme))) (fun D C => ⟨[], 0, rfl, .nil, rfl, fun h => absurd h (Nat.lt_irrefl 0)⟩) ?_ ?_
  · intro g I D C i v m₁ news₁ h tk oI G1 G2 g1 g2 g3 hx hJ F2 N2 hn2
    refine hideT fun zQ zE => ?_
    obtain ⟨zs, c1, rfl, hz, hzl, _⟩ := hJ
    have g4 : ∀ p ∈ (L + 4, o4) :: (L + 5, o5) :: rz, @LT.lt Nat _ p.1 D := fun p hp => Nat.lt_trans (g1 p hp) g2
    replace X := X.keeps G1
    replace T := T.keeps G1
    clear G1 G2
    obtain ⟨j, hj, rfl⟩ : ∃ j, os[i]? = some j ∧ v = Value.ref (ad j) := by
      rw [List.getElem?_map] at hx
      cases hq : os[i]? with
      | none => rw [hq] at hx; cases hx
      | some j => rw [hq] at hx; injection hx with hx; exact ⟨j, rfl, hx.symm⟩
    have hj4 := hom j (List.mem_of_getElem? hj)
    have hi4 : i < 4 := by
      have := (List.getElem?_eq_some_iff.mp hj).1
      (first | lia | omega)
    have g1r : AllLt D rz := allLt_of fun p hp => g4 p (.tail _ (.tail _ hp))
    k_lt g1; k_lt2 g2; k_lt2 g3
    try simp only [ownL_none, ownC_none, List.nil_append] at F2 N2 ⊢
    have hDI := neN (hn2 _ (.head _))
    dsimp only at hDI
    repeat' (first | (dsimp only; walk1) | walk1 | refine zP _ ?_ | refine zR0 _ _ ?_ | refine zP0 _ ?_ | refine zC _ ?_ | refine zR _ _ ?_ | refine zB _ ?_ | refine zE _ ?_ | fail "" | dsimp only [turnGoal])
    obtain ⟨tn, tw, cc, hm1⟩ := hI.it j hj4
    obtain ⟨tn2, tw2, cc2, hm2⟩ := hI.it b hb
    rename Fr _ _ _ _ => F3
    rename News _ _ _ _ => N3
    have H3 : Has _ fz := Has.of N3 (fun p hp => .tail _ (.tail _ (.tail _ (.tail _ (hfz p hp)))))
    have q1 := H3.tup hm1
    have q2 := H3.tup hm2
    clear H3
    refine cmpT_ge ?hu q1 q2 ?_
    case hu => ((try simp only [units_in1, units_deeper, Around.mark_units, units_caller]); (try dsimp only [Ar]); (first | lia | omega))
    have fin : ∀ (u : Tok), IntsAre (zs ++ [Value.int (thr (ltI num txt) b j) u]) ((os.take (i + 1)).map (thr (ltI num txt) b)) := fun u => by
      rw [List.take_add_one, hj, Option.toList, List.map_append]
      exact IntsAre.append hz (.cons _ _ .nil)
    unfold thr at fin
    have q5 : ltT (num j) (txt j) (num b) (txt b) = ltI num txt j b := rfl
    cases hlt : ltI num txt j b with
    | true =>
      rw [q5, hlt]
      simp only [hlt, if_true] at fin
      repeat' (first | (dsimp only; walk1) | walk1 | refine zP _ ?_ | refine zR0 _ _ ?_ | refine zP0 _ ?_ | refine zC _ ?_ | refine zR _ _ ?_ | refine zB _ ?_ | refine zE _ ?_ | fail "" | dsimp only [turnGoal])
      exact LEnd.intro _ (by assumption) (by assumption) (by k_mem) (fun p hp => .tail _ hp) (ne_head hn2) ⟨_, _, rfl, fin _, by rw [List.length_append, hzl]; rfl, fun _ => g4⟩
    | false =>
      rw [q5, hlt]
      simp only [hlt, Bool.false_eq_true, if_false] at fin
      repeat' (first | (dsimp only; walk1) | walk1 | refine zP _ ?_ | refine zR0 _ _ ?_ | refine zP0 _ ?_ | refine zC _ ?_ | refine zR _ _ ?_ | refine zB _ ?_ | refine zE _ ?_ | fail "" | dsimp only [turnGoal])
      exact LEnd.intro _ (by assumption) (by assumption) (by k_mem) (fun p hp => .tail _ hp) (ne_head hn2) ⟨_, _, rfl, fin _, by rw [List.length_append, hzl]; rfl, fun _ => g4⟩
  · intro D C m₁ news₁ h tk hJ F2 N2
    obtain ⟨zs, c1, rfl, hz, hzl, hD⟩ := hJ
    have hD := hD (by simp only [List.length_map]; (first | lia | omega))
    rw [List.take_of_length_le (by simp)] at hz
    rw [← hlaw] at hz
    repeat' (first | (dsimp only; walk1) | walk1 | refine zP _ ?_ | refine zR0 _ _ ?_ | refine zP0 _ ?_ | refine zC _ ?_ | refine zR _ _ ?_ | refine zB _ ?_ | refine zE _ ?_ | fail "")
    have L1 : h.IsList a ws.toArray := News.isList N2 (.tail _ (.tail _ (.tail _ hma)))
    have L2 : h.IsList D zs.toArray := News.isList N2 (.head _)
    refine ne_intsK L1 hwa L2 hz (show un + 64 < cLine by (first | lia | omega)) ?_
    rw [decide_eq_true rfl]
    repeat' (first | (dsimp only; walk1) | walk1 | refine zP _ ?_ | refine zR0 _ _ ?_ | refine zP0 _ ?_ | refine zC _ ?_ | refine zR _ _ ?_ | refine zB _ ?_ | refine zE _ ?_ | fail "")
    exact ret _ _ D zs c1 (Fr.re F2 ep) N2 (fun p hp => hD p (.tail _ (.tail _ hp)))

end P27
section P28


theorem RowsIn.sub {wr : List (Int × Int)} {fz fz' : List (Addr × Obj)} {vs : List Value} {k : Nat} (W : RowsIn wr fz vs k) (hs : ∀ p ∈ fz, p ∈ fz') : RowsIn wr fz' vs k := ⟨W.len, fun j hj => by
  obtain ⟨a, ws, c, h1, h2, h3⟩ := W.it j hj
  exact ⟨a, ws, c, h1, hs _ h2, h3⟩⟩
theorem notCell_ne {h₀ h : Heap} {L x : Addr} {news tz : List (Addr × Obj)} {o : Obj} {v : Option Value} (N : News h₀ L h news) (hx : (x, o) ∈ news) (d : o.data = .cell v) (hs : ∀ p ∈ tz, p ∈ news) (hc : NotCell tz) : ∀ p ∈ tz, p.1 ≠ x := fun p hp e => by
  have z1 := (N p (hs p hp)).1
  have z2 := (N _ hx).1
  dsimp only at z2
  rw [e, z2] at z1
  injection z1 with z1
  exact hc p hp _ (z1 ▸ d)
theorem seg6b {w : World} {dp un : Nat} {fr : Option (List Env)} {gd : Option (List Code)} {s : Shared} {Q : Flow → Shared → Prop} {mg mb : Str → Option Value} {h₀ : Heap} {L it se me : Addr} {m : Str → Option Value} {nz fz : List (Addr × Obj)} {o2 o4 o5 : Obj} {v4 v5 : Option Value} {its vs : List Value} {ci c cm : Nat} {ad : Nat → Addr} {num : Nat → Int} {txt : Nat → Str} {wr : List (Int × Int)}
   (X : (Mine.hd.heap_39 w.params).In h₀) (T : TopRead Mine.hd.view_39 Mine.hd.lz mg mb h₀) (hroom : dp + 20 < recursionLimit) (hun : un + 120 < cLine)
   (F : Fr h₀ L s.heap m) (N : News h₀ L s.heap ((L + 4, o4) :: (L + 5, o5) :: (L + 2, o2) :: (it, listOf its.toArray ci) :: nz)) (d4 : o4.data = .cell v4) (d5 : o5.data = .cell v5) (d2 : o2.data = .cell (some (.ref it))) (hit : @LT.lt Nat _ (L + 7) it) (hz4 : ∀ p ∈ nz, p.1 ≠ L + 4) (hz5 : ∀ p ∈ nz, p.1 ≠ L + 5)
   (hfz : ∀ p ∈ fz, p ∈ nz) (hI : ItsAt fz its ad num txt) (hse : (se, listOf vs.toArray c) ∈ nz) (hR : RowsIn wr nz vs 16) (hme : (me, listOf ((ordI wr num txt).map fun j => Value.ref (ad j)).toArray cm) ∈ nz) (hwr : WiresOk wr)
   (hlaw : ∀ b, b < 4 → rowS wr (mask (ltI num txt) b) = (ordI wr num txt).map (thr (ltI num txt) b))
   (hm : m (Str.ofString "settled") = some (.ref se)) (hm1 : m (Str.ofString "met") = some (.ref me))
   (ret : ∀ h' tk o4' v4' o5' v5' tz, Fr h₀ L h' m → News h₀ L h' ((L + 4, o4') :: (L + 5, o5') :: (L + 2, o2) :: (it, listOf its.toArray ci) :: (tz ++ nz)) → o4'.data = .cell v4' → o5'.data = .cell v5' → NotCell tz →
     wpAny (model prog w) (Ar dp un fr gd) (execs (lawBody.drop 15) (lawEnv L)) Q (fun _ _ => False) { s with heap := h', toks := tk }) :
   wpAny (model prog w) (Ar dp un fr gd) (execs (lawBody.drop 14) (lawEnv L)) Q (fun _ _ => False) s := by
  rw [bd14]
  dsimp only [st14]
  generalize hB : lawBody.drop 15 = B at *
  repeat' (first | (dsimp only; walk1) | walk1 | refine zP _ ?_ | refine zR0 _ _ ?_ | refine zP0 _ ?_ | refine zC _ ?_ | refine zR _ _ ?_ | refine zB _ ?_ | refine zE _ ?_ | fail "")
  refine for_listN (items := its) (fun i m' n' => m' = m ∧ ∃ (o4 : Obj) (v4 : Option Value) (o5 : Obj) (v5 : Option Value) (tz : List (Addr × Obj)), n' = (L + 4, o4) :: (L + 5, o5) :: (L + 2, o2) :: (it, listOf its.toArray ci) :: (tz ++ nz) ∧ o4.data = .cell v4 ∧ o5.data = .cell v5 ∧ NotCell tz) rfl F N (fun i m' n' hj => by obtain ⟨_, o4, v4, o5, v5, tz, rfl, _⟩ := hj; k_mem) ⟨rfl, _, _, _, _, [], rfl, d4, d5, fun _ hp => (nomatch hp)⟩ ?_ ?_
  · intro I i v m₁ news₁ h tk oI hI0 hx hJ F3 N3 hn3
    refine hideL fun zQ zP zC zR zB => ?_
    obtain ⟨rfl, o4', v4', o5', v5', tz, rfl, d4', d5', hnc⟩ := hJ
    have hi4 : i < 4 := by
      rcases Nat.lt_or_ge i 4 with q | q
      · exact q
      · rw [hI.eq, List.getElem?_eq_none (by simpa [i4] using q)] at hx; cases hx
    have hv : v = Value.ref (ad i) := by
      have := hI.get hi4
      rw [Int.toNat_natCast, hx] at this
      injection this
    subst hv
    have hq1 := neN (hn3 _ (.head _))
    have hq2 := neN (hn3 _ (.tail _ (.head _)))
    have hq3 := neN (hn3 _ (.tail _ (.tail _ (.head _))))
    have hq4 := neN (hn3 _ (.tail _ (.tail _ (.tail _ (.head _)))))
    dsimp only at hq1 hq2 hq3 hq4
    have hmt : ∀ p ∈ tz, p ∈ (I, oI) :: (L + 4, o4') :: (L + 5, o5') :: (L + 2, o2) :: (it, listOf its.toArray ci) :: (tz ++ nz) := fun p hp => .tail _ (.tail _ (.tail _ (.tail _ (.tail _ (List.mem_append.mpr (.inl hp))))))
    have e4 := notCell_ne N3 (.tail _ (.head _)) d4' hmt hnc
    have e5 := notCell_ne N3 (.tail _ (.tail _ (.head _))) d5' hmt hnc
    have hr4 : ∀ p ∈ tz ++ nz, p.1 ≠ L + 4 := fun p hp => (List.mem_append.mp hp).elim (e4 p) (hz4 p)
    have hr5 : ∀ p ∈ tz ++ nz, p.1 ≠ L + 5 := fun p hp => (List.mem_append.mp hp).elim (e5 p) (hz5 p)
    have hzI : ∀ p ∈ tz ++ nz, p.1 ≠ I := fun p hp => hn3 p (.tail _ (.tail _ (.tail _ (.tail _ hp))))
    have hin : ∀ p ∈ nz, p ∈ tz ++ nz := fun p hp => List.mem_append.mpr (.inr hp)
    generalize hrz : tz ++ nz = rz at *
    walk1
    walk1
    rename Fr _ _ _ _ => F4
    rename News _ _ _ _ => N4
    rename Obj => o5x
    clear F3 N3
    show wpAny _ _ (execs (body14.1.drop 0) _) _ _ _
    refine turn6a (ci := ci) (o4 := o4') (o5 := o5x) (o2 := o2) (rz := (I, oI) :: rz) X T hroom hun F4 (newsApp N4 (fun p hp => ?_)) d4' d2 (by assumption) hi4 (fun p hp => .tail _ (hin p (hfz p hp))) hI hit (fun p hp => ?_) ?_
    · revert hp; revert p
      refine consC ?_ ?_
      · k_mem
      refine consC ?_ ?_
      · k_mem
      refine consC ?_ ?_
      · k_mem
      refine consC ?_ ?_
      · k_mem
      refine consC ?_ ?_
      · exact .head _
      · intro p hp
        exact .tail _ (.tail _ (.tail _ (.tail _ (.tail _ hp))))
    · revert hp; revert p
      refine consC ?_ ?_
      · exact Ne.symm hq1
      · intro p hp
        exact hr4 p hp
    intro h5 tk5 zs c1 D o4x t4 F5 N5 d4x hD
    rw [wts_mask] at d4x
    clear F4 N4
    refine turn6b (o4 := o4x) (o5 := o5x) (rz := (D, listOf zs.toArray c1) :: (L + 2, o2) :: (it, listOf its.toArray ci) :: (I, oI) :: rz) X T hroom hun F5 (newsApp N5 (fun p hp => ?_)) d4x (by assumption) hi4 (fun p hp => .tail _ (.tail _ (.tail _ (.tail _ (hin p (hfz p hp)))))) hI (.tail _ (.tail _ (.tail _ (.tail _ (hin _ hse))))) (hR.sub fun p hp => .tail _ (.tail _ (.tail _ (.tail _ (hin p hp))))) (.tail _ (.tail _ (.tail _ (.tail _ (hin _ hme))))) hwr (hlaw i hi4) hm hm1 ?_
    · revert hp; revert p
      refine consC ?_ ?_
      · k_mem
      refine consC ?_ ?_
      · k_mem
      refine consC ?_ ?_
      · k_mem
      refine consC ?_ ?_
      · k_mem
      refine consC ?_ ?_
      · k_mem
      refine consC ?_ ?_
      · k_mem
      · intro p hp
        exact .tail _ (.tail _ (.tail _ (.tail _ (.tail _ (.tail _ hp)))))
    intro h6 tk6 D2 zs2 c2 F6 N6 hD2
    all_goals (try (first | refine zP _ ?_ | dsimp only [LPost] | fail ""))
    subst hrz
    have w1 := hD _ (.head _)
    have w2 := hD2 _ (.tail _ (.tail _ (.tail _ (.head _))))
    dsimp only at w1 w2
    refine LEnd.intro ((L + 4, o4x) :: (L + 5, o5x) :: (L + 2, o2) :: (it, listOf its.toArray ci) :: (((D, listOf zs.toArray c1) :: (D2, listOf zs2.toArray c2) :: tz) ++ nz)) F6 N6 (by k_mem) (fun p hp => ?_) (fun p hp => ?_) ⟨rfl, _, _, _, _, (D, listOf zs.toArray c1) :: (D2, listOf zs2.toArray c2) :: tz, rfl, d4x, by assumption, fun p hp => ?_⟩
    · revert hp; revert p
      refine consC ?_ ?_
      · k_mem
      refine consC ?_ ?_
      · k_mem
      refine consC ?_ ?_
      · k_mem
      refine consC ?_ ?_
      · k_mem
      refine consC ?_ ?_
      · k_mem
      refine consC ?_ ?_
      · k_mem
      · intro p hp
        exact .tail _ (.tail _ (.tail _ (.tail _ (.tail _ (.tail _ (.tail _ hp))))))
    · revert hp; revert p
      refine consC ?_ ?_
      · exact hq1
      refine consC ?_ ?_
      · exact hq2
      refine consC ?_ ?_
      · exact hq3
      refine consC ?_ ?_
      · exact hq4
      refine consC ?_ ?_
      · exact Nat.ne_of_gt w1
      refine consC ?_ ?_
      · exact Nat.ne_of_gt w2
      · intro p hp
        exact hzI p hp
    · revert hp; revert p
      refine consC ?_ ?_
      · exact fun v h => by cases h
      refine consC ?_ ?_
      · exact fun v h => by cases h
      · intro p hp
        exact hnc p hp
  · intro m₁ news₁ h tk hJ F2 N2
    obtain ⟨rfl, o4', v4', o5', v5', tz, rfl, d4', d5', hnc⟩ := hJ
    repeat' (first | (dsimp only; walk1) | walk1 | refine zP _ ?_ | refine zR0 _ _ ?_ | refine zP0 _ ?_ | refine zC _ ?_ | refine zR _ _ ?_ | refine zB _ ?_ | refine zE _ ?_ | fail "")
    exact ret _ _ o4' v4' o5' v5' tz F2 N2 d4' d5' hnc

end P28
section P29


/-- how many items come before -/
noncomputable def cntI (num : Nat → Int) (txt : Nat → Str) (j k : Nat) : Nat := ((List.range k).filter fun q => ltI num txt q j).length
theorem cntI_pos {num : Nat → Int} {txt : Nat → Str} {j k : Nat} (h : ltI num txt k j = true) : cntI num txt j (k + 1) = cntI num txt j k + 1 := by
  simp [cntI, List.range_succ, List.filter_append, h]
theorem cntI_neg {num : Nat → Int} {txt : Nat → Str} {j k : Nat} (h : ltI num txt k j = false) : cntI num txt j (k + 1) = cntI num txt j k := by
  simp [cntI, List.range_succ, List.filter_append, h]
theorem cntI_rank (num : Nat → Int) (txt : Nat → Str) (j : Nat) : ((cntI num txt j 4 : Nat) : Int) = rank (ltI num txt) j := by
  unfold cntI rank
  have e : List.range 4 = [0, 1, 2, 3] := rfl
  rw [e]
  cases h0 : ltI num txt 0 j <;> cases h1 : ltI num txt 1 j <;> cases h2 : ltI num txt 2 j <;> cases h3 : ltI num txt 3 j <;> simp [List.filter, h0, h1, h2, h3]
theorem cntI_le (num : Nat → Int) (txt : Nat → Str) (j k : Nat) : cntI num txt j k ≤ k := by
  unfold cntI
  exact Nat.le_trans (List.length_filter_le _ _) (by simp)
theorem len_listV {prog : Program} {w : World} {A : Around} {E : Value → Shared → Prop} {s : Shared} {h₀ : Heap} {L D : Addr} {news : List (Addr × Obj)} {vs : List Value} {n : Nat} {Q : Value → Shared → Prop} (N : News h₀ L s.heap news) (hm : (D, listOf vs.toArray n) ∈ news) (hfit : vs.length < 2 ^ 62) (h : Q (.int (vs.length : Nat) (s.toks + 1)) { s with toks := s.toks + 1 + 1 }) :
    wpAny (model prog w) A (call (.builtin "len") [.ref D]) Q E s := by
  have e : vs.toArray.size = vs.length := by simp
  refine PyProof.Rows.len_list (N.isList hm) (by (first | lia | omega)) ?_
  rw [e]; exact h
theorem seg7a {w : World} {dp un : Nat} {fr : Option (List Env)} {gd : Option (List Code)} {s : Shared} {Q : Flow → Shared → Prop} {mg mb : Str → Option Value} {h₀ : Heap} {L it me : Addr} {m : Str → Option Value} {nz fz : List (Addr × Obj)} {o2 : Obj} {its : List Value} {ci cm : Nat} {ad : Nat → Addr} {num : Nat → Int} {txt : Nat → Str} {wr : List (Int × Int)}
   (X : (Mine.hd.heap_39 w.params).In h₀) (T : TopRead Mine.hd.view_39 Mine.hd.lz mg mb h₀) (hroom : dp + 20 < recursionLimit) (hun : un + 120 < cLine)
   (F : Fr h₀ L s.heap m) (N : News h₀ L s.heap ((L + 2, o2) :: (it, listOf its.toArray ci) :: nz)) (d2 : o2.data = .cell (some (.ref it))) (hfz : ∀ p ∈ fz, p ∈ nz) (hI : ItsAt fz its ad num txt) (hme : (me, listOf ((ordI wr num txt).map fun j => Value.ref (ad j)).toArray cm) ∈ nz) (hwr : WiresOk wr)
   (hm1 : m (Str.ofString "met") = some (.ref me))
   (ret : ∀ h' tk (D : Addr) (zs : List Value) c1, Fr h₀ L h' (fun y => if y = Str.ofString "ends" then some (.ref D) else m y) → News h₀ L h' ((D, listOf zs.toArray c1) :: (L + 2, o2) :: (it, listOf its.toArray ci) :: nz) → IntsAre zs ((ordI wr num txt).map (rank (ltI num txt))) →
     wpAny (model prog w) (Ar dp un fr gd) (execs (lawBody.drop 16) (lawEnv L)) Q (fun _ _ => False) { s with heap := h', toks := tk }) :
   wpAny (model prog w) (Ar dp un fr gd) (execs (lawBody.drop 15) (lawEnv L)) Q (fun _ _ => False) s := by
  rw [bd15]
  have ep := pin hm1
  rw [ep] at F
  dsimp only [st15]
  generalize hB : lawBody.drop 16 = B at *
  obtain ⟨hol, hom⟩ := ord_lt hwr num txt
  generalize hO : ordI wr num txt = os at *
  walk1
  refine comp_assign (by with_unfolding_all rfl) (by with_unfolding_all rfl) rfl (by decide) (fun _ => rfl) ?_
  repeat' (first | (dsimp only; walk1) | walk1 | refine zP _ ?_ | refine zR0 _ _ ?_ | refine zP0 _ ?_ | refine zC _ ?_ | refine zR _ _ ?_ | refine zB _ ?_ | refine zE _ ?_ | fail "")
  refine comp_listGG (compPost (model prog w) _ _ _ _) (some (Str.ofString "item")) (J := fun D C i m' n' => ∃ zs c1 oc voc, n' = (D, listOf zs.toArray c1) :: (C + 1, oc) :: (L + 2, o2) :: (it, listOf its.toArray ci) :: nz ∧ oc.data = .cell voc ∧ IntsAre zs ((os.take i).map (rank (ltI num txt))) ∧ zs.length = i ∧ (0 < i → (∀ p ∈ (L + 2, o2) :: (it, listOf its.toArray ci) :: nz, @LT.lt Nat _ p.1 D) ∧ @LT.lt Nat _ D C)) rfl (fun _ => rfl) (fun _ => rfl) F N (News.isList N (.tail _ (.tail _ hme))) (.inr ⟨_, fun D C i m' n' hJ => by obtain ⟨zs, c1, oc, voc, rfl, _⟩ := hJ; exact .tail _ (.tail _ (.tail _ (.tail _ hme)))⟩) (fun D C => ⟨[], 0, _, _, rfl, rfl, .nil, rfl, fun h => absurd h (Nat.lt_irrefl 0)⟩) ?_ ?_
  · intro g I D C i v m₁ news₁ h tk oI G1 G2 g1 g2 g3 hx hJ F2 N2 hn2
    refine hideT fun zQ zE => ?_
    obtain ⟨zs, c1, oc, voc, rfl, doc, hz, hzl, _⟩ := hJ
    have g4 : ∀ p ∈ (L + 2, o2) :: (it, listOf its.toArray ci) :: nz, @LT.lt Nat _ p.1 D := fun p hp => Nat.lt_trans (g1 p hp) g2
    replace X := X.keeps G1
    replace T := T.keeps G1
    clear G1 G2
    obtain ⟨j, hj, rfl⟩ : ∃ j, os[i]? = some j ∧ v = Value.ref (ad j) := by
      rw [List.getElem?_map] at hx
      cases hq : os[i]? with
      | none => rw [hq] at hx; cases hx
      | some j => rw [hq] at hx; injection hx with hx; exact ⟨j, rfl, hx.symm⟩
    have hj4 := hom j (List.mem_of_getElem? hj)
    have hi4 : i < 4 := by
      have := (List.getElem?_eq_some_iff.mp hj).1
      (first | lia | omega)
    have hCz : ∀ p ∈ nz, p.1 ≠ C + 1 := fun p hp => Nat.ne_of_lt (Nat.lt_succ_of_lt (Nat.lt_trans (g4 p (.tail _ (.tail _ hp))) g3))
    have g4i : ∀ p ∈ nz, @LT.lt Nat _ p.1 I := fun p hp => g1 p (.tail _ (.tail _ hp))
    have g1r : AllLt D nz := allLt_of fun p hp => g4 p (.tail _ (.tail _ hp))
    k_lt g1; k_lt2 g2; k_lt2 g3
    have hDI := neN (hn2 _ (.head _))
    have hCI := neN (hn2 _ (.tail _ (.head _)))
    dsimp only at hDI hCI
    repeat' (first | (dsimp only; walk1) | walk1 | refine zP _ ?_ | refine zR0 _ _ ?_ | refine zP0 _ ?_ | refine zC _ ?_ | refine zR _ _ ?_ | refine zB _ ?_ | refine zE _ ?_ | fail "" | dsimp only [turnGoal])
    rename Fr _ _ _ _ => F3
    rename News _ _ _ _ => N3
    rename Obj => oc2

    refine comp_listN none (J := fun D2 C2 k m' n' => ∃ ys c2, n' = (D2, listOf ys.toArray c2) :: _ ∧ ys.length = cntI num txt j k ∧ (0 < k → @LT.lt Nat _ D D2)) rfl (fun _ => rfl) (fun _ => rfl) F3 N3 (by k_mem) (fun D2 C2 i m' n' hJ => by obtain ⟨ys, c2, rfl, _⟩ := hJ; k_mem) (fun D2 C2 => ⟨[], 0, rfl, rfl, fun h => absurd h (Nat.lt_irrefl 0)⟩) ?_ ?_
    · intro g' I2 D2 C2 k v2 m₂ news₂ h2 tk2 oI2 G1 G2 k1 k2 k3 hx2 hJ2 F4 N4 hn4
      refine hideT fun zQ zE => ?_
      obtain ⟨ys, c2, rfl, hyl, _⟩ := hJ2
      replace X := X.keeps G1
      replace T := T.keeps G1
      clear G1 G2
      have hk4 : k < 4 := by
        have := (List.getElem?_eq_some_iff.mp hx2).1
        rw [hI.eq] at this
        simpa [i4] using this
      have hv : v2 = Value.ref (ad k) := by
        have := hI.get hk4
        rw [Int.toNat_natCast, hx2] at this
        injection this
      subst hv
      have k5 : ∀ p ∈ nz, @LT.lt Nat _ p.1 D2 := fun p hp => Nat.lt_trans (k1 p (.tail _ (.tail _ (.tail _ (.tail _ (.tail _ hp)))))) k2
      have k6 : @LT.lt Nat _ D D2 := Nat.lt_trans (k1 _ (.tail _ (.head _))) k2
      have k5r : AllLt D2 nz := allLt_of k5
      k_lt k1; k_lt2 k2; k_lt2 k3
      simp only [ownL_none, ownC_none, List.nil_append] at F4 N4 ⊢
      have hDI2 := neN (hn4 _ (.head _))
      dsimp only at hDI2
      repeat' (first | (dsimp only; walk1) | walk1 | refine zP _ ?_ | refine zR0 _ _ ?_ | refine zP0 _ ?_ | refine zC _ ?_ | refine zR _ _ ?_ | refine zB _ ?_ | refine zE _ ?_ | fail "" | dsimp only [turnGoal])
      obtain ⟨tn, tw, cc, hmm1⟩ := hI.it k hk4
      obtain ⟨tn2, tw2, cc2, hmm2⟩ := hI.it j hj4
      rename Fr _ _ _ _ => F5
      rename News _ _ _ _ => N5
      have H3 : Has _ fz := Has.of N5 (fun p hp => .tail _ (.tail _ (.tail _ (.tail _ (.tail _ (.tail _ (.tail _ (hfz p hp))))))))
      have q1 := H3.tup hmm1
      have q2 := H3.tup hmm2
      clear H3
      refine cmpT_lt ?hu q1 q2 ?_
      case hu => ((try simp only [units_in1, units_deeper, Around.mark_units, units_caller]); (try dsimp only [Ar]); (first | lia | omega))
      have q5 : ltT (num k) (txt k) (num j) (txt j) = ltI num txt k j := rfl
      have hyk : ys.length ≤ 4 := by rw [hyl]; exact Nat.le_trans (cntI_le ..) (Nat.le_of_lt hk4)
      cases hlt : ltI num txt k j with
      | true =>
        rw [q5, hlt]
        repeat' (first | (dsimp only; walk1) | walk1 | refine zP _ ?_ | refine zR0 _ _ ?_ | refine zP0 _ ?_ | refine zC _ ?_ | refine zR _ _ ?_ | refine zB _ ?_ | refine zE _ ?_ | fail "" | dsimp only [turnGoal])
        exact LEnd.intro _ (by assumption) (by assumption) (by k_mem) (fun p hp => .tail _ hp) (ne_head hn4) ⟨_, _, rfl, by rw [cntI_pos hlt, List.length_append, hyl]; rfl, fun _ => k6⟩
      | false =>
        rw [q5, hlt]
        repeat' (first | (dsimp only; walk1) | walk1 | refine zP _ ?_ | refine zR0 _ _ ?_ | refine zP0 _ ?_ | refine zC _ ?_ | refine zR _ _ ?_ | refine zB _ ?_ | refine zE _ ?_ | fail "" | dsimp only [turnGoal])
        exact LEnd.intro _ (by assumption) (by assumption) (by k_mem) (fun p hp => .tail _ hp) (ne_head hn4) ⟨_, _, rfl, by rw [cntI_neg hlt]; exact hyl, fun _ => k6⟩
    · intro D2 C2 m₂ news₂ h2 tk2 hJ2 F4 N4
      obtain ⟨ys, c2, rfl, hyl, hD2⟩ := hJ2
      have hil : its.length = 4 := by rw [hI.eq]; rfl
      have hD2 := neN (Nat.ne_of_lt (hD2 (by (first | lia | omega))))
      simp only [ownL_none, ownC_none, List.nil_append] at F4 N4 ⊢
      repeat' (first | (dsimp only; walk1) | walk1 | refine zP _ ?_ | refine zR0 _ _ ?_ | refine zP0 _ ?_ | refine zC _ ?_ | refine zR _ _ ?_ | refine zB _ ?_ | refine zE _ ?_ | fail "" | dsimp only [turnGoal])
      rw [hil] at hyl
      have hy4 : ys.length ≤ 4 := by rw [hyl]; exact cntI_le ..
      refine len_listV N4 (.head _) (by (first | lia | omega)) ?_
      rw [hyl, cntI_rank]
      have hol' : zs.length ≤ 4 := by (first | lia | omega)
      repeat' (first | (dsimp only; walk1) | walk1 | refine zP _ ?_ | refine zR0 _ _ ?_ | refine zP0 _ ?_ | refine zC _ ?_ | refine zR _ _ ?_ | refine zB _ ?_ | refine zE _ ?_ | fail "" | dsimp only [turnGoal])
      rename Fr _ _ _ _ => F9
      rename News _ _ _ _ => N9
      refine LEnd.intro ((D, listOf (zs ++ [Value.int (rank (ltI num txt) j) (tk2 + 1)]).toArray (c1 + 1)) :: (C + 1, oc2) :: (L + 2, o2) :: (it, listOf its.toArray ci) :: nz) F9 N9 (by k_mem) (fun p hp => ?_) (fun p hp => ?_) ⟨_, _, _, _, rfl, by assumption, ?_, by rw [List.length_append, hzl]; rfl, fun _ => ⟨g4, g3⟩⟩
      · revert hp; revert p
        refine consC ?_ ?_
        · k_mem
        refine consC ?_ ?_
        · k_mem
        refine consC ?_ ?_
        · k_mem
        refine consC ?_ ?_
        · k_mem
        · intro p hp
          exact .tail _ (.tail _ (.tail _ (.tail _ (.tail _ (.tail _ hp)))))
      · revert hp; revert p
        refine consC ?_ ?_
        · exact hDI
        refine consC ?_ ?_
        · exact hCI
        refine consC ?_ ?_
        · exact Nat.ne_of_lt g1.1
        refine consC ?_ ?_
        · exact Nat.ne_of_lt g1.2.1
        · intro p hp
          exact Nat.ne_of_lt (g4i p hp)
      · rw [List.take_add_one, hj, Option.toList, List.map_append]
        exact IntsAre.append hz (.cons _ _ .nil)
  · intro D C m₁ news₁ h tk mC hJ hnC hCL hC₀ offC F2 N2
    obtain ⟨zs, c1, oc, voc, rfl, doc, hz, hzl, hD⟩ := hJ
    have e9 : ((os.map fun j => Value.ref (ad j)).length) = os.length := List.length_map _
    rw [e9, List.take_length] at hz
    refine post_assign (s := { heap := h, gens := _, drawn := _, toks := tk, os := _ }) F2 N2 hnC hCL hC₀ offC (fun h' tk' F3 N3 => ?_) rfl rfl rfl
    exact ret _ _ D zs c1 (Fr.re F3 (congrArg (fun (k : Str → Option Value) => fun y => if y = Str.ofString "ends" then some (Value.ref D) else k y) ep)) (newsApp N3 (fun p hp => by
      rcases List.mem_cons.mp hp with rfl | hp
      · exact .head _
      · exact .tail _ (.tail _ hp))) hz

end P29
section P30


structure TxtsIn (tvs : List Value) (txt : Nat → Str) (k : Nat) : Prop where
  len : tvs.length = k
  it : ∀ j, j < k → ∃ t : Tok, tvs[j]? = some (Value.str (txt j) t)
theorem TxtsIn.snoc {tvs : List Value} {txt : Nat → Str} {k : Nat} (W : TxtsIn tvs txt k) (t : Tok) : TxtsIn (tvs ++ [Value.str (txt k) t]) txt (k + 1) where
  len := by simp [W.len]
  it := fun j hj => by
    rcases Nat.lt_or_ge j k with q | q
    · obtain ⟨u, h⟩ := W.it j q
      exact ⟨u, by rw [List.getElem?_append_left (by rw [W.len]; exact q)]; exact h⟩
    · obtain rfl : j = k := by (first | lia | omega)
      exact ⟨t, by rw [List.getElem?_append_right (by rw [W.len]; exact Nat.le_refl _), W.len, Nat.sub_self]; rfl⟩
theorem seg7b {w : World} {dp un : Nat} {fr : Option (List Env)} {gd : Option (List Code)} {s : Shared} {Q : Flow → Shared → Prop} {mg mb : Str → Option Value} {h₀ : Heap} {L it : Addr} {m : Str → Option Value} {nz fz : List (Addr × Obj)} {o2 o6 : Obj} {v6 : Option Value} {its : List Value} {ci : Nat} {ad : Nat → Addr} {num : Nat → Int} {txt : Nat → Str}
   (X : (Mine.hd.heap_39 w.params).In h₀) (T : TopRead Mine.hd.view_39 Mine.hd.lz mg mb h₀) (hroom : dp + 20 < recursionLimit) (hun : un + 120 < cLine)
   (F : Fr h₀ L s.heap m) (N : News h₀ L s.heap ((L + 6, o6) :: (L + 2, o2) :: (it, listOf its.toArray ci) :: nz)) (d6 : o6.data = .cell v6) (d2 : o2.data = .cell (some (.ref it))) (hit : @LT.lt Nat _ (L + 7) it) (hz6 : ∀ p ∈ nz, p.1 ≠ L + 6) (hfz : ∀ p ∈ fz, p ∈ nz) (hI : ItsAt fz its ad num txt)
   (ret : ∀ h' tk (D : Addr) (tvs : List Value) c1 o6', Fr h₀ L h' m → News h₀ L h' ((D, listOf tvs.toArray c1) :: (L + 6, o6') :: (L + 2, o2) :: (it, listOf its.toArray ci) :: nz) → o6'.data = .cell (some (.ref D)) → @LT.lt Nat _ (L + 7) D → TxtsIn tvs txt 4 →
     wpAny (model prog w) (Ar dp un fr gd) (execs (lawBody.drop 17) (lawEnv L)) Q (fun _ _ => False) { s with heap := h', toks := tk }) :
   wpAny (model prog w) (Ar dp un fr gd) (execs (lawBody.drop 16) (lawEnv L)) Q (fun _ _ => False) s := by
  rw [bd16]
  dsimp only [st16]
  generalize hB : lawBody.drop 17 = B at *
  have hil : its.length = 4 := by rw [hI.eq]; rfl
  walk1
  refine wpAny_Assign_Name ?_
  repeat' (first | (dsimp only; walk1) | walk1 | refine zP _ ?_ | refine zR0 _ _ ?_ | refine zP0 _ ?_ | refine zC _ ?_ | refine zR _ _ ?_ | refine zB _ ?_ | refine zE _ ?_ | fail "")
  refine comp_listN none (J := fun D C i m' n' => ∃ zs c1, n' = (D, listOf zs.toArray c1) :: _ ∧ TxtsIn zs txt i ∧ (0 < i → (∀ p ∈ nz, @LT.lt Nat _ p.1 D) ∧ @LT.lt Nat _ it D)) rfl (fun _ => rfl) (fun _ => rfl) F N (by k_mem) (fun D C i m' n' hJ => by obtain ⟨zs, c1, rfl, _⟩ := hJ; k_mem) (fun D C => ⟨[], 0, rfl, ⟨rfl, fun j hj => absurd hj (Nat.not_lt_zero j)⟩, fun h => absurd h (Nat.lt_irrefl 0)⟩) ?_ ?_
  · intro g I D C i v m₁ news₁ h tk oI G1 G2 g1 g2 g3 hx hJ F2 N2 hn2
    refine hideT fun zQ zE => ?_
    obtain ⟨zs, c1, rfl, hz, _⟩ := hJ
    have g4 : ∀ p ∈ nz, @LT.lt Nat _ p.1 D := fun p hp => Nat.lt_trans (g1 p (.tail _ (.tail _ (.tail _ hp)))) g2
    have g5 : @LT.lt Nat _ it D := Nat.lt_trans (g1 _ (.tail _ (.tail _ (.head _)))) g2
    replace X := X.keeps G1
    replace T := T.keeps G1
    clear G1 G2
    have hi4 : i < 4 := by
      have := (List.getElem?_eq_some_iff.mp hx).1
      (first | lia | omega)
    have hv : v = Value.ref (ad i) := by
      have := hI.get hi4
      rw [Int.toNat_natCast, hx] at this
      injection this
    subst hv
    have g1r : AllLt D nz := allLt_of g4
    k_lt g1; k_lt2 g2; k_lt2 g3
    try simp only [ownL_none, ownC_none, List.nil_append] at F2 N2 ⊢
    have hDI := neN (hn2 _ (.head _))
    dsimp only at hDI
    obtain ⟨tn, tw, cc, hm1⟩ := hI.it i hi4
    have H3 : Has _ fz := Has.of N2 (fun p hp => .tail _ (.tail _ (.tail _ (.tail _ (.tail _ (hfz p hp))))))
    have q1 := H3.tup hm1
    have hzl := hz.len
    repeat' (first | (dsimp only; walk1) | walk1 | refine zP _ ?_ | refine zR0 _ _ ?_ | refine zP0 _ ?_ | refine zC _ ?_ | refine zR _ _ ?_ | refine zB _ ?_ | refine zE _ ?_ | fail "" | dsimp only [turnGoal])
    exact LEnd.intro _ (by assumption) (by assumption) (by k_mem) (fun p hp => .tail _ hp) (ne_head hn2) ⟨_, _, rfl, hz.snoc _, fun _ => ⟨g4, g5⟩⟩
  · intro D C m₁ news₁ h tk hJ F2 N2
    obtain ⟨zs, c1, rfl, hz, hD⟩ := hJ
    rw [hil] at hz
    obtain ⟨hD1, hD2⟩ := hD (by (first | lia | omega))
    have hD3 : @LT.lt Nat _ (L + 7) D := Nat.lt_trans hit hD2
    try simp only [ownL_none, ownC_none, List.nil_append] at F2 N2 ⊢
    repeat' (first | (dsimp only; walk1) | walk1 | refine zP _ ?_ | refine zR0 _ _ ?_ | refine zP0 _ ?_ | refine zC _ ?_ | refine zR _ _ ?_ | refine zB _ ?_ | refine zE _ ?_ | fail "")
    rename Fr _ _ _ _ => F9
    rename News _ _ _ _ => N9
    exact ret _ _ D zs c1 _ F9 N9 (by assumption) hD3 hz

end P30
section P31


/-- how many texts come before -/
noncomputable def ltS (txt : Nat → Str) (a b : Nat) : Bool := decide ((txt a).cps.toList < (txt b).cps.toList)
noncomputable def cntG (lt : Nat → Nat → Bool) (j k : Nat) : Nat := ((List.range k).filter fun q => lt q j).length
theorem cntG_pos {lt : Nat → Nat → Bool} {j k : Nat} (h : lt k j = true) : cntG lt j (k + 1) = cntG lt j k + 1 := by
  simp [cntG, List.range_succ, List.filter_append, h]
theorem cntG_neg {lt : Nat → Nat → Bool} {j k : Nat} (h : lt k j = false) : cntG lt j (k + 1) = cntG lt j k := by
  simp [cntG, List.range_succ, List.filter_append, h]
theorem cntG_rank (lt : Nat → Nat → Bool) (j : Nat) : ((cntG lt j 4 : Nat) : Int) = rank lt j := by
  unfold cntG rank
  have e : List.range 4 = [0, 1, 2, 3] := rfl
  rw [e]
  cases h0 : lt 0 j <;> cases h1 : lt 1 j <;> cases h2 : lt 2 j <;> cases h3 : lt 3 j <;> simp [List.filter, h0, h1, h2, h3]
theorem cntG_le (lt : Nat → Nat → Bool) (j k : Nat) : cntG lt j k ≤ k := by
  unfold cntG
  exact Nat.le_trans (List.length_filter_le _ _) (by simp)
theorem seg7c {w : World} {dp un : Nat} {fr : Option (List Env)} {gd : Option (List Code)} {s : Shared} {Q : Flow → Shared → Prop} {mg mb : Str → Option Value} {h₀ : Heap} {L tx : Addr} {m : Str → Option Value} {nz : List (Addr × Obj)} {o6 o7 : Obj} {v7 : Option Value} {tvs : List Value} {ct : Nat} {txt : Nat → Str}
   (X : (Mine.hd.heap_39 w.params).In h₀) (T : TopRead Mine.hd.view_39 Mine.hd.lz mg mb h₀) (hroom : dp + 20 < recursionLimit) (hun : un + 120 < cLine)
   (F : Fr h₀ L s.heap m) (N : News h₀ L s.heap ((L + 7, o7) :: (L + 6, o6) :: (tx, listOf tvs.toArray ct) :: nz)) (d7 : o7.data = .cell v7) (d6 : o6.data = .cell (some (.ref tx))) (htx : @LT.lt Nat _ (L + 7) tx) (hz7 : ∀ p ∈ nz, p.1 ≠ L + 7) (hT : TxtsIn tvs txt 4)
   (ret : ∀ h' tk (D : Addr) (zs : List Value) c1 o7', Fr h₀ L h' m → News h₀ L h' ((D, listOf zs.toArray c1) :: (L + 7, o7') :: (L + 6, o6) :: (tx, listOf tvs.toArray ct) :: nz) → o7'.data = .cell (some (.ref D)) → @LT.lt Nat _ (L + 7) D → IntsAre zs (i4.map (rank (ltS txt))) →
     wpAny (model prog w) (Ar dp un fr gd) (execs (lawBody.drop 18) (lawEnv L)) Q (fun _ _ => False) { s with heap := h', toks := tk }) :
   wpAny (model prog w) (Ar dp un fr gd) (execs (lawBody.drop 17) (lawEnv L)) Q (fun _ _ => False) s := by
  rw [bd17]
  dsimp only [st17]
  generalize hB : lawBody.drop 18 = B at *
  walk1
  refine wpAny_Assign_Name ?_
  repeat' (first | (dsimp only; walk1) | walk1 | refine zP _ ?_ | refine zR0 _ _ ?_ | refine zP0 _ ?_ | refine zC _ ?_ | refine zR _ _ ?_ | refine zB _ ?_ | refine zE _ ?_ | fail "")
  have hil := hT.len
  refine comp_listN (some (Str.ofString "text")) (J := fun D C i m' n' => ∃ zs c1 oc voc, n' = (D, listOf zs.toArray c1) :: (C + 1, oc) :: (L + 7, o7) :: (L + 6, o6) :: (tx, listOf tvs.toArray ct) :: nz ∧ oc.data = .cell voc ∧ IntsAre zs ((i4.take i).map (rank (ltS txt))) ∧ zs.length = i ∧ (0 < i → (∀ p ∈ (L + 7, o7) :: (L + 6, o6) :: (tx, listOf tvs.toArray ct) :: nz, @LT.lt Nat _ p.1 D) ∧ @LT.lt Nat _ D C)) rfl (fun _ => rfl) (fun _ => rfl) F N (by k_mem) (fun D C i m' n' hJ => by obtain ⟨zs, c1, oc, voc, rfl, _⟩ := hJ; k_mem) (fun D C => ⟨[], 0, _, _, rfl, rfl, .nil, rfl, fun h => absurd h (Nat.lt_irrefl 0)⟩) ?_ ?_
  · intro g I D C i v m₁ news₁ h tk oI G1 G2 g1 g2 g3 hx hJ F2 N2 hn2
    refine hideT fun zQ zE => ?_
    obtain ⟨zs, c1, oc, voc, rfl, doc, hz, hzl, _⟩ := hJ
    have g4 : ∀ p ∈ (L + 7, o7) :: (L + 6, o6) :: (tx, listOf tvs.toArray ct) :: nz, @LT.lt Nat _ p.1 D := fun p hp => Nat.lt_trans (g1 p hp) g2
    replace X := X.keeps G1
    replace T := T.keeps G1
    clear G1 G2
    have hi4 : i < 4 := by
      have := (List.getElem?_eq_some_iff.mp hx).1
      (first | lia | omega)
    obtain ⟨tt, hv⟩ := hT.it i hi4
    rw [hx] at hv
    injection hv with hv
    subst hv
    have hCz : ∀ p ∈ nz, p.1 ≠ C + 1 := fun p hp => Nat.ne_of_lt (Nat.lt_succ_of_lt (Nat.lt_trans (g4 p (.tail _ (.tail _ (.tail _ hp)))) g3))
    have g4i : ∀ p ∈ nz, @LT.lt Nat _ p.1 I := fun p hp => g1 p (.tail _ (.tail _ (.tail _ hp)))
    have g1r : AllLt D nz := allLt_of fun p hp => g4 p (.tail _ (.tail _ (.tail _ hp)))
    k_lt g1; k_lt2 g2; k_lt2 g3
    have hDI := neN (hn2 _ (.head _))
    have hCI := neN (hn2 _ (.tail _ (.head _)))
    dsimp only at hDI hCI
    repeat' (first | (dsimp only; walk1) | walk1 | refine zP _ ?_ | refine zR0 _ _ ?_ | refine zP0 _ ?_ | refine zC _ ?_ | refine zR _ _ ?_ | refine zB _ ?_ | refine zE _ ?_ | fail "" | dsimp only [turnGoal])
    rename Fr _ _ _ _ => F3
    rename News _ _ _ _ => N3
    rename Obj => oc2
    refine comp_listN none (J := fun D2 C2 k m' n' => ∃ ys c2, n' = (D2, listOf ys.toArray c2) :: _ ∧ ys.length = cntG (ltS txt) i k ∧ (0 < k → @LT.lt Nat _ D D2)) rfl (fun _ => rfl) (fun _ => rfl) F3 N3 (by k_mem) (fun D2 C2 i m' n' hJ => by obtain ⟨ys, c2, rfl, _⟩ := hJ; k_mem) (fun D2 C2 => ⟨[], 0, rfl, rfl, fun h => absurd h (Nat.lt_irrefl 0)⟩) ?_ ?_
    · intro g' I2 D2 C2 k v2 m₂ news₂ h2 tk2 oI2 G1 G2 k1 k2 k3 hx2 hJ2 F4 N4 hn4
      refine hideT fun zQ zE => ?_
      obtain ⟨ys, c2, rfl, hyl, _⟩ := hJ2
      replace X := X.keeps G1
      replace T := T.keeps G1
      clear G1 G2
      have hk4 : k < 4 := by
        have := (List.getElem?_eq_some_iff.mp hx2).1
        (first | lia | omega)
      obtain ⟨tt2, hv⟩ := hT.it k hk4
      rw [hx2] at hv
      injection hv with hv
      subst hv
      have k5 : ∀ p ∈ nz, @LT.lt Nat _ p.1 D2 := fun p hp => Nat.lt_trans (k1 p (.tail _ (.tail _ (.tail _ (.tail _ (.tail _ (.tail _ hp))))))) k2
      have k6 : @LT.lt Nat _ D D2 := Nat.lt_trans (k1 _ (.tail _ (.head _))) k2
      have k5r : AllLt D2 nz := allLt_of k5
      k_lt k1; k_lt2 k2; k_lt2 k3
      simp only [ownL_none, ownC_none, List.nil_append] at F4 N4 ⊢
      have hDI2 := neN (hn4 _ (.head _))
      dsimp only at hDI2
      have hyk : ys.length ≤ 4 := by rw [hyl]; exact Nat.le_trans (cntG_le ..) (Nat.le_of_lt hk4)
      have q5 : decide ((txt k).cps.toList < (txt i).cps.toList) = ltS txt k i := rfl
      repeat' (first | (dsimp only; walk1) | walk1 | refine zP _ ?_ | refine zR0 _ _ ?_ | refine zP0 _ ?_ | refine zC _ ?_ | refine zR _ _ ?_ | refine zB _ ?_ | refine zE _ ?_ | fail "" | dsimp only [turnGoal])
      all_goals first
        | exact LEnd.intro _ (by assumption) (by assumption) (by k_mem) (fun p hp => .tail _ hp) (ne_head hn4) ⟨_, _, rfl, by rw [cntG_pos (show ltS txt k i = true from decide_eq_true (by assumption)), List.length_append, hyl]; rfl, fun _ => k6⟩
        | exact LEnd.intro _ (by assumption) (by assumption) (by k_mem) (fun p hp => .tail _ hp) (ne_head hn4) ⟨_, _, rfl, by rw [cntG_neg (show ltS txt k i = false from decide_eq_false (by assumption))]; exact hyl, fun _ => k6⟩

    · intro D2 C2 m₂ news₂ h2 tk2 hJ2 F4 N4
      obtain ⟨ys, c2, rfl, hyl, hD2⟩ := hJ2
      have hD2 := neN (Nat.ne_of_lt (hD2 (by (first | lia | omega))))
      simp only [ownL_none, ownC_none, List.nil_append] at F4 N4 ⊢
      rw [hil] at hyl
      repeat' (first | (dsimp only; walk1) | walk1 | refine zP _ ?_ | refine zR0 _ _ ?_ | refine zP0 _ ?_ | refine zC _ ?_ | refine zR _ _ ?_ | refine zB _ ?_ | refine zE _ ?_ | fail "" | dsimp only [turnGoal])
      have hy4 : ys.length ≤ 4 := by rw [hyl]; exact cntG_le ..
      refine len_listV N4 (.head _) (by (first | lia | omega)) ?_
      rw [hyl, cntG_rank]
      have hol' : zs.length ≤ 4 := by (first | lia | omega)
      repeat' (first | (dsimp only; walk1) | walk1 | refine zP _ ?_ | refine zR0 _ _ ?_ | refine zP0 _ ?_ | refine zC _ ?_ | refine zR _ _ ?_ | refine zB _ ?_ | refine zE _ ?_ | fail "" | dsimp only [turnGoal])
      rename Fr _ _ _ _ => F9
      rename News _ _ _ _ => N9
      refine LEnd.intro ((D, listOf (zs ++ [Value.int (rank (ltS txt) i) (tk2 + 1)]).toArray (c1 + 1)) :: (C + 1, oc2) :: (L + 7, o7) :: (L + 6, o6) :: (tx, listOf tvs.toArray ct) :: nz) F9 N9 (by k_mem) (fun p hp => ?_) (fun p hp => ?_) ⟨_, _, _, _, rfl, by assumption, ?_, by rw [List.length_append, hzl]; rfl, fun _ => ⟨g4, g3⟩⟩
      · revert hp; revert p
        refine consC ?_ ?_
        · k_mem
        refine consC ?_ ?_
        · k_mem
        refine consC ?_ ?_
        · k_mem
        refine consC ?_ ?_
        · k_mem
        refine consC ?_ ?_
        · k_mem
        · intro p hp
          exact .tail _ (.tail _ (.tail _ (.tail _ (.tail _ (.tail _ (.tail _ hp))))))
      · revert hp; revert p
        refine consC ?_ ?_
        · exact hDI
        refine consC ?_ ?_
        · exact hCI
        refine consC ?_ ?_
        · exact Nat.ne_of_lt g1.1
        refine consC ?_ ?_
        · exact Nat.ne_of_lt g1.2.1
        refine consC ?_ ?_
        · exact Nat.ne_of_lt g1.2.2.1
        · intro p hp
          exact Nat.ne_of_lt (g4i p hp)
      · rw [List.take_add_one, i4_get hi4, Option.toList, List.map_append]
        exact IntsAre.append hz (.cons _ _ .nil)
  · intro D C m₁ news₁ h tk hJ F2 N2
    obtain ⟨zs, c1, oc, voc, rfl, doc, hz, hzl, hD⟩ := hJ
    rw [hil] at hz
    obtain ⟨hD1, hD2⟩ := hD (by (first | lia | omega))
    have hD3 : @LT.lt Nat _ (L + 7) D := hD1 _ (.head _)
    have hD4 : ∀ p ∈ nz, @LT.lt Nat _ p.1 D := fun p hp => hD1 p (.tail _ (.tail _ (.tail _ hp)))
    have hC7 : @Ne Nat (C + 1) (L + 7) := by
      have := Nat.lt_trans hD3 hD2
      exact Nat.ne_of_gt (Nat.lt_succ_of_lt this)
    have N2' := newsApp (b := (D, listOf zs.toArray c1) :: (L + 7, o7) :: (L + 6, o6) :: (tx, listOf tvs.toArray ct) :: nz) N2 (fun p hp => by
      rcases List.mem_cons.mp hp with rfl | hp
      · exact .head _
      · exact .tail _ (.tail _ hp))
    clear N2
    repeat' (first | (dsimp only; walk1) | walk1 | refine zP _ ?_ | refine zR0 _ _ ?_ | refine zP0 _ ?_ | refine zC _ ?_ | refine zR _ _ ?_ | refine zB _ ?_ | refine zE _ ?_ | fail "")
    rename Fr _ _ _ _ => F9
    rename News _ _ _ _ => N9
    exact ret _ _ D zs c1 _ F9 N9 (by assumption) hD3 hz

end P31
section P32


theorem qinit_at {w : World} {dp un : Nat} {fr : Option (List Env)} {gd : Option (List Code)} {s : Shared} {R : Result → Shared → Prop} {mg mb : Str → Option Value} {h₀ : Heap} {L : Addr} {m : Str → Option Value} {news : List (Addr × Obj)} {x dx : Addr} {ws : Str} {t : Tok}
   (F : Fr h₀ L s.heap m) (N : News h₀ L s.heap ((x, instObj 235 dx) :: (dx, dictOf [] 0) :: news)) (hne : dx < x) (hnx : ∀ p ∈ news, p.1 ≠ x) (hnd : ∀ p ∈ news, p.1 ≠ dx)
   (X : (Mine.hd.heap_39 w.params).In h₀) (T : TopRead Mine.hd.view_39 Mine.hd.lz mg mb h₀) (hroom : dp + 9 < recursionLimit) (hun : un + 40 < cLine)
   (ret : ∀ h' tk (hs : Int) (k : Tok), Fr h₀ L h' m → News h₀ L h' ((x, instObj 235 dx) :: (dx, dictOf [⟨hs, .str (Str.ofString "text") k, .str ws t⟩] 1) :: news) → R (.ok (.ret .none)) { s with heap := h', toks := tk }) :
   codeAny (model prog w) (Ar dp un fr gd) (.call (.ref 176) ⟨[.ref x, .str ws t], []⟩) R s := by
  refine' enterH (own := [(x, instObj 235 dx), (dx, dictOf [] 0)]) (Cx.of X T F N (fun p hp => by rcases List.mem_cons.mp hp with rfl | hp; exact .head _; rcases List.mem_cons.mp hp with rfl | hp; exact .tail _ (.head _); cases hp)) (by k_is) (by k_is) (show dp < _ by (first | lia | omega)) (BindsTo.of_defaults rfl ((X.keeps F.keep) 169 _ (by k_is)) rfl rfl rfl) (locs rfl) (by decide) ?_
  intro g L' h₁ tk G st X' T' F' N' hlt
  refine hideD fun fr zQ0 zR0 zP0 => ?_
  obtain ⟨hb1, hb2⟩ := List.forall_mem_cons.mp hlt
  replace hne := ltN hne
  clear hlt
  repeat' (first | (dsimp only; walk1) | walk1 | refine zP _ ?_ | refine zR0 _ _ ?_ | refine zP0 _ ?_ | refine zC _ ?_ | refine zR _ _ ?_ | refine zB _ ?_ | refine zE _ ?_ | fail "")
  rename Fr _ _ _ _ => F9
  rename News _ _ _ _ => N9
  obtain ⟨FF, NN⟩ := G.back st F N (fun p hp q => by
    rcases List.mem_cons.mp q with e | q
    · exact hnx p hp e
    · exact hnd p hp (List.mem_singleton.mp q)) F9 N9
  exact ret _ _ _ _ FF NN
theorem qname_new {w : World} {dp un : Nat} {fr : Option (List Env)} {gd : Option (List Code)} {E : Value → Shared → Prop} {s : Shared} {Q : Value → Shared → Prop} {mg mb : Str → Option Value} {h₀ : Heap} {L : Addr} {m : Str → Option Value} {news : List (Addr × Obj)} {ws : Str} {t : Tok}
   (F : Fr h₀ L s.heap m) (N : News h₀ L s.heap news)
   (X : (Mine.hd.heap_39 w.params).In h₀) (T : TopRead Mine.hd.view_39 Mine.hd.lz mg mb h₀) (hroom : dp + 12 < recursionLimit) (hun : un + 60 < cLine)
   (ret : ∀ h' tk (x dx : Addr) (hs : Int) (k : Tok), (∀ p ∈ news, @LT.lt Nat _ p.1 dx) → @LT.lt Nat _ dx x → Fr h₀ L h' m → News h₀ L h' ((x, instObj 235 dx) :: (dx, dictOf [⟨hs, .str (Str.ofString "text") k, .str ws t⟩] 1) :: news) → Q (.ref x) { s with heap := h', toks := tk }) :
   wpAny (model prog w) (Ar dp un fr gd) (call (.ref 235) [.str ws t]) Q E s := by
  refine' call_cls F X N (by k_is) (by k_is) (by k_is) ?_
  intro x dx h' F' N' l1 l2
  refine qinit_at F' N' l2 (fun p hp => Nat.ne_of_lt (Nat.lt_trans (l1 p hp) l2)) (fun p hp => Nat.ne_of_lt (l1 p hp)) X T ?hr ?hu ?_
  case hr => (show dp + 1 + 9 < recursionLimit); (first | lia | omega)
  case hu => exact Nat.lt_of_le_of_lt (Nat.add_le_add_right (Nat.add_le_add_left (show _ ≤ 10 from Nat.le_of_ble_eq_true rfl) _) _) (show un + 10 + 40 < cLine by (first | lia | omega))
  intro h'' tk hs k F'' N''
  exact ⟨rfl, ret h'' tk x dx hs k l1 l2 F'' N''⟩

end P32
section P33

structure NamesIn (txt : Nat → Str) (fz : List (Addr × Obj)) (vs : List Value) (k : Nat) : Prop where
  len : vs.length = k
  it : ∀ j, j < k → ∃ (x dx : Addr) (hs : Int) (t1 t2 : Tok), vs[j]? = some (Value.ref x) ∧ (x, instObj 235 dx) ∈ fz ∧ (dx, dictOf [⟨hs, .str (Str.ofString "text") t1, .str (txt j) t2⟩] 1) ∈ fz
theorem NamesIn.snoc {txt : Nat → Str} {tz tz' : List (Addr × Obj)} {vs : List Value} {k : Nat} (W : NamesIn txt tz vs k) (hs : ∀ p ∈ tz, p ∈ tz') {x dx : Addr} {hh : Int} {t1 t2 : Tok} (m1 : (x, instObj 235 dx) ∈ tz') (m2 : (dx, dictOf [⟨hh, .str (Str.ofString "text") t1, .str (txt k) t2⟩] 1) ∈ tz') : NamesIn txt tz' (vs ++ [Value.ref x]) (k + 1) where
  len := by simp [W.len]
  it := fun j hj => by
    rcases Nat.lt_or_ge j k with q | q
    · obtain ⟨x', d', a, b, c, h1, h2, h3⟩ := W.it j q
      exact ⟨x', d', a, b, c, by rw [List.getElem?_append_left (by rw [W.len]; exact q)]; exact h1, hs _ h2, hs _ h3⟩
    · obtain rfl : j = k := by (first | lia | omega)
      exact ⟨x, dx, hh, t1, t2, by rw [List.getElem?_append_right (by rw [W.len]; exact Nat.le_refl _), W.len, Nat.sub_self]; rfl, m1, m2⟩
theorem seg7d {w : World} {dp un : Nat} {fr : Option (List Env)} {gd : Option (List Code)} {s : Shared} {Q : Flow → Shared → Prop} {mg mb : Str → Option Value} {h₀ : Heap} {L tx : Addr} {m : Str → Option Value} {nz : List (Addr × Obj)} {o6 : Obj} {tvs : List Value} {ct : Nat} {txt : Nat → Str}
   (X : (Mine.hd.heap_39 w.params).In h₀) (T : TopRead Mine.hd.view_39 Mine.hd.lz mg mb h₀) (hroom : dp + 20 < recursionLimit) (hun : un + 120 < cLine)
   (F : Fr h₀ L s.heap m) (N : News h₀ L s.heap ((L + 6, o6) :: (tx, listOf tvs.toArray ct) :: nz)) (d6 : o6.data = .cell (some (.ref tx))) (hT : TxtsIn tvs txt 4)
   (ret : ∀ h' tk (D : Addr) (vs : List Value) c1 tz, Fr h₀ L h' (fun y => if y = Str.ofString "names" then some (.ref D) else m y) → News h₀ L h' ((D, listOf vs.toArray c1) :: (L + 6, o6) :: (tx, listOf tvs.toArray ct) :: (tz ++ nz)) → NotCell tz → NamesIn txt tz vs 4 →
     wpAny (model prog w) (Ar dp un fr gd) (execs (lawBody.drop 19) (lawEnv L)) Q (fun _ _ => False) { s with heap := h', toks := tk }) :
   wpAny (model prog w) (Ar dp un fr gd) (execs (lawBody.drop 18) (lawEnv L)) Q (fun _ _ => False) s := by
  rw [bd18]
  dsimp only [st18]
  generalize hB : lawBody.drop 19 = B at *
  walk1
  refine comp_assign (by with_unfolding_all rfl) (by with_unfolding_all rfl) rfl (by decide) (fun _ => rfl) ?_
  repeat' (first | ((with_reducible show wpAny _ _ (call (Value.ref 235) _) _ _ _); refine stop ?_) | (dsimp only; walk1) | walk1 | refine zP _ ?_ | refine zR0 _ _ ?_ | refine zP0 _ ?_ | refine zC _ ?_ | refine zR _ _ ?_ | refine zB _ ?_ | refine zE _ ?_ | fail "")
  have hil := hT.len
  refine comp_listGG (compPost (model prog w) _ _ _ _) none (J := fun D C i m' n' => ∃ vs c1 tz, n' = (D, listOf vs.toArray c1) :: (L + 6, o6) :: (tx, listOf tvs.toArray ct) :: (tz ++ nz) ∧ NotCell tz ∧ NamesIn txt tz vs i ∧ (∀ p ∈ tz, p.1 ≠ D)) rfl (fun _ => rfl) (fun _ => rfl) F N (News.isList N (.tail _ (.head _))) (.inr ⟨_, fun D C i m' n' hJ => by obtain ⟨zs, c1, tz, rfl, _⟩ := hJ; exact .tail _ (.tail _ (.head _))⟩) (fun D C => ⟨[], 0, [], rfl, fun _ hp => (nomatch hp), ⟨rfl, fun j hj => absurd hj (Nat.not_lt_zero j)⟩, fun _ hp => (nomatch hp)⟩) ?_ ?_
  · intro g I D C i v m₁ news₁ h tk oI G1 G2 g1 g2 g3 hx hJ F2 N2 hn2
    refine hideT fun zQ zE => ?_
    obtain ⟨vs, c1, tz, rfl, hnc, hz, htz⟩ := hJ
    replace X := X.keeps G1
    replace T := T.keeps G1
    clear G1 G2
    have hi4 : i < 4 := by
      have := (List.getElem?_eq_some_iff.mp hx).1
      (first | lia | omega)
    obtain ⟨tt, hv⟩ := hT.it i hi4
    rw [hx] at hv
    injection hv with hv
    subst hv
    have hzl := hz.len
    have g4 : ∀ p ∈ nz, @LT.lt Nat _ p.1 D := fun p hp => Nat.lt_trans (g1 p (.tail _ (.tail _ hp))) g2
    have hrD : ∀ p ∈ tz ++ nz, p.1 ≠ D := fun p hp => (List.mem_append.mp hp).elim (htz p) (fun q => Nat.ne_of_lt (g4 p q))
    k_lt g1; k_lt2 g2; k_lt2 g3
    have hDI := neN (hn2 _ (.head _))
    dsimp only at hDI
    have hzI : ∀ p ∈ tz ++ nz, p.1 ≠ I := fun p hp => hn2 p (.tail _ (.tail _ (.tail _ hp)))
    generalize hrz : tz ++ nz = rz at *
    repeat' (first | ((with_reducible show wpAny _ _ (call (Value.ref 235) _) _ _ _); refine stop ?_) | (dsimp only; walk1) | walk1 | refine zP _ ?_ | refine zR0 _ _ ?_ | refine zP0 _ ?_ | refine zC _ ?_ | refine zR _ _ ?_ | refine zB _ ?_ | refine zE _ ?_ | fail "" | dsimp only [turnGoal])
    rename Fr _ _ _ _ => F3
    rename News _ _ _ _ => N3
    refine unstop ?_
    refine' qname_new F3 N3 X T ?h1 ?h2 ?_
    case h1 => ((try simp only [depth_under_make, depth_under_kw, depth_in1, depth_deeper, depth_caller]); (try dsimp only [Ar]); (first | lia | omega))
    case h2 => ((try simp only [units_in1, units_deeper, Around.mark_units, units_caller]); (try dsimp only [Ar]); (first | lia | omega))
    intro h6 tk6 x dx hh kk l6 l7 F6 N6
    clear F3 N3
    have a1 := neN (Nat.ne_of_gt (l6 (D, listOf vs.toArray c1) (.tail _ (.head _))))
    have a2 := neN (Nat.ne_of_gt (Nat.lt_trans (l6 (D, listOf vs.toArray c1) (.tail _ (.head _))) l7))
    have a3 := neN (Nat.ne_of_gt (l6 (I, oI) (.head _)))
    have a4 := neN (Nat.ne_of_gt (Nat.lt_trans (l6 (I, oI) (.head _)) l7))
    dsimp only at a1 a2 a3 a4
    repeat' (first | ((with_reducible show wpAny _ _ (call (Value.ref 235) _) _ _ _); refine stop ?_) | (dsimp only; walk1) | walk1 | refine zP _ ?_ | refine zR0 _ _ ?_ | refine zP0 _ ?_ | refine zC _ ?_ | refine zR _ _ ?_ | refine zB _ ?_ | refine zE _ ?_ | fail "" | dsimp only [turnGoal])
    rename Fr _ _ _ _ => F9
    rename News _ _ _ _ => N9
    subst hrz
    refine LEnd.intro ((D, listOf (vs ++ [Value.ref x]).toArray (c1 + 1)) :: (L + 6, o6) :: (tx, listOf tvs.toArray ct) :: (((x, instObj 235 dx) :: (dx, dictOf [⟨hh, .str (Str.ofString "text") kk, .str (txt i) tt⟩] 1) :: tz) ++ nz)) F9 N9 (by k_mem) (fun p hp => ?_) (fun p hp => ?_) ⟨_, _, (x, instObj 235 dx) :: (dx, dictOf [⟨hh, .str (Str.ofString "text") kk, .str (txt i) tt⟩] 1) :: tz, rfl, fun p hp => ?_, hz.snoc (fun p hp => .tail _ (.tail _ hp)) (.head _) (.tail _ (.head _)), fun p hp => ?_⟩
    · revert hp; revert p
      refine consC ?_ ?_
      · k_mem
      refine consC ?_ ?_
      · k_mem
      refine consC ?_ ?_
      · k_mem
      refine consC ?_ ?_
      · k_mem
      refine consC ?_ ?_
      · k_mem
      · intro p hp
        exact .tail _ (.tail _ (.tail _ (.tail _ (.tail _ (.tail _ hp)))))
    · revert hp; revert p
      refine consC ?_ ?_
      · exact hDI
      refine consC ?_ ?_
      · exact Nat.ne_of_lt g1.1
      refine consC ?_ ?_
      · exact Nat.ne_of_lt g1.2.1
      refine consC ?_ ?_
      · exact a4
      refine consC ?_ ?_
      · exact a3
      · intro p hp
        exact hzI p hp
    · revert hp; revert p
      refine consC ?_ ?_
      · exact fun v h => by cases h
      refine consC ?_ ?_
      · exact fun v h => by cases h
      · intro p hp
        exact hnc p hp
    · revert hp; revert p
      refine consC ?_ ?_
      · exact a2
      refine consC ?_ ?_
      · exact a1
      · intro p hp
        exact htz p hp
  · intro D C m₁ news₁ h tk mC hJ hnC hCL hC₀ offC F2 N2
    obtain ⟨vs, c1, tz, rfl, hnc, hz, htz⟩ := hJ
    rw [hil] at hz
    refine post_assign (s := { heap := h, gens := _, drawn := _, toks := tk, os := _ }) F2 N2 hnC hCL hC₀ offC (fun h' tk' F3 N3 => ?_) rfl rfl rfl
    exact ret _ _ D vs c1 tz F3 N3 hnc hz

end P33
section P34


noncomputable def ordsF : Nat → List (List Int)
  | 0 => [[]]
  | n + 1 => (ordsF n).flatMap fun o => (([0, 1, 2, 3] : List Int).filter fun i => !o.contains i).map fun i => o ++ [i]
theorem ordsF_perms : ordsF 4 = perms := by decide
structure ListsIn (ls : List (List Int)) (fz : List (Addr × Obj)) (vs : List Value) : Prop where
  len : vs.length = ls.length
  it : ∀ (j : Nat) (l : List Int), ls[j]? = some l → ∃ (a : Addr) (ws : List Value) (c : Nat), vs[j]? = some (Value.ref a) ∧ (a, listOf ws.toArray c) ∈ fz ∧ IntsAre ws l
noncomputable def body20 : {b : List Stmt // ∃ t i p, st20.1 = Stmt.For t i b [] p} := ⟨_, _, _, _, rfl⟩
noncomputable def te0 : {x : Stmt // body20.1[0]? = some x} := ⟨_, rfl⟩
theorem be8 : body20.1 = [te0.1] := rfl
theorem kf_int : ∀ {ws : List Value} {l : List Int}, IntsAre ws l → kf_ints ws = true
  | _, _, .nil => rfl
  | _, _, .cons _ _ h => by have := kf_int h; exact this
theorem any_has (k : Int) (l : List Int) : l.any (· == k) = l.contains k := by
  induction l with
  | nil => rfl
  | cons x r ih =>
    rw [List.any_cons, List.contains_cons, ih]
    congr 1
    by_cases e : x = k
    · subst e; rfl
    · rw [beq_eq_false_iff_ne.mpr e, beq_eq_false_iff_ne.mpr (Ne.symm e)]
theorem kf_of {k : Int} {ws : List Value} {l : List Int} (h : IntsAre ws l) : kf_ints ws = true ∧ (!ws.any (isInt k)) = !l.contains k :=
  ⟨kf_int h, by rw [any_isInt k h, any_has]⟩
noncomputable def nextO (o : List Int) : List (List Int) := (([0, 1, 2, 3] : List Int).filter fun i => !o.contains i).map fun i => o ++ [i]
theorem ListsIn.snoc {ls : List (List Int)} {tz tz' : List (Addr × Obj)} {vs : List Value} (W : ListsIn ls tz vs) (hs : ∀ p ∈ tz, p ∈ tz') {a : Addr} {ws : List Value} {c : Nat} {l : List Int} (hm : (a, listOf ws.toArray c) ∈ tz') (hi : IntsAre ws l) : ListsIn (ls ++ [l]) tz' (vs ++ [Value.ref a]) where
  len := by simp [W.len]
  it := fun j l' hj => by
    rcases Nat.lt_or_ge j ls.length with q | q
    · rw [List.getElem?_append_left q] at hj
      obtain ⟨b, us, d, h1, h2, h3⟩ := W.it j l' hj
      exact ⟨b, us, d, by rw [List.getElem?_append_left (by rw [W.len]; exact q)]; exact h1, hs _ h2, h3⟩
    · rw [List.getElem?_append_right q] at hj
      have hz : j - ls.length = 0 := by
        rcases Nat.eq_zero_or_pos (j - ls.length) with z | z
        · exact z
        · rw [List.getElem?_eq_none (show [l].length ≤ _ from z)] at hj; cases hj
      rw [hz] at hj
      injection hj with hj
      subst hj
      exact ⟨a, ws, c, by rw [List.getElem?_append_right (by rw [W.len]; exact q), W.len, hz]; rfl, hm, hi⟩
theorem ListsIn.sub {ls : List (List Int)} {tz tz' : List (Addr × Obj)} {vs : List Value} (W : ListsIn ls tz vs) (hs : ∀ p ∈ tz, p ∈ tz') : ListsIn ls tz' vs := ⟨W.len, fun j l h => by
  obtain ⟨a, ws, c, h1, h2, h3⟩ := W.it j l h
  exact ⟨a, ws, c, h1, hs _ h2, h3⟩⟩
theorem take4 {q : Nat} (h : q < 4) : ([0, 1, 2, 3] : List Int).take (q + 1) = ([0, 1, 2, 3] : List Int).take q ++ [(q : Int)] := by
  match q, h with
  | 0, _ => rfl
  | 1, _ => rfl
  | 2, _ => rfl
  | 3, _ => rfl
noncomputable def itemsO (l : List Int) (q : Nat) : List (List Int) := ((([0, 1, 2, 3] : List Int).take q).filter fun i => !l.contains i).map fun i => l ++ [i]
theorem itemsO_pos {l : List Int} {q : Nat} (h : q < 4) (e : l.contains (q : Int) = false) : itemsO l (q + 1) = itemsO l q ++ [l ++ [(q : Int)]] := by
  simp only [itemsO, take4 h, List.filter_append, List.map_append, List.filter_cons, e, List.filter_nil]
  rfl
theorem itemsO_neg {l : List Int} {q : Nat} (h : q < 4) (e : l.contains (q : Int) = true) : itemsO l (q + 1) = itemsO l q := by
  simp only [itemsO, take4 h, List.filter_append, List.map_append, List.filter_cons, e, List.filter_nil]
  simp
theorem itemsO_four (l : List Int) : itemsO l 4 = nextO l := rfl
theorem itemsO_le (l : List Int) (q : Nat) : (itemsO l q).length ≤ 4 := by
  unfold itemsO
  rw [List.length_map]
  refine Nat.le_trans (List.length_filter_le _ _) ?_
  rw [List.length_take]
  exact Nat.min_le_right ..
theorem flat_le : ∀ ls : List (List Int), (ls.flatMap nextO).length ≤ 4 * ls.length
  | [] => Nat.le_refl _
  | l :: ls => by
    rw [List.flatMap_cons, List.length_append, List.length_cons]
    have a := flat_le ls
    have b := itemsO_le l 4
    rw [itemsO_four] at b
    (first | lia | omega)
theorem ords_small : ∀ n, n < 4 → (ordsF n).length ≤ 24 ∧ ∀ l ∈ ordsF n, l.length ≤ 4 := by decide
theorem ords_pos : ∀ n, n < 4 → 0 < (ordsF n).length := by decide
theorem add_ints {prog : Program} {w : World} {A : Around} {E : Value → Shared → Prop} {s : Shared} {h₀ : Heap} {L : Addr} {m : Str → Option Value} {news : List (Addr × Obj)} {l b : Addr} {vs ws : List Value} {ns ms : List Int} {Q : Value → Shared → Prop} (F : Fr h₀ L s.heap m) (N : News h₀ L s.heap news) (hl : s.heap.IsList l vs.toArray) (hb : s.heap.IsList b ws.toArray)
    (hi : IntsAre vs ns) (hj : IntsAre ws ms)
    (h : ∀ h' a, (∀ p ∈ news, @LT.lt Nat _ p.1 a) → Fr h₀ L h' m → News h₀ L h' ((a, listOf (vs ++ ws).toArray 0) :: news) → IntsAre (vs ++ ws) (ns ++ ms) → Q (.ref a) { s with heap := h' })
    (hsz : ns.length + ms.length ≤ sizeLine) :
    wpAny (model prog w) A (binaryOp .Add (.ref l) (.ref b)) Q E s :=
  add_lists_ints F N hl hb hi hj (fun h' F' N' hc => h h' _ (fun p hp => Heap.lt_size (N p hp).1) F' N' hc) hsz
noncomputable def Abv (tz nz : List (Addr × Obj)) : Prop := ∀ p ∈ tz, ∀ q ∈ nz, @LT.lt Nat _ q.1 p.1
theorem turn8 {w : World} {dp un : Nat} {fr : Option (List Env)} {gd : Option (List Code)} {s : Shared} {Q : Flow → Shared → Prop} {mg mb : Str → Option Value} {h₀ : Heap} {L ol : Addr} {m : Str → Option Value} {nz : List (Addr × Obj)} {vs : List Value} {c n : Nat}
   (X : (Mine.hd.heap_39 w.params).In h₀) (T : TopRead Mine.hd.view_39 Mine.hd.lz mg mb h₀) (hroom : dp + 20 < recursionLimit) (hun : un + 120 < cLine)
   (F : Fr h₀ L s.heap m) (N : News h₀ L s.heap nz) (hol : (ol, listOf vs.toArray c) ∈ nz) (hn : n < 4) (hO : ListsIn (ordsF n) nz vs) (hm1 : m (Str.ofString "orders") = some (.ref ol))
   (ret : ∀ h' tk (D : Addr) (us : List Value) c1 tz, Fr h₀ L h' (fun y => if y = Str.ofString "orders" then some (.ref D) else m y) → News h₀ L h' ((D, listOf us.toArray c1) :: (tz ++ nz)) → NotCell tz → ListsIn (ordsF (n + 1)) tz us → (∀ p ∈ nz, p.1 ≠ D) → Abv tz nz → Q .next { s with heap := h', toks := tk }) :
   wpAny (model prog w) (Ar dp un fr gd) (execs body20.1 (lawEnv L)) Q (fun _ _ => False) s := by
  rw [be8]
  have ep := pin hm1
  rw [ep] at F
  dsimp only [te0]
  walk1
  refine comp_assign (by with_unfolding_all rfl) (by with_unfolding_all rfl) rfl (by decide) (fun _ => rfl) ?_
  repeat' (first | (dsimp only; walk1) | walk1 | refine zP _ ?_ | refine zR0 _ _ ?_ | refine zP0 _ ?_ | refine zC _ ?_ | refine zR _ _ ?_ | refine zB _ ?_ | refine zE _ ?_ | fail "")
  refine comp_two (compPost (model prog w) _ _ _ _) none (J := fun D C i m' n' => ∃ us c1 tz, n' = (D, listOf us.toArray c1) :: (tz ++ nz) ∧ NotCell tz ∧ ListsIn (((ordsF n).take i).flatMap nextO) tz us ∧ (∀ p ∈ tz, p.1 ≠ D) ∧ (0 < i → ∀ p ∈ nz, p.1 ≠ D) ∧ Abv tz nz) rfl (fun _ => rfl) (fun _ => rfl) F N hol (fun D C i m' n' hJ => by obtain ⟨us, c1, tz, rfl, _⟩ := hJ; exact .tail _ (List.mem_append.mpr (.inr hol))) (fun D C => ⟨[], 0, [], rfl, fun _ hp => (nomatch hp), ⟨rfl, fun j l hj => by simp at hj⟩, fun _ hp => (nomatch hp), fun h => absurd h (Nat.lt_irrefl 0), fun _ hp => (nomatch hp)⟩) ?_ ?_
  · intro g I D C i v m₁ news₁ h tk oI G1 G2 g1 g2 g3 hx hJ F2 N2 hn2
    obtain ⟨us, c1, tz, rfl, hnc, hU, htz, _, hab⟩ := hJ
    replace X := X.keeps G1
    replace T := T.keeps G1
    clear G1 G2
    have hil : i < (ordsF n).length := by rw [← hO.len]; exact (List.getElem?_eq_some_iff.mp hx).1
    obtain ⟨l, hl⟩ : ∃ l, (ordsF n)[i]? = some l := ⟨_, List.getElem?_eq_getElem hil⟩
    obtain ⟨a, ws, ca, hva, hma, hwa⟩ := hO.it i l hl
    rw [hx] at hva
    injection hva with hva
    subst hva
    have hzI : ∀ p ∈ tz ++ nz, p.1 ≠ I := fun p hp => hn2 p (.tail _ hp)
    have hDI := neN (hn2 _ (.head _))
    dsimp only at hDI
    have hmr : (a, listOf ws.toArray ca) ∈ tz ++ nz := List.mem_append.mpr (.inr hma)
    have hrD : ∀ p ∈ tz ++ nz, p.1 ≠ D := fun p hp => (List.mem_append.mp hp).elim (htz p) (fun q => Nat.ne_of_lt (Nat.lt_trans (g1 p q) g2))
    have hnz : ∀ q ∈ nz, q ∈ tz ++ nz := fun q hq => List.mem_append.mpr (.inr hq)
    generalize hrz : tz ++ nz = rz at *
    repeat' (first | (dsimp only; walk1) | walk1 | refine zP _ ?_ | refine zR0 _ _ ?_ | refine zP0 _ ?_ | refine zC _ ?_ | refine zR _ _ ?_ | refine zB _ ?_ | refine zE _ ?_ | fail "")
    refine tail_second (fun _ => rfl) ?_
    repeat' (first | (dsimp only; walk1) | walk1 | refine zP _ ?_ | refine zR0 _ _ ?_ | refine zP0 _ ?_ | refine zC _ ?_ | refine zR _ _ ?_ | refine zB _ ?_ | refine zE _ ?_ | fail "")
    rename Fr _ _ _ _ => F3
    rename News _ _ _ _ => N3
    rename IsRange _ _ _ _ _ _ _ _ => R3
    have hwl := hwa.length
    have hln : l.length ≤ 4 := (ords_small n hn).2 l (List.mem_of_getElem? hl)
    refine comp_in_range (n := 4) (fun q m' n' => Off [Str.ofString "item"] m' _ ∧ ∃ us c1 tz2, n' = (D, listOf us.toArray c1) :: (I, oI) :: (tz2 ++ rz) ∧ (∀ p ∈ tz2, p.1 ≠ D ∧ p.1 ≠ I) ∧ NotCell tz2 ∧ ListsIn (((ordsF n).take i).flatMap nextO ++ itemsO l q) (tz2 ++ tz) us ∧ Abv tz2 nz) rfl F3 (newsApp (b := (D, listOf us.toArray c1) :: (I, oI) :: ([] ++ rz)) N3 (fun p hp => by
      rcases List.mem_cons.mp hp with rfl | hp
      · k_mem
      rcases List.mem_cons.mp hp with rfl | hp
      · k_mem
      · repeat' first | exact hp | refine List.Mem.tail _ ?_)) R3 (small_one (by l_bnd) (by l_bnd) (by l_bnd) (by l_bnd)) (rangeSize_nat _ _) ⟨Off.refl, us, c1, [], rfl, fun _ hp => (nomatch hp), fun _ hp => (nomatch hp), by rw [show itemsO l 0 = [] from rfl, List.append_nil]; exact hU, fun _ hp => (nomatch hp)⟩ ?_ ?_
    · intro I2 q t2 m₂ news₂ h2 tk2 oI2 hI2 hq hJ2 F4 N4 hn4
      refine hideT fun zQ zE => ?_
      obtain ⟨hoff, us2, c2, tz2, rfl, htz2, hnc2, hU2, hab2⟩ := hJ2
      rw [Off.ov hoff] at F4
      have hDI2 := neN (hn4 _ (.head _))
      have hII2 := neN (hn4 _ (.tail _ (.head _)))
      dsimp only at hDI2 hII2
      have hrz2 : ∀ p ∈ tz2 ++ rz, p.1 ≠ I2 := fun p hp => hn4 p (.tail _ (.tail _ hp))
      have hmr2 : (a, listOf ws.toArray ca) ∈ tz2 ++ rz := List.mem_append.mpr (.inr hmr)
      have hrD2 : ∀ p ∈ tz2 ++ rz, p.1 ≠ D := fun p hp => (List.mem_append.mp hp).elim (fun q => (htz2 p q).1) (hrD p)
      have hnz2 : ∀ q ∈ nz, q ∈ tz2 ++ rz := fun q hq => List.mem_append.mpr (.inr (hnz q hq))
      generalize hrzz : tz2 ++ rz = rz2 at *
      dsimp only at F4 N4 ⊢
      have e0 : (0 : Int) + (q : Int) * 1 = (q : Int) := by (first | lia | omega)
      rw [e0]
      repeat' (first | (dsimp only; walk1) | walk1 | refine zP _ ?_ | refine zR0 _ _ ?_ | refine zP0 _ ?_ | refine zC _ ?_ | refine zR _ _ ?_ | refine zB _ ?_ | refine zE _ ?_ | fail "" | dsimp only [turnGoal])
      rename Fr _ _ _ _ => F5
      rename News _ _ _ _ => N5
      obtain ⟨kf1, kf2⟩ := kf_of (k := (q : Int)) hwa
      refine kf_notin N5 (.tail _ (.tail _ (.tail _ hmr2))) kf1 kf2 ?_
      by_cases hin : l.contains (q : Int) = true
      · rw [hin]
        repeat' (first | (dsimp only; walk1) | walk1 | refine zP _ ?_ | refine zR0 _ _ ?_ | refine zP0 _ ?_ | refine zC _ ?_ | refine zR _ _ ?_ | refine zB _ ?_ | refine zE _ ?_ | fail "" | dsimp only [turnGoal])
        subst hrzz
        exact LEnd.intro _ (by assumption) (by assumption) (by k_mem) (fun p hp => .tail _ hp) (ne_head hn4) ⟨Off.set (by decide) Off.of_ov, us2, c2, tz2, rfl, htz2, hnc2, by rw [itemsO_neg hq hin]; exact hU2, hab2⟩
      · rw [eq_false_of_ne_true hin]
        repeat' (first | (dsimp only; walk1) | walk1 | refine zP _ ?_ | refine zR0 _ _ ?_ | refine zP0 _ ?_ | refine zC _ ?_ | refine zR _ _ ?_ | refine zB _ ?_ | refine zE _ ?_ | fail "" | dsimp only [turnGoal])
        rename Fr _ _ _ _ => F7
        rename News _ _ _ _ => N7
        have hma7 := hmr2
        refine add_ints (ms := [(q : Int)]) F7 N7 (News.isList N7 (by repeat' first | exact hmr2 | refine List.Mem.tail _ ?_)) (News.isList N7 (.head _)) hwa (.cons _ _ .nil) ?_ (show l.length + 1 ≤ sizeLine from Nat.le_trans (show l.length + 1 ≤ 5 by (first | lia | omega)) (by decide))
        intro h8 z hz8 F8 N8 hcat
        have b1 := neN (Nat.ne_of_gt (hz8 _ (.tail _ (.tail _ (.head _)))))
        have b2 := neN (Nat.ne_of_gt (hz8 _ (.tail _ (.tail _ (.tail _ (.head _))))))
        have b3 := neN (Nat.ne_of_gt (hz8 _ (.tail _ (.head _))))
        dsimp only at b1 b2 b3
        have hus2 : us2.length ≤ 100000 := by
          have c1 := hU2.len
          rw [List.length_append] at c1
          have c2 := flat_le ((ordsF n).take i)
          have c3 := itemsO_le l q
          have c4 := (ords_small n hn).1
          rw [List.length_take] at c2
          (first | lia | omega)
        repeat' (first | (dsimp only; walk1) | walk1 | refine zP _ ?_ | refine zR0 _ _ ?_ | refine zP0 _ ?_ | refine zC _ ?_ | refine zR _ _ ?_ | refine zB _ ?_ | refine zE _ ?_ | fail "" | dsimp only [turnGoal])
        rename Fr _ _ _ _ => F9
        rename News _ _ _ _ => N9
        subst hrzz
        refine LEnd.intro ((D, listOf (us2 ++ [Value.ref z]).toArray (c2 + 1)) :: (I, oI) :: (((z, listOf (ws ++ [Value.int (q : Int) t2]).toArray 0) :: tz2) ++ rz)) F9 N9 (by k_mem) (fun p hp => ?_) (fun p hp => ?_) ⟨Off.set (by decide) Off.of_ov, _, _, (z, listOf (ws ++ [Value.int (q : Int) t2]).toArray 0) :: tz2, rfl, fun p hp => ?_, fun p hp => ?_, ?_, fun p hp q hq => ?_⟩
        · revert hp; revert p
          refine consC ?_ ?_
          · k_mem
          refine consC ?_ ?_
          · k_mem
          refine consC ?_ ?_
          · k_mem
          · intro p hp
            exact .tail _ (.tail _ (.tail _ (.tail _ (.tail _ hp))))
        · revert hp; revert p
          refine consC ?_ ?_
          · exact hDI2
          refine consC ?_ ?_
          · exact hII2
          refine consC ?_ ?_
          · exact b3
          · intro p hp
            exact hrz2 p hp
        · revert hp; revert p
          refine consC ?_ ?_
          · exact ⟨b1, b2⟩
          · intro p hp
            exact htz2 p hp
        · revert hp; revert p
          refine consC ?_ ?_
          · exact fun v h => by cases h
          · intro p hp
            exact hnc2 p hp
        · rw [itemsO_pos hq (eq_false_of_ne_true hin), ← List.append_assoc]
          exact hU2.snoc (fun p hp => .tail _ hp) (.head _) hcat
        · revert hp; revert p
          refine consC ?_ ?_
          · exact hz8 q (.tail _ (.tail _ (.tail _ (.tail _ (hnz2 q hq)))))
          · intro p hp
            exact hab2 p hp q hq
    · intro m₂ news₂ h2 tk2 hJ2 F4 N4
      obtain ⟨hoff, us2, c2, tz2, rfl, htz2, hnc2, hU2, hab2⟩ := hJ2
      subst hrz
      refine LEnd.intro ((D, listOf us2.toArray c2) :: ((tz2 ++ tz) ++ nz)) F4 N4 (.tail _ (.head _)) (fun p hp => ?_) (fun p hp => ?_) ⟨us2, c2, tz2 ++ tz, rfl, fun p hp => ?_, ?_, fun p hp => ?_, fun _ p hp => Nat.ne_of_lt (Nat.lt_trans (g1 p hp) g2), fun p hp q hq => (List.mem_append.mp hp).elim (fun z => hab2 p z q hq) (fun z => hab p z q hq)⟩
      · revert hp; revert p
        refine consC ?_ ?_
        · exact .head _
        · intro p hp
          rw [List.append_assoc] at hp
          exact .tail _ (.tail _ hp)
      · revert hp; revert p
        refine consC ?_ ?_
        · exact hDI
        · intro p hp
          rw [List.append_assoc] at hp
          exact (List.mem_append.mp hp).elim (fun q => (htz2 p q).2) (hzI p)
      · exact (List.mem_append.mp hp).elim (hnc2 p) (hnc p)
      · rw [List.take_add_one, hl, Option.toList, List.flatMap_append, List.flatMap_cons, List.flatMap_nil, List.append_nil, ← itemsO_four]
        exact hU2
      · exact (List.mem_append.mp hp).elim (fun q => (htz2 p q).1) (htz p)
  · intro D C m₁ news₁ h tk mC hJ hnC hCL hC₀ offC F2 N2
    obtain ⟨us, c1, tz, rfl, hnc, hU, htz, hD, hab⟩ := hJ
    have hpos : 0 < vs.length := by rw [hO.len]; exact ords_pos n hn
    rw [List.take_of_length_le (Nat.le_of_eq hO.len.symm)] at hU
    refine post_assign (s := { heap := h, gens := _, drawn := _, toks := tk, os := _ }) F2 N2 hnC hCL hC₀ offC (fun h' tk' F3 N3 => ?_) rfl rfl rfl
    try dsimp only
    walk1
    exact ret _ _ D us c1 tz (Fr.re F3 (congrArg (fun (k : Str → Option Value) => fun y => if y = Str.ofString "orders" then some (Value.ref D) else k y) ep)) N3 hnc hU (hD hpos) hab

end P34
section P35


theorem seg8 {w : World} {dp un : Nat} {fr : Option (List Env)} {gd : Option (List Code)} {s : Shared} {Q : Flow → Shared → Prop} {mg mb : Str → Option Value} {h₀ : Heap} {L : Addr} {m : Str → Option Value} {nz : List (Addr × Obj)}
   (X : (Mine.hd.heap_39 w.params).In h₀) (T : TopRead Mine.hd.view_39 Mine.hd.lz mg mb h₀) (hroom : dp + 20 < recursionLimit) (hun : un + 120 < cLine)
   (F : Fr h₀ L s.heap m) (N : News h₀ L s.heap nz)
   (ret : ∀ h' tk m' (ol : Addr) (vs : List Value) c tz, Fr h₀ L h' m' → Off [Str.ofString "orders", Str.ofString "step"] m' m → m' (Str.ofString "orders") = some (.ref ol) → News h₀ L h' (tz ++ nz) → NotCell tz → (ol, listOf vs.toArray c) ∈ tz → ListsIn perms tz vs →
     wpAny (model prog w) (Ar dp un fr gd) (execs (lawBody.drop 21) (lawEnv L)) Q (fun _ _ => False) { s with heap := h', toks := tk }) :
   wpAny (model prog w) (Ar dp un fr gd) (execs (lawBody.drop 19) (lawEnv L)) Q (fun _ _ => False) s := by
  rw [bd19, bd20]
  dsimp only [st19, st20]
  generalize hB : lawBody.drop 21 = B at *
  repeat' (first | (dsimp only; walk1) | walk1 | refine zP _ ?_ | refine zR0 _ _ ?_ | refine zP0 _ ?_ | refine zC _ ?_ | refine zR _ _ ?_ | refine zB _ ?_ | refine zE _ ?_ | fail "")
  rename Fr _ _ _ _ => F1
  rename News _ _ _ _ => N1
  rename IsRange _ _ _ _ _ _ _ _ => R1
  refine for_range (n := 4) (fun i m' n' => Off [Str.ofString "orders", Str.ofString "step"] m' m ∧ ∃ (ol : Addr) (vs : List Value) (c : Nat) (tz : List (Addr × Obj)), n' = tz ++ nz ∧ (ol, listOf vs.toArray c) ∈ tz ∧ m' (Str.ofString "orders") = some (.ref ol) ∧ NotCell tz ∧ ListsIn (ordsF i) tz vs) rfl F1 N1 R1 (small_one (by l_bnd) (by l_bnd) (by l_bnd) (by l_bnd)) (rangeSize_nat _ _) ⟨?j1, ?j2⟩ ?_ ?_
  case j1 => exact Off.set (by decide) Off.refl
  case j2 =>
    refine ⟨_, _, _, [_, _], rfl, .head _, rfl, ?_, ?_⟩
    · intro p hp
      rcases List.mem_cons.mp hp with rfl | hp
      · exact fun v h => by cases h
      rcases List.mem_cons.mp hp with rfl | hp
      · exact fun v h => by cases h
      · exact nomatch hp
    · refine ⟨rfl, fun j l hj => ?_⟩
      match j, hj with
      | 0, hj =>
        injection hj with hj
        subst hj
        exact ⟨_, [], 0, rfl, .tail _ (.head _), .nil⟩
  · intro I i t m₁ news₁ h tk oI hI hi hJ F2 N2 hn2
    refine hideL fun zQ zP zC zR zB => ?_
    obtain ⟨hoff, ol, vs, c, tz, rfl, hol, hmo, hnc, hO⟩ := hJ
    have hzI : ∀ p ∈ tz ++ nz, p.1 ≠ I := hn2
    have hmz : (ol, listOf vs.toArray c) ∈ tz ++ nz := List.mem_append.mpr (.inl hol)
    have hO' : ListsIn (ordsF i) ((I, oI) :: (tz ++ nz)) vs := hO.sub fun p hp => .tail _ (List.mem_append.mpr (.inl hp))
    generalize hrz : tz ++ nz = rz at *
    walk1
    walk1
    rename Fr _ _ _ _ => F3
    rename News _ _ _ _ => N3
    show wpAny _ _ (execs body20.1 _) _ _ _
    refine turn8 (nz := (I, oI) :: rz) (vs := vs) X T hroom hun F3 N3 (.tail _ hmz) hi hO' hmo ?_
    intro h4 tk4 D us c1 tz4 F4 N4 hnc4 hO4 hD4 hab
    all_goals (try (first | refine zP _ ?_ | dsimp only [LPost] | fail ""))
    subst hrz
    refine LEnd.intro (((D, listOf us.toArray c1) :: tz4) ++ nz) F4 N4 (.tail _ (List.mem_append.mpr (.inr (.head _)))) (fun p hp => ?_) (fun p hp => ?_) ⟨Off.set (by decide) (Off.set (by decide) hoff), D, us, c1, (D, listOf us.toArray c1) :: tz4, rfl, .head _, rfl, fun p hp => ?_, hO4.sub fun p hp => .tail _ hp⟩
    · rcases List.mem_cons.mp hp with rfl | hp
      · exact .head _
      rcases List.mem_append.mp hp with hp | hp
      · exact .tail _ (List.mem_append.mpr (.inl hp))
      · exact .tail _ (List.mem_append.mpr (.inr (.tail _ (List.mem_append.mpr (.inr hp)))))
    · rcases List.mem_cons.mp hp with rfl | hp
      · exact Ne.symm (hD4 _ (.head _))
      rcases List.mem_append.mp hp with hp | hp
      · exact Nat.ne_of_gt (hab p hp _ (.head _))
      · exact hzI p (List.mem_append.mpr (.inr hp))
    · revert hp; revert p
      refine consC ?_ ?_
      · exact fun v h => by cases h
      · intro p hp
        exact hnc4 p hp
  · intro m₁ news₁ h tk hJ F2 N2
    obtain ⟨hoff, ol, vs, c, tz, rfl, hol, hmo, hnc, hO⟩ := hJ
    rw [ordsF_perms] at hO
    repeat' (first | (dsimp only; walk1) | walk1 | refine zP _ ?_ | refine zR0 _ _ ?_ | refine zP0 _ ?_ | refine zC _ ?_ | refine zR _ _ ?_ | refine zB _ ?_ | refine zE _ ?_ | fail "")
    exact ret _ _ _ ol vs c tz F2 hoff hmo N2 hnc hol hO

end P35
section P36


noncomputable def body22 : {b : List Stmt // ∃ t i p, st22.1 = Stmt.For t i b [] p} := ⟨_, _, _, _, rfl⟩
noncomputable def tf0 : {x : Stmt // body22.1[0]? = some x} := ⟨_, rfl⟩
noncomputable def tf1 : {x : Stmt // body22.1[1]? = some x} := ⟨_, rfl⟩
noncomputable def tf2 : {x : Stmt // body22.1[2]? = some x} := ⟨_, rfl⟩
theorem bh0 : body22.1.drop 0 = tf0.1 :: body22.1.drop 1 := rfl
theorem bh1 : body22.1.drop 1 = tf1.1 :: body22.1.drop 2 := rfl
theorem bh2 : body22.1.drop 2 = tf2.1 :: body22.1.drop 3 := rfl

noncomputable def plc (txt : Nat → Str) (j : Int) : Int := rank (ltS txt) j.toNat
noncomputable def netN (wr : List (Int × Int)) (txt : Nat → Str) (o : List Int) : List Int := wr.foldl (sortStep 0 fun a b => decide ((txt a.toNat).cps.toList < (txt b.toNat).cps.toList)) o
theorem netN_ok {wr : List (Int × Int)} (hwr : WiresOk wr) (txt : Nat → Str) {o : List Int} (ho : o ∈ perms) : (netN wr txt o).length = 4 ∧ ∀ j ∈ netN wr txt o, 0 ≤ j ∧ j < 4 :=
  net_mem hwr (perms_mem o ho).1 (perms_mem o ho).2
theorem plc_get {txt : Nat → Str} {zs : List Value} (hz : IntsAre zs (i4.map (rank (ltS txt)))) {n : Int} (h : 0 ≤ n ∧ n < 4) : ∃ t, zs[n.toNat]? = some (Value.int (plc txt n) t) := by
  refine hz.get _ _ ?_
  rw [List.getElem?_map, i4_get (by (first | lia | omega))]
  rfl
theorem ints_lt {o : List Int} {i : Nat} {n : Int} (h4 : o.length = 4) (h : o[i]? = some n) : i < 4 := by
  have := (List.getElem?_eq_some_iff.mp h).1
  (first | lia | omega)
theorem turn9a {w : World} {dp un : Nat} {fr : Option (List Env)} {gd : Option (List Code)} {s : Shared} {Q : Flow → Shared → Prop} {mg mb : Str → Option Value} {h₀ : Heap} {L wi nm a pa : Addr} {m : Str → Option Value} {rz fz : List (Addr × Obj)} {o7 : Obj} {zs ws : List Value} {cp ca : Nat} {wr : List (Int × Int)} {txt : Nat → Str} {o : List Int}
   (X : (Mine.hd.heap_39 w.params).In h₀) (T : TopRead Mine.hd.view_39 Mine.hd.lz mg mb h₀) (hroom : dp + 20 < recursionLimit) (hun : un + 120 < cLine)
   (F : Fr h₀ L s.heap m) (N : News h₀ L s.heap ((L + 7, o7) :: rz)) (d7 : o7.data = .cell (some (.ref pa))) (hpa : (pa, listOf zs.toArray cp) ∈ rz) (hzs : IntsAre zs (i4.map (rank (ltS txt)))) (hfz : ∀ p ∈ fz, p ∈ rz) (hW : ∀ h, Has h fz → WiresAt h wi wr) (hNm : ∀ h, Has h fz → NamesAt h nm (fun j => txt j.toNat)) (hwr : WiresOk wr) (ho : o ∈ perms) (ha : (a, listOf ws.toArray ca) ∈ rz) (hws : IntsAre ws o)
   (hm : m (Str.ofString "order") = some (.ref a)) (hm1 : m (Str.ofString "wires") = some (.ref wi)) (hm2 : m (Str.ofString "names") = some (.ref nm))
   (ret : ∀ h' tk (R : Addr) (ys : List Value) c, Fr h₀ L h' (fun y => if y = Str.ofString "row" then some (.ref R) else m y) → News h₀ L h' ((R, listOf ys.toArray c) :: (L + 7, o7) :: rz) → IntsAre ys ((netN wr txt o).map (plc txt)) → (∀ p ∈ (L + 7, o7) :: rz, @LT.lt Nat _ p.1 R) →
     wpAny (model prog w) (Ar dp un fr gd) (execs (body22.1.drop 1) (lawEnv L)) Q (fun _ _ => False) { s with heap := h', toks := tk }) :
   wpAny (model prog w) (Ar dp un fr gd) (execs (body22.1.drop 0) (lawEnv L)) Q (fun _ _ => False) s := by
  rw [bh0]
  have ep := pin3 hm hm1 hm2
  rw [ep] at F
  dsimp only [tf0]
  generalize hB : body22.1.drop 1 = B at *
  walk1
  refine comp_assign (by with_unfolding_all rfl) (by with_unfolding_all rfl) rfl (by decide) (fun _ => rfl) ?_
  repeat' (first | (dsimp only; walk1) | walk1 | refine zP _ ?_ | refine zR0 _ _ ?_ | refine zP0 _ ?_ | refine zC _ ?_ | refine zR _ _ ?_ | refine zB _ ?_ | refine zE _ ?_ | fail "")
  rename Fr _ _ _ _ => F1
  rename News _ _ _ _ => N1
  have H1 := Has.of N1 (fun p hp => .tail _ (hfz p hp))
  obtain ⟨hp4, hpj⟩ := perms_mem o ho
  refine unstop ?_
  refine' names_sum (X.keeps F1.keep) (T.keeps F1.keep) ?h1 ?h2 (News.isList N1 (.tail _ ha)) hws hp4 hpj (hNm _ H1) (hW _ H1) hwr ?_
  case h1 => ((try simp only [depth_under_make, depth_under_kw, depth_in1, depth_deeper, depth_caller]); (try dsimp only [Ar]); (first | lia | omega))
  case h2 => ((try simp only [units_in1, units_deeper, Around.mark_units, units_caller]); (try dsimp only [Ar]); (first | lia | omega))
  intro h' tk' D us c' hk hR hn hus
  obtain ⟨hn4, hnj⟩ := netN_ok hwr txt ho
  have hus' : IntsAre us (netN wr txt o) := hus
  clear hus
  generalize hnet : netN wr txt o = ns at *
  have N2 := News.more F1 (N1.keeps hk) hR hn
  have F2 := F1.keeps hk
  have D1 : ∀ p ∈ (L + 7, o7) :: rz, p.1 ≠ D := fun p hp e => by
    have := (N1 p hp).1
    rw [e] at this
    rw [show _ = none from hn] at this
    cases this
  clear F1 N1 H1
  have hul : us.length = 4 := by rw [hus'.length]; exact hn4
  repeat' (first | (dsimp only; walk1) | walk1 | refine zP _ ?_ | refine zR0 _ _ ?_ | refine zP0 _ ?_ | refine zC _ ?_ | refine zR _ _ ?_ | refine zB _ ?_ | refine zE _ ?_ | fail "")
  refine comp_listGG (compPost (model prog w) _ _ _ _) none (J := fun D2 C i m' n' => ∃ ys c2, n' = (D2, listOf ys.toArray c2) :: (D, listOf us.toArray c') :: (L + 7, o7) :: rz ∧ IntsAre ys ((ns.take i).map (plc txt)) ∧ ys.length = i ∧ (0 < i → ∀ p ∈ (L + 7, o7) :: rz, @LT.lt Nat _ p.1 D2)) rfl (fun _ => rfl) (fun _ => rfl) F2 N2 (News.isList N2 (.head _)) (.inr ⟨_, fun D2 C i m' n' hJ => by obtain ⟨ys, c2, rfl, _⟩ := hJ; exact .tail _ (.head _)⟩) (fun D2 C => ⟨[], 0, rfl, .nil, rfl, fun h => absurd h (Nat.lt_irrefl 0)⟩) ?_ ?_
  · intro g I D2 C i v m₁ news₁ h tk oI G1 G2 g1 g2 g3 hx hJ F3 N3 hn3
    refine hideT fun zQ zE => ?_
    obtain ⟨ys, c2, rfl, hy, hyl, _⟩ := hJ
    have g4 : ∀ p ∈ (D, listOf us.toArray c') :: (L + 7, o7) :: rz, @LT.lt Nat _ p.1 D2 := fun p hp => Nat.lt_trans (g1 p hp) g2
    replace X := X.keeps G1
    replace T := T.keeps G1
    clear G1 G2 F2 N2
    obtain ⟨n, tn, rfl, hnn⟩ := hus'.at i v hx
    have hi4 := ints_lt hn4 hnn
    obtain ⟨hn0, hn1⟩ := hnj n (List.mem_of_getElem? hnn)
    obtain ⟨tz, hzn⟩ := plc_get hzs ⟨hn0, hn1⟩
    have g1r : AllLt D2 rz := allLt_of fun p hp => g4 p (.tail _ (.tail _ hp))
    k_lt g1; k_lt2 g2; k_lt2 g3
    try simp only [ownL_none, ownC_none, List.nil_append] at F3 N3 ⊢
    have hDI := neN (hn3 _ (.head _))
    dsimp only at hDI
    repeat' (first | (dsimp only; walk1) | walk1 | refine zP _ ?_ | refine zR0 _ _ ?_ | refine zP0 _ ?_ | refine zC _ ?_ | refine zR _ _ ?_ | refine zB _ ?_ | refine zE _ ?_ | fail "" | dsimp only [turnGoal])
    rename Fr _ _ _ _ => F4
    rename News _ _ _ _ => N4
    refine sub_list (v := Value.int (plc txt n) tz) N4 (.tail _ (.tail _ (.tail _ (.tail _ hpa)))) (by (first | lia | omega)) (by (first | lia | omega)) hzn ?_
    repeat' (first | (dsimp only; walk1) | walk1 | refine zP _ ?_ | refine zR0 _ _ ?_ | refine zP0 _ ?_ | refine zC _ ?_ | refine zR _ _ ?_ | refine zB _ ?_ | refine zE _ ?_ | fail "" | dsimp only [turnGoal])
    refine LEnd.intro _ (by assumption) (by assumption) (by k_mem) (fun p hp => .tail _ hp) (ne_head hn3) ⟨_, _, rfl, ?_, by rw [List.length_append, hyl]; rfl, fun _ p hp => g4 p (.tail _ hp)⟩
    rw [List.take_add_one, hnn, Option.toList, List.map_append]
    exact IntsAre.append hy (.cons _ _ .nil)
  · intro D2 C m₁ news₁ h tk mC hJ hnC hCL hC₀ offC F3 N3
    obtain ⟨ys, c2, rfl, hy, hyl, hD⟩ := hJ
    have hD := hD (by (first | lia | omega))
    rw [List.take_of_length_le (by (first | lia | omega))] at hy
    refine post_assign (s := { heap := h, gens := _, drawn := _, toks := tk, os := _ }) F3 N3 hnC hCL hC₀ offC (fun h' tk' F4 N4 => ?_) rfl rfl rfl
    exact ret _ _ D2 ys c2 (Fr.re F4 (congrArg (fun (k : Str → Option Value) => fun y => if y = Str.ofString "row" then some (Value.ref D2) else k y) ep)) (newsApp N4 (fun p hp => by
      rcases List.mem_cons.mp hp with rfl | hp
      · exact .head _
      · exact .tail _ (.tail _ hp))) hy hD

end P36
section P37


theorem turn9b {w : World} {dp un : Nat} {fr : Option (List Env)} {gd : Option (List Code)} {s : Shared} {Q : Flow → Shared → Prop} {mg mb : Str → Option Value} {h₀ : Heap} {L wi a pa R : Addr} {m : Str → Option Value} {rz fz : List (Addr × Obj)} {o7 : Obj} {zs ws ys : List Value} {cp ca c : Nat} {wr : List (Int × Int)} {txt : Nat → Str} {o : List Int}
   (X : (Mine.hd.heap_39 w.params).In h₀) (T : TopRead Mine.hd.view_39 Mine.hd.lz mg mb h₀) (hroom : dp + 20 < recursionLimit) (hun : un + 120 < cLine)
   (F : Fr h₀ L s.heap m) (N : News h₀ L s.heap ((R, listOf ys.toArray c) :: (L + 7, o7) :: rz)) (d7 : o7.data = .cell (some (.ref pa))) (hpa : (pa, listOf zs.toArray cp) ∈ rz) (hzs : IntsAre zs (i4.map (rank (ltS txt)))) (hfz : ∀ p ∈ fz, p ∈ rz) (hW : ∀ h, Has h fz → WiresAt h wi wr) (hwr : WiresOk wr) (ho : o ∈ perms) (ha : (a, listOf ws.toArray ca) ∈ rz) (hws : IntsAre ws o)
   (hys : IntsAre ys (netI wr (o.map (plc txt)))) (hlt : ∀ p ∈ (L + 7, o7) :: rz, @LT.lt Nat _ p.1 R)
   (hm : m (Str.ofString "order") = some (.ref a)) (hm1 : m (Str.ofString "wires") = some (.ref wi)) (hm2 : m (Str.ofString "row") = some (.ref R))
   (ret : ∀ h' tk, Fr h₀ L h' m → News h₀ L h' ((R, listOf ys.toArray c) :: (L + 7, o7) :: rz) →
     wpAny (model prog w) (Ar dp un fr gd) (execs (body22.1.drop 2) (lawEnv L)) Q (fun _ _ => False) { s with heap := h', toks := tk }) :
   wpAny (model prog w) (Ar dp un fr gd) (execs (body22.1.drop 1) (lawEnv L)) Q (fun _ _ => False) s := by
  rw [bh1]
  have ep := pin3 hm hm1 hm2
  rw [ep] at F
  dsimp only [tf1]
  generalize hB : body22.1.drop 2 = B at *
  obtain ⟨hp4, hpj⟩ := perms_mem o ho
  have hwl : ws.length = 4 := by rw [hws.length]; exact hp4
  have hR7 : @Ne Nat R (L + 7) := Nat.ne_of_gt (hlt _ (.head _))
  have hRr : ∀ p ∈ rz, p.1 ≠ R := fun p hp => Nat.ne_of_lt (hlt p (.tail _ hp))
  repeat' (first | (dsimp only; walk1) | walk1 | refine zP _ ?_ | refine zR0 _ _ ?_ | refine zP0 _ ?_ | refine zC _ ?_ | refine zR _ _ ?_ | refine zB _ ?_ | refine zE _ ?_ | fail "")
  refine comp_listN none (J := fun D C i m' n' => ∃ us c1, n' = (D, listOf us.toArray c1) :: (R, listOf ys.toArray c) :: (L + 7, o7) :: rz ∧ IntsAre us ((o.take i).map (plc txt)) ∧ us.length = i ∧ (0 < i → ∀ p ∈ (R, listOf ys.toArray c) :: (L + 7, o7) :: rz, @LT.lt Nat _ p.1 D)) rfl (fun _ => rfl) (fun _ => rfl) F N (.tail _ (.tail _ ha)) (fun D C i m' n' hJ => by obtain ⟨us, c1, rfl, _⟩ := hJ; exact .tail _ (.tail _ (.tail _ ha))) (fun D C => ⟨[], 0, rfl, .nil, rfl, fun h => absurd h (Nat.lt_irrefl 0)⟩) ?_ ?_
  · intro g I D C i v m₁ news₁ h tk oI G1 G2 g1 g2 g3 hx hJ F2 N2 hn2
    refine hideT fun zQ zE => ?_
    obtain ⟨us, c1, rfl, hz, hzl, _⟩ := hJ
    have g4 : ∀ p ∈ (R, listOf ys.toArray c) :: (L + 7, o7) :: rz, @LT.lt Nat _ p.1 D := fun p hp => Nat.lt_trans (g1 p hp) g2
    replace X := X.keeps G1
    replace T := T.keeps G1
    clear G1 G2
    obtain ⟨n, tn, rfl, hnn⟩ := hws.at i v hx
    have hi4 := ints_lt hp4 hnn
    obtain ⟨hn0, hn1⟩ := hpj n (List.mem_of_getElem? hnn)
    obtain ⟨tz, hzn⟩ := plc_get hzs ⟨hn0, hn1⟩
    have g1r : AllLt D rz := allLt_of fun p hp => g4 p (.tail _ (.tail _ hp))
    k_lt g1; k_lt2 g2; k_lt2 g3
    try simp only [ownL_none, ownC_none, List.nil_append] at F2 N2 ⊢
    have hDI := neN (hn2 _ (.head _))
    dsimp only at hDI
    repeat' (first | (dsimp only; walk1) | walk1 | refine zP _ ?_ | refine zR0 _ _ ?_ | refine zP0 _ ?_ | refine zC _ ?_ | refine zR _ _ ?_ | refine zB _ ?_ | refine zE _ ?_ | fail "" | dsimp only [turnGoal])
    rename Fr _ _ _ _ => F4
    rename News _ _ _ _ => N4
    refine sub_list (v := Value.int (plc txt n) tz) N4 (.tail _ (.tail _ (.tail _ (.tail _ hpa)))) (by (first | lia | omega)) (by (first | lia | omega)) hzn ?_
    repeat' (first | (dsimp only; walk1) | walk1 | refine zP _ ?_ | refine zR0 _ _ ?_ | refine zP0 _ ?_ | refine zC _ ?_ | refine zR _ _ ?_ | refine zB _ ?_ | refine zE _ ?_ | fail "" | dsimp only [turnGoal])
    refine LEnd.intro _ (by assumption) (by assumption) (by k_mem) (fun p hp => .tail _ hp) (ne_head hn2) ⟨_, _, rfl, ?_, by rw [List.length_append, hzl]; rfl, fun _ => g4⟩
    rw [List.take_add_one, hnn, Option.toList, List.map_append]
    exact IntsAre.append hz (show IntsAre [Value.int (plc txt n) tz] [plc txt n] from .cons _ _ .nil)
  · intro D C m₁ news₁ h tk hJ F2 N2
    obtain ⟨us, c1, rfl, hz, hzl, hD⟩ := hJ
    have hD := hD (by (first | lia | omega))
    rw [List.take_of_length_le (by (first | lia | omega))] at hz
    have hDR : @Ne Nat D R := Nat.ne_of_gt (hD _ (.head _))
    repeat' (first | (dsimp only; walk1) | walk1 | refine zP _ ?_ | refine zR0 _ _ ?_ | refine zP0 _ ?_ | refine zC _ ?_ | refine zR _ _ ?_ | refine zB _ ?_ | refine zE _ ?_ | fail "")
    rename Fr _ _ _ _ => F3
    rename News _ _ _ _ => N3
    have H3 := Has.of N3 (fun p hp => .tail _ (.tail _ (.tail _ (hfz p hp))))
    refine unstop ?_
    refine' plain_sum (X.keeps F3.keep) (T.keeps F3.keep) ?h1 (News.isList N3 (.head _)) hz (by rw [List.length_map]; exact hp4) (hW _ H3) hwr (.inl rfl) ?_
    case h1 => ((try simp only [depth_under_make, depth_under_kw, depth_in1, depth_deeper, depth_caller]); (try dsimp only [Ar]); (first | lia | omega))
    intro h4 tk4 R2 vs2 c2 hk4 hR4 hn4 hvs2
    rw [plain_one] at hvs2
    have N4 := News.more F3 (N3.keeps hk4) hR4 hn4
    have F4 := F3.keeps hk4
    clear F3 N3 H3
    repeat' (first | (dsimp only; walk1) | walk1 | refine zP _ ?_ | refine zR0 _ _ ?_ | refine zP0 _ ?_ | refine zC _ ?_ | refine zR _ _ ?_ | refine zB _ ?_ | refine zE _ ?_ | fail "")
    try dsimp only
    exact ret _ _ (by rw [ep]; exact F4) (newsTl (newsTl N4))
theorem turn9c {w : World} {dp un : Nat} {fr : Option (List Env)} {gd : Option (List Code)} {s : Shared} {Q : Flow → Shared → Prop} {mg mb : Str → Option Value} {h₀ : Heap} {L R en : Addr} {m : Str → Option Value} {rz : List (Addr × Obj)} {es ys : List Value} {ce c : Nat} {ns ms : List Int} {k : Int} {tk0 : Tok}
   (X : (Mine.hd.heap_39 w.params).In h₀) (T : TopRead Mine.hd.view_39 Mine.hd.lz mg mb h₀) (hroom : dp + 20 < recursionLimit) (hun : un + 120 < cLine)
   (F : Fr h₀ L s.heap m) (N : News h₀ L s.heap ((R, listOf ys.toArray c) :: rz)) (hys : IntsAre ys ns) (hen : (en, listOf es.toArray ce) ∈ rz) (hes : IntsAre es ms) (hk : 0 ≤ k ∧ k ≤ 100)
   (hm : m (Str.ofString "row") = some (.ref R)) (hm1 : m (Str.ofString "ends") = some (.ref en)) (hm2 : m (Str.ofString "equal") = some (.int k tk0))
   (ret : ∀ h' tk m' t, Fr h₀ L h' m' → Off [Str.ofString "equal"] m' m → m' (Str.ofString "equal") = some (.int (k + if ns = ms then 1 else 0) t) → News h₀ L h' ((R, listOf ys.toArray c) :: rz) → Q .next { s with heap := h', toks := tk }) :
   wpAny (model prog w) (Ar dp un fr gd) (execs (body22.1.drop 2) (lawEnv L)) Q (fun _ _ => False) s := by
  rw [bh2]
  have ep := pin3 hm hm1 hm2
  rw [ep] at F
  show wpAny _ _ (execs [tf2.1] (lawEnv L)) _ _ _
  dsimp only [tf2]
  iterate 5 walk1
  refine eq_intsK (News.isList N (.head _)) hys (News.isList N (.tail _ hen)) hes (show un + 64 < cLine by (first | lia | omega)) ?_
  by_cases he : ns = ms
  · rw [decide_eq_true he]
    repeat' (first | (dsimp only; walk1) | walk1 | refine zP _ ?_ | refine zR0 _ _ ?_ | refine zP0 _ ?_ | refine zC _ ?_ | refine zR _ _ ?_ | refine zB _ ?_ | refine zE _ ?_ | fail "")
    exact ret _ _ _ _ (by assumption) (Off.set (by decide) fun z _ => (congrFun ep z).symm) (by rw [if_pos he]; rfl) (by assumption)
  · rw [decide_eq_false he]
    repeat' (first | (dsimp only; walk1) | walk1 | refine zP _ ?_ | refine zR0 _ _ ?_ | refine zP0 _ ?_ | refine zC _ ?_ | refine zR _ _ ?_ | refine zB _ ?_ | refine zE _ ?_ | fail "")
    exact ret _ _ _ _ F (fun z _ => (congrFun ep z).symm) (by rw [if_neg he, Int.add_zero]; rfl) N

end P37
section P38


theorem NamesIn.at {txt : Nat → Str} {fz : List (Addr × Obj)} {vs : List Value} {c : Nat} {nm : Addr} (W : NamesIn txt fz vs 4) (hm : (nm, listOf vs.toArray c) ∈ fz) (h : Heap) (H : Has h fz) : NamesAt h nm fun j => txt j.toNat := by
  have key : ∀ j : Int, ∃ q : Addr × Addr, 0 ≤ j → j < 4 → vs[j.toNat]? = some (Value.ref q.1) ∧ h.get? q.1 = some (instObj 235 q.2) ∧ ∃ (hs : Int) (t1 t2 : Tok), h.get? q.2 = some (dictOf [⟨hs, .str (Str.ofString "text") t1, .str (txt j.toNat) t2⟩] 1) := fun j => by
    by_cases hj : 0 ≤ j ∧ j < 4
    · obtain ⟨x, dx, hs, t1, t2, h1, h2, h3⟩ := W.it j.toNat (by (first | lia | omega))
      exact ⟨(x, dx), fun _ _ => ⟨h1, H _ h2, hs, t1, t2, H _ h3⟩⟩
    · exact ⟨((0 : Nat), (0 : Nat)), fun a b => absurd ⟨a, b⟩ hj⟩
  obtain ⟨f, hf⟩ := Classical.axiomOfChoice key
  exact ⟨vs, fun j => (f j).1, fun j => (f j).2, H.list hm, fun j a b => hf j a b⟩
theorem cntE_snoc (wr : List (Int × Int)) (pl : Int → Int) (ms : List Int) {i : Nat} {o : List Int} (h : perms[i]? = some o) : ((cntE wr pl ms (perms.take (i + 1)) : Nat) : Int) = ((cntE wr pl ms (perms.take i) : Nat) : Int) + if netI wr (o.map pl) = ms then 1 else 0 := by
  unfold cntE
  rw [List.take_add_one, h, Option.toList, List.filter_append, List.length_append, List.filter_cons, List.filter_nil]
  split
  · rename_i e; rw [if_pos (of_decide_eq_true e)]; rfl
  · rename_i e; rw [if_neg (fun q => e (decide_eq_true q))]; simp
theorem cntE_le (wr : List (Int × Int)) (pl : Int → Int) (ms : List Int) (i : Nat) : cntE wr pl ms (perms.take i) ≤ 24 :=
  Nat.le_trans (List.length_filter_le _ _) (by rw [List.length_take]; exact Nat.min_le_right ..)
theorem seg9 {w : World} {dp un : Nat} {fr : Option (List Env)} {gd : Option (List Code)} {s : Shared} {Q : Flow → Shared → Prop} {mg mb : Str → Option Value} {h₀ : Heap} {L wi nm ol pa en : Addr} {m : Str → Option Value} {nz fz : List (Addr × Obj)} {o7 : Obj} {vs zs es : List Value} {c cp ce : Nat} {wr : List (Int × Int)} {txt : Nat → Str} {ms : List Int}
   (X : (Mine.hd.heap_39 w.params).In h₀) (T : TopRead Mine.hd.view_39 Mine.hd.lz mg mb h₀) (hroom : dp + 20 < recursionLimit) (hun : un + 120 < cLine)
   (F : Fr h₀ L s.heap m) (N : News h₀ L s.heap ((L + 7, o7) :: nz)) (d7 : o7.data = .cell (some (.ref pa))) (hpa : (pa, listOf zs.toArray cp) ∈ nz) (hzs : IntsAre zs (i4.map (rank (ltS txt)))) (hfz : ∀ p ∈ fz, p ∈ nz) (hW : ∀ h, Has h fz → WiresAt h wi wr) (hNm : ∀ h, Has h fz → NamesAt h nm (fun j => txt j.toNat)) (hwr : WiresOk wr) (hT : Tot (ltS txt))
   (hol : (ol, listOf vs.toArray c) ∈ nz) (hO : ListsIn perms nz vs) (hen : (en, listOf es.toArray ce) ∈ nz) (hes : IntsAre es ms)
   (hm : m (Str.ofString "orders") = some (.ref ol)) (hm1 : m (Str.ofString "wires") = some (.ref wi)) (hm2 : m (Str.ofString "names") = some (.ref nm)) (hm3 : m (Str.ofString "ends") = some (.ref en))
   (ret : ∀ h' tk m' t, Fr h₀ L h' m' → Off [Str.ofString "order", Str.ofString "row", Str.ofString "equal"] m' m → m' (Str.ofString "equal") = some (.int ((cntE wr (plc txt) ms perms : Nat) : Int) t) → News h₀ L h' ((L + 7, o7) :: nz) →
     wpAny (model prog w) (Ar dp un fr gd) (execs (lawBody.drop 23) (lawEnv L)) Q (fun _ _ => False) { s with heap := h', toks := tk }) :
   wpAny (model prog w) (Ar dp un fr gd) (execs (lawBody.drop 21) (lawEnv L)) Q (fun _ _ => False) s := by
  rw [bd21, bd22]
  have ep := pin4 hm hm1 hm2 hm3
  rw [ep] at F
  dsimp only [st21, st22]
  generalize hB : lawBody.drop 23 = B at *
  repeat' (first | (dsimp only; walk1) | walk1 | refine zP _ ?_ | refine zR0 _ _ ?_ | refine zP0 _ ?_ | refine zC _ ?_ | refine zR _ _ ?_ | refine zB _ ?_ | refine zE _ ?_ | fail "")
  rename Fr _ _ _ _ => F1
  rename News _ _ _ _ => N1
  refine for_listN (items := vs) (fun i m' n' => Off [Str.ofString "order", Str.ofString "row", Str.ofString "equal"] m' m ∧ n' = (L + 7, o7) :: nz ∧ ∃ t, m' (Str.ofString "equal") = some (.int ((cntE wr (plc txt) ms (perms.take i) : Nat) : Int) t)) rfl F1 N1 (fun i m' n' hj => by obtain ⟨_, rfl, _⟩ := hj; exact .tail _ hol) ⟨Off.set (by decide) fun z _ => (congrFun ep z).symm, rfl, _, rfl⟩ ?_ ?_
  · intro I i v m₁ news₁ h tk oI hI hx hJ F2 N2 hn2
    refine hideL fun zQ zP zC zR zB => ?_
    obtain ⟨hoff, rfl, te, hme⟩ := hJ
    clear F1 N1
    have hip : i < perms.length := by
      have := (List.getElem?_eq_some_iff.mp hx).1
      rwa [hO.len] at this
    obtain ⟨o, hio⟩ : ∃ o, perms[i]? = some o := ⟨_, List.getElem?_eq_getElem hip⟩
    have ho := List.mem_of_getElem? hio
    obtain ⟨a, ws, ca, hva, hma, hwa⟩ := hO.it i o hio
    rw [hx] at hva
    injection hva with hva
    subst hva
    walk1
    walk1
    rename Fr _ _ _ _ => F3
    rename News _ _ _ _ => N3
    clear F2 N2
    show wpAny _ _ (execs (body22.1.drop 0) _) _ _ _
    refine turn9a (rz := (I, oI) :: nz) X T hroom hun F3 (newsApp N3 (fun p hp => ?_)) d7 (.tail _ hpa) hzs (fun p hp => .tail _ (hfz p hp)) hW hNm hwr ho (.tail _ hma) hwa rfl ((hoff.at rfl).trans hm1) ((hoff.at rfl).trans hm2) ?_
    · revert hp; revert p
      refine consC ?_ ?_
      · k_mem
      refine consC ?_ ?_
      · k_mem
      · intro p hp
        exact .tail _ (.tail _ hp)
    intro h4 tk4 R ys c4 F4 N4 hys hR4
    obtain ⟨hp4, hpj⟩ := perms_mem o ho
    rw [show (netN wr txt o).map (plc txt) = netI wr (o.map (plc txt)) from lawC hwr hT (fun x y _ _ => rfl) (fun x _ => rfl) hp4 hpj] at hys
    refine turn9b (R := R) (a := a) X T hroom hun F4 N4 d7 (.tail _ hpa) hzs (fun p hp => .tail _ (hfz p hp)) hW hwr ho (.tail _ hma) hwa hys hR4 rfl ((hoff.at rfl).trans hm1) rfl ?_
    intro h5 tk5 F5 N5
    have hle := cntE_le wr (plc txt) ms i
    refine turn9c (R := R) (en := en) X T hroom hun F5 N5 hys (.tail _ (.tail _ hen)) hes ⟨by (first | lia | omega), by (first | lia | omega)⟩ rfl ((hoff.at rfl).trans hm3) hme ?_
    intro h6 tk6 m6 t6 F6 hoff6 hm6 N6
    all_goals (try (first | refine zP _ ?_ | dsimp only [LPost] | fail ""))
    refine LEnd.intro ((L + 7, o7) :: nz) F6 N6 (.tail _ (.tail _ (.head _))) (fun p hp => ?_) hn2 ⟨Off.trans hoff6 (Off.set (by decide) (Off.set (by decide) hoff)) (by decide), rfl, t6, ?_⟩
    · revert hp; revert p
      refine consC ?_ ?_
      · k_mem
      · intro p hp
        exact .tail _ (.tail _ (.tail _ hp))
    · rw [cntE_snoc wr (plc txt) ms hio]
      exact hm6
  · intro m₁ news₁ h tk hJ F2 N2
    obtain ⟨hoff, rfl, te, hme⟩ := hJ
    rw [List.take_of_length_le (show perms.length ≤ vs.length from Nat.le_of_eq hO.len.symm)] at hme
    repeat' (first | (dsimp only; walk1) | walk1 | refine zP _ ?_ | refine zR0 _ _ ?_ | refine zP0 _ ?_ | refine zC _ ?_ | refine zR _ _ ?_ | refine zB _ ?_ | refine zE _ ?_ | fail "")
    exact ret _ _ _ te F2 hoff hme N2

end P38
section P39


theorem RowsIn.at {wr : List (Int × Int)} {fz : List (Addr × Obj)} {vs : List Value} {c : Nat} {se : Addr} (W : RowsIn wr fz vs 16) (hm : (se, listOf vs.toArray c) ∈ fz) {h : Heap} (H : Has h fz) : RowsAt h se ((List.range 16).map (rowS wr)) := by
  refine ⟨vs, H.list hm, by rw [List.length_map, List.length_range, W.len], fun i r hr => ?_⟩
  rw [List.getElem?_map] at hr
  have hi : i < 16 := by
    rcases Nat.lt_or_ge i 16 with q | q
    · exact q
    · rw [List.getElem?_eq_none (by rw [List.length_range]; exact q)] at hr; cases hr
  rw [List.getElem?_range hi] at hr
  injection hr with hr
  subst hr
  obtain ⟨a, ws, c, h1, h2, h3⟩ := W.it i hi
  exact ⟨a, ws, h1, H.list h2, h3⟩
theorem seg10 {w : World} {dp un : Nat} {fr : Option (List Env)} {gd : Option (List Code)} {s : Shared} {Q : Flow → Shared → Prop} {mg mb : Str → Option Value} {h₀ : Heap} {L se en : Addr} {m : Str → Option Value} {nz : List (Addr × Obj)} {vs es : List Value} {c ce : Nat} {wr : List (Int × Int)} {ms : List Int} {k : Int} {tk0 : Tok}
   (X : (Mine.hd.heap_39 w.params).In h₀) (T : TopRead Mine.hd.view_39 Mine.hd.lz mg mb h₀) (hroom : dp + 20 < recursionLimit) (hun : un + 150 < cLine)
   (F : Fr h₀ L s.heap m) (N : News h₀ L s.heap nz) (hse : (se, listOf vs.toArray c) ∈ nz) (hR : RowsIn wr nz vs 16) (hwr : WiresOk wr) (hen : (en, listOf es.toArray ce) ∈ nz) (hes : IntsAre es ms) (h4 : ms.length = 4) (hb : ∀ z ∈ ms, 0 ≤ z ∧ z < 10)
   (hlaw : waysN ((List.range 16).map (rowS wr)) ms 4 = [(15, k)]) (hk : 0 ≤ k ∧ k ≤ 1000)
   (hm : m (Str.ofString "settled") = some (.ref se)) (hm1 : m (Str.ofString "ends") = some (.ref en)) (hm2 : m (Str.ofString "equal") = some (.int k tk0))
   (ret : ∀ h' tk, (∀ b o, h₀.get? b = some o → h'.get? b = some o) → Q (.ret (.bool true)) { s with heap := h', toks := tk }) :
   wpAny (model prog w) (Ar dp un fr gd) (execs (lawBody.drop 23) (lawEnv L)) Q (fun _ _ => False) s := by
  rw [bd23, bd24]
  have ep := pin3 hm hm1 hm2
  rw [ep] at F
  dsimp only [st23, st24]
  repeat' (first | (dsimp only; walk1) | walk1 | refine zP _ ?_ | refine zR0 _ _ ?_ | refine zP0 _ ?_ | refine zC _ ?_ | refine zR _ _ ?_ | refine zB _ ?_ | refine zE _ ?_ | fail "")
  rename Fr _ _ _ _ => F1
  rename News _ _ _ _ => N1
  have H1 := Has.of N1 (fun p hp => hp)
  refine unstop ?_
  refine' ways_sum (X.keeps F1.keep) (T.keeps F1.keep) ?h1 ?h2 (hR.at hse H1) (by rw [List.length_map, List.length_range]) (fun r hr => ?h3) (H1.list hen) hes h4 hb ?_
  case h1 => ((try simp only [depth_under_make, depth_under_kw, depth_in1, depth_deeper, depth_caller]); (try dsimp only [Ar]); (first | lia | omega))
  case h2 => ((try simp only [units_in1, units_deeper, Around.mark_units, units_caller]); (try dsimp only [Ar]); (first | lia | omega))
  case h3 =>
    obtain ⟨i, _, rfl⟩ := List.mem_map.mp hr
    exact rowS_len hwr i
  intro h' tk' r hkk hT hn
  rw [hlaw] at hT
  obtain ⟨lo, kr, ⟨o, es', ep', ho, hx⟩, hf⟩ := id hT
  have N2 := News.more F1 (N1.keeps hkk) ho hn
  have F2 := F1.keeps hkk
  have hrz : ∀ p ∈ nz, p.1 ≠ r := fun p hp e => by have := (N1 p hp).1; rw [e, hn] at this; cases this
  clear F1 N1 H1
  repeat' (first | (dsimp only; walk1) | walk1 | refine zP _ ?_ | refine zR0 _ _ ?_ | refine zP0 _ ?_ | refine zC _ ?_ | refine zR _ _ ?_ | refine zB _ ?_ | refine zE _ ?_ | fail "")
  rename Fr _ _ _ _ => F5
  rename (News _ _ _ ((_, _) :: (_, _) :: _)) => N5
  rename (_ == sysModules) = false => lo5
  rename Obj.IsDictOf (intKind prog w) _ (intKeyPairs _) => hd5
  rename PyProof.V.FlatPairs PyData.int (intKeyPairs _) _ => hf5
  have T1 := TabAt.ofNews N5 (.tail _ (.head _)) lo ⟨es', ep', hx⟩ hf
  have T2 := TabAt.ofNews N5 (.head _) lo5 hd5 hf5
  refine keq_tabs (knd := PySem.intKind _ _) (enc := PyData.int) (Da := [(PyData.int 15, PyData.int k)]) (r := true) PyProof.V.same_int T1 T2 rfl ?hu ?hr ?_
  case hu => ((try simp only [units_in1, units_deeper, Around.mark_units, units_caller]); (try dsimp only [Ar]); (first | lia | omega))
  case hr =>
    have e : (PyData.eqv (.int k) (.int k) && true) = true := by simp [PyData.eqv]
    have := KeqRows.hit (Db := [(PyData.int 15, PyData.int k)]) (k := .int 15) (v := .int k) (u := .int k) (r := []) rfl .nil
    rw [e] at this
    exact this
  clear T2
  repeat' (first | (dsimp only; walk1) | walk1 | refine zP _ ?_ | refine zR0 _ _ ?_ | refine zP0 _ ?_ | refine zC _ ?_ | refine zR _ _ ?_ | refine zB _ ?_ | refine zE _ ?_ | fail "")
  rename Fr _ _ _ _ => F6
  rename News _ _ _ _ => N6
  refine unstop ?_
  refine' count_sum (lt := [(15, k)]) (X.keeps F6.keep) (T.keeps F6.keep) ?h1 ?h2 T1 (show 1 ≤ 100 by decide) (fun p hp => ?h3) ?_
  case h1 => ((try simp only [depth_under_make, depth_under_kw, depth_in1, depth_deeper, depth_caller]); (try dsimp only [Ar]); (first | lia | omega))
  case h2 => ((try simp only [units_in1, units_deeper, Around.mark_units, units_caller]); (try dsimp only [Ar]); (first | lia | omega))
  case h3 => rw [List.mem_singleton.mp hp]; exact hk
  intro h7 tk7 t7 hk7
  have N7 := N6.keeps hk7
  have F7 := F6.keeps hk7
  have es : sumV [(15, k)] = k := by simp [sumV]
  rw [es]
  repeat' (first | (dsimp only; walk1) | walk1 | refine zP _ ?_ | refine zR0 _ _ ?_ | refine zP0 _ ?_ | refine zC _ ?_ | refine zR _ _ ?_ | refine zB _ ?_ | refine zE _ ?_ | fail "")
  try dsimp only
  rw [beq_self_eq_true]
  exact ret _ _ F7.keep

end P39
section P40
theorem w1_own : ∀ hd ∈ ([0, 1, 2, 3, 4] : List Int), ∀ j < 4, w1 hd (80 + j) = [80 + j] := by decide +kernel
theorem writ_last {hd : Int} (hh : 0 ≤ hd ∧ hd < 5) {j : Nat} (hj : j < 4) (n : Int) : (writF hd (nameL j n)).getLast? = some (80 + j) := by
  have h5 : hd ∈ ([0, 1, 2, 3, 4] : List Int) := by
    have : hd = 0 ∨ hd = 1 ∨ hd = 2 ∨ hd = 3 ∨ hd = 4 := by (first | lia | omega)
    rcases this with rfl | rfl | rfl | rfl | rfl <;> decide
  rw [writF_map, nameL, List.flatMap_append, List.flatMap_cons, List.flatMap_nil, List.append_nil, w1_own hd h5 j hj, List.getLast?_append]
  rfl
theorem tot_txt {txt : Nat → Str} (h : ∀ a b, a < 4 → b < 4 → a ≠ b → (txt a).cps.toList ≠ (txt b).cps.toList) : Tot (ltS txt) where
  irr a _ := decide_eq_false (List.lt_irrefl _)
  tr a b c _ _ _ h1 h2 := decide_eq_true (List.lt_trans (of_decide_eq_true h1) (of_decide_eq_true h2))
  tot a b ha hb hne := by
    by_cases q : (txt a).cps.toList < (txt b).cps.toList
    · exact .inl (decide_eq_true q)
    · by_cases q2 : (txt b).cps.toList < (txt a).cps.toList
      · exact .inr (decide_eq_true q2)
      · exact absurd (List.le_antisymm (List.not_lt.mp q2) (List.not_lt.mp q)) (h a b ha hb hne)
theorem tot_item {num : Nat → Int} {txt : Nat → Str} (T : Tot (ltS txt)) : Tot (ltI num txt) where
  irr a ha := by
    have := T.irr a ha
    unfold ltS at this
    simp [ltI, ltT, this]
  tr a b c ha hb hc h1 h2 := by
    have ht := T.tr a b c ha hb hc
    unfold ltS at ht
    simp only [ltI, ltT, Bool.or_eq_true, Bool.and_eq_true, decide_eq_true_eq, beq_iff_eq] at h1 h2 ht ⊢
    rcases h1 with h1 | ⟨e1, h1⟩ <;> rcases h2 with h2 | ⟨e2, h2⟩
    · exact .inl (by (first | lia | omega))
    · exact .inl (by (first | lia | omega))
    · exact .inl (by (first | lia | omega))
    · exact .inr ⟨by (first | lia | omega), ht h1 h2⟩
  tot a b ha hb hne := by
    have ht := T.tot a b ha hb hne
    unfold ltS at ht
    simp only [ltI, ltT, Bool.or_eq_true, Bool.and_eq_true, decide_eq_true_eq, beq_iff_eq] at ht ⊢
    rcases Int.lt_trichotomy (num a) (num b) with q | q | q
    · exact .inl (.inl q)
    · rcases ht with z | z
      · exact .inl (.inr ⟨q, z⟩)
      · exact .inr (.inr ⟨q.symm, z⟩)
    · exact .inr (.inl q)
theorem wires_ok (cs : List Int) : WiresOk (cs.map wireF) := by
  intro p hp
  obtain ⟨n, _, rfl⟩ := List.mem_map.mp hp
  unfold wireF
  have h1 : Int.fmod n 12 = n % 12 := Int.fmod_eq_emod_of_nonneg _ (by decide)
  have h2 : Int.fmod n 3 = n % 3 := Int.fmod_eq_emod_of_nonneg _ (by decide)
  have h3 : Int.fdiv (n % 12) 3 = (n % 12) / 3 := Int.fdiv_eq_ediv_of_nonneg _ (by decide)
  simp only [h1, h2, h3]
  split <;> (first | lia | omega)
theorem TupsIn.at {tz fz : List (Addr × Obj)} {ws : List Value} {wr : List (Int × Int)} {wi : Addr} {c : Nat} (W : TupsIn tz ws wr) (hs : ∀ p ∈ tz, p ∈ fz) (hm : (wi, listOf ws.toArray c) ∈ tz) (h : Heap) (H : Has h fz) : WiresAt h wi wr := by
  have H' := H.sub hs
  refine ⟨ws, H'.list hm, W.len, fun i p hp => ?_⟩
  obtain ⟨a, tl, th, c, h1, h2⟩ := W.it i p hp
  exact ⟨a, tl, th, h1, H'.tup h2⟩
theorem leads_less {a b i j : Nat} (ha : a < 4) (hb : b < 4) (hi : i < 4) (hj : j < 4) : (leadP a b i).less (leadP a b j) = decide (i / 2 < j / 2) := by
  have := leads_ok
  unfold okLeads at this
  rw [List.all_eq_true] at this
  have := this a (List.mem_range.mpr ha)
  rw [List.all_eq_true] at this
  have := this b (List.mem_range.mpr hb)
  rw [List.all_eq_true] at this
  have := this i (List.mem_range.mpr hi)
  rw [List.all_eq_true] at this
  exact beq_iff_eq.mp (this j (List.mem_range.mpr hj))
theorem leads_bound {a b i : Nat} (ha : a < 4) (hb : b < 4) (hi : i < 4) : ((0 ≤ (leadP a b i).n ∧ (leadP a b i).n < 20) ∧ (0 ≤ (leadP a b i).nt ∧ (leadP a b i).nt < 10)) ∧ (leadP a b i).cnt.length ≤ 3 ∧ (∀ c ∈ (leadP a b i).cnt, 0 ≤ c ∧ c < 10) ∧ 0 ≤ (leadP a b i).b ∧ (leadP a b i).b ≤ 2 := by
  have := bounds_ok
  unfold okBounds at this
  rw [List.all_eq_true] at this
  have := this a (List.mem_range.mpr ha)
  rw [List.all_eq_true] at this
  have := this b (List.mem_range.mpr hb)
  rw [List.all_eq_true] at this
  have := this i (List.mem_range.mpr hi)
  simp only [Bool.and_eq_true, decide_eq_true_eq, List.all_eq_true] at this
  obtain ⟨⟨⟨⟨h1, h2⟩, h3⟩, h4⟩, h5⟩ := this
  exact ⟨⟨h1, h2⟩, h3, h4, h5⟩
theorem less_half {x y : Int} {a b : Nat} (ha : a < 4) (hb : b < 4) (hx : 0 ≤ x ∧ x < 4) (hy : 0 ≤ y ∧ y < 4) : (leadP a b x.toNat).less (leadP a b y.toNat) = decide (Int.fdiv x 2 < Int.fdiv y 2) := by
  rw [leads_less ha hb (by (first | lia | omega)) (by (first | lia | omega))]
  have h1 : Int.fdiv x 2 = x / 2 := Int.fdiv_eq_ediv_of_nonneg _ (by decide)
  have h2 : Int.fdiv y 2 = y / 2 := Int.fdiv_eq_ediv_of_nonneg _ (by decide)
  rw [h1, h2]
  refine decide_eq_decide.mpr ?_
  (first | lia | omega)
theorem LeadsIn.at {a b : Nat} (ha : a < 4) (hb : b < 4) {fz : List (Addr × Obj)} {vs : List Value} {le : Addr} {c : Nat} (W : LeadsIn a b fz vs 4) (hm : (le, listOf vs.toArray c) ∈ fz) (h : Heap) (H : Has h fz) : LeadsAt h le fun j => leadP a b j.toNat := by
  have key : ∀ j : Int, ∃ x : Addr, 0 ≤ j → j < 4 → vs[j.toNat]? = some (Value.ref x) ∧ Wp.At h x (leadP a b j.toNat) := fun j => by
    by_cases hj : 0 ≤ j ∧ j < 4
    · obtain ⟨x, e1, dx, nm, ct, h1, h2, h3, h4, h5, k1, k2, k3, k4, k5, tw, tn, tnt, tb, c1, c2, ws, cvs, m1, m2, m3, m4, hc⟩ := W.it j.toNat (by (first | lia | omega))
      obtain ⟨⟨b1, b2⟩, b3, b4, b5⟩ := leads_bound ha hb (i := j.toNat) (by (first | lia | omega))
      exact ⟨x, fun _ _ => ⟨e1, ⟨dx, nm, ct, h1, h2, h3, h4, h5, k1, k2, k3, k4, k5, tw, tn, tnt, tb, ws, cvs, H _ m3, H _ m4, H.tup m1, H.tup m2, hc⟩, b1, b2, b3, b4, b5⟩⟩
    · exact ⟨(0 : Nat), fun p q => absurd ⟨p, q⟩ hj⟩
  obtain ⟨f, hf⟩ := Classical.axiomOfChoice key
  exact ⟨vs, f, H.list hm, fun j p q => hf j p q⟩
theorem places_pl (lt : Nat → Nat → Bool) {x : Int} (hx : 0 ≤ x ∧ x < 4) : rank lt x.toNat = (i4.map (rank lt)).getD x.toNat 0 := by
  rw [List.getD_eq_getElem?_getD, List.getElem?_map, i4_at (by (first | lia | omega))]
  rfl

end P40
section P41
theorem newsC {h₀ h : Heap} {L : Addr} {all b : List (Addr × Obj)} {p : Addr × Obj} (N : News h₀ L h all) (m : p ∈ all) (B : News h₀ L h b) : News h₀ L h (p :: b) := fun q hq => by
  rcases List.mem_cons.mp hq with rfl | hq
  · exact N _ m
  · exact B q hq
theorem newsAA {h₀ h : Heap} {L : Addr} {a b c : List (Addr × Obj)} (N : News h₀ L h (a ++ b)) (B : News h₀ L h c) : News h₀ L h (a ++ c) := fun q hq =>
  (List.mem_append.mp hq).elim (fun z => N q (List.mem_append.mpr (.inl z))) (B q)
theorem newsR {h₀ h : Heap} {L : Addr} {a b : List (Addr × Obj)} (N : News h₀ L h (a ++ b)) : News h₀ L h b := fun q hq => N q (List.mem_append.mpr (.inr hq))
theorem neC {all b : List (Addr × Obj)} {x : Addr} {p : Addr × Obj} (h : p.1 ≠ x) (hb : ∀ q ∈ b, q.1 ≠ x) : ∀ q ∈ p :: b, q.1 ≠ x := fun q hq => by
  rcases List.mem_cons.mp hq with rfl | hq
  · exact h
  · exact hb q hq
theorem cell_list {h₀ h : Heap} {L x a : Addr} {all : List (Addr × Obj)} {o : Obj} {v : Option Value} {vs : List Value} {c : Nat} (N : News h₀ L h all) (hx : (x, o) ∈ all) (d : o.data = .cell v) (hm : (a, listOf vs.toArray c) ∈ all) : a ≠ x :=
  notCell_ne N hx d (tz := [(a, listOf vs.toArray c)]) (fun p hp => List.mem_singleton.mp hp ▸ hm) (fun p hp v => by rw [List.mem_singleton.mp hp]; exact fun e => nomatch e) _ (.head _)
theorem inR {a b : List (Addr × Obj)} : ∀ p ∈ b, p ∈ a ++ b := fun p hp => List.mem_append.mpr (.inr hp)
theorem inL {a b : List (Addr × Obj)} : ∀ p ∈ a, p ∈ a ++ b := fun p hp => List.mem_append.mpr (.inl hp)
theorem tail3 {w : World} {dp un : Nat} {fr : Option (List Env)} {gd : Option (List Code)} {s : Shared} {Q : Flow → Shared → Prop} {mg mb : Str → Option Value} {h₀ : Heap} {L wi nm pa en se : Addr} {m : Str → Option Value} {rz : List (Addr × Obj)} {o7 : Obj} {zs es vs : List Value} {cp ce c : Nat} {wr : List (Int × Int)} {num : Nat → Int} {txt : Nat → Str}
   (X : (Mine.hd.heap_39 w.params).In h₀) (T : TopRead Mine.hd.view_39 Mine.hd.lz mg mb h₀) (hroom : dp + 20 < recursionLimit) (hun : un + 150 < cLine)
   (F : Fr h₀ L s.heap m) (N : News h₀ L s.heap ((L + 7, o7) :: rz)) (d7 : o7.data = .cell (some (.ref pa))) (hpa : (pa, listOf zs.toArray cp) ∈ rz) (hzs : IntsAre zs (i4.map (rank (ltS txt)))) (hW : ∀ h, Has h rz → WiresAt h wi wr) (hNm : ∀ h, Has h rz → NamesAt h nm (fun j => txt j.toNat)) (hwr : WiresOk wr) (hT : Tot (ltS txt))
   (hse : (se, listOf vs.toArray c) ∈ rz) (hR : RowsIn wr rz vs 16) (hen : (en, listOf es.toArray ce) ∈ rz) (hes : IntsAre es ((ordI wr num txt).map (rank (ltI num txt))))
   (hm1 : m (Str.ofString "wires") = some (.ref wi)) (hm2 : m (Str.ofString "names") = some (.ref nm)) (hm3 : m (Str.ofString "ends") = some (.ref en)) (hm4 : m (Str.ofString "settled") = some (.ref se))
   (ret : ∀ h' tk, (∀ b o, h₀.get? b = some o → h'.get? b = some o) → Q (.ret (.bool true)) { s with heap := h', toks := tk }) :
   wpAny (model prog w) (Ar dp un fr gd) (execs (lawBody.drop 19) (lawEnv L)) Q (fun _ _ => False) s := by
  refine seg8 X T hroom (by (first | lia | omega)) F N ?_
  intro h1 tk1 m1 ol ovs oc tz F1 off1 mo N1 hnc hol hO
  have hrz : ∀ p ∈ rz, p ∈ tz ++ rz := fun p hp => List.mem_append.mpr (.inr hp)
  refine seg9 (fz := rz) (nz := tz ++ rz) (o7 := o7) X T hroom (by (first | lia | omega)) F1 (newsC N1 (inR _ (.head _)) (newsAA N1 (newsTl (newsR N1)))) d7 (hrz _ hpa) hzs hrz hW hNm hwr hT (List.mem_append.mpr (.inl hol)) (hO.sub fun p hp => List.mem_append.mpr (.inl hp)) (hrz _ hen) hes mo ((off1.at rfl).trans hm1) ((off1.at rfl).trans hm2) ((off1.at rfl).trans hm3) ?_
  intro h2 tk2 m2 t2 F2 off2 me N2
  obtain ⟨wl, e4, eb⟩ := ways_law (pl := plc txt) hwr (tot_item (num := num) hT) (rank_perm hT) (fun x hx => places_pl (ltS txt) hx) (ends := (ordI wr num txt).map (rank (ltI num txt))) rfl
  have hle := cntE_le wr (plc txt) ((ordI wr num txt).map (rank (ltI num txt))) 24
  rw [List.take_of_length_le (by decide)] at hle
  exact seg10 X T hroom hun F2 N2 (.tail _ (hrz _ hse)) (hR.sub fun p hp => .tail _ (hrz p hp)) hwr (.tail _ (hrz _ hen)) hes e4 (fun z hz => ⟨(eb z hz).1, by have := (eb z hz).2; (first | lia | omega)⟩) wl ⟨by (first | lia | omega), by (first | lia | omega)⟩ ((off2.at rfl).trans ((off1.at rfl).trans hm4)) ((off2.at rfl).trans ((off1.at rfl).trans hm3)) me ret
theorem tail2 {w : World} {dp un : Nat} {fr : Option (List Env)} {gd : Option (List Code)} {s : Shared} {Q : Flow → Shared → Prop} {mg mb : Str → Option Value} {h₀ : Heap} {L wi it me se : Addr} {m : Str → Option Value} {rz : List (Addr × Obj)} {o2 o6 o7 : Obj} {v6 v7 : Option Value} {its vs : List Value} {ci cm c : Nat} {wr : List (Int × Int)} {ad : Nat → Addr} {num : Nat → Int} {txt : Nat → Str}
   (X : (Mine.hd.heap_39 w.params).In h₀) (T : TopRead Mine.hd.view_39 Mine.hd.lz mg mb h₀) (hroom : dp + 20 < recursionLimit) (hun : un + 150 < cLine)
   (F : Fr h₀ L s.heap m) (N : News h₀ L s.heap ((L + 2, o2) :: (L + 6, o6) :: (L + 7, o7) :: (it, listOf its.toArray ci) :: rz)) (d2 : o2.data = .cell (some (.ref it))) (d6 : o6.data = .cell v6) (d7 : o7.data = .cell v7) (z6 : ∀ p ∈ rz, p.1 ≠ L + 6) (z7 : ∀ p ∈ rz, p.1 ≠ L + 7) (hit : @LT.lt Nat _ (L + 7) it)
   (hI : ItsAt rz its ad num txt) (hme : (me, listOf ((ordI wr num txt).map fun j => Value.ref (ad j)).toArray cm) ∈ rz) (hW : ∀ h, Has h rz → WiresAt h wi wr) (hwr : WiresOk wr) (hT : Tot (ltS txt)) (hse : (se, listOf vs.toArray c) ∈ rz) (hR : RowsIn wr rz vs 16)
   (hm1 : m (Str.ofString "wires") = some (.ref wi)) (hm3 : m (Str.ofString "met") = some (.ref me)) (hm4 : m (Str.ofString "settled") = some (.ref se))
   (ret : ∀ h' tk, (∀ b o, h₀.get? b = some o → h'.get? b = some o) → Q (.ret (.bool true)) { s with heap := h', toks := tk }) :
   wpAny (model prog w) (Ar dp un fr gd) (execs (lawBody.drop 15) (lawEnv L)) Q (fun _ _ => False) s := by
  refine seg7a (nz := (L + 6, o6) :: (L + 7, o7) :: rz) (fz := rz) (ci := ci) (cm := cm) X T hroom (by (first | lia | omega)) F (newsC N (.head _) (newsC N (.tail _ (.tail _ (.tail _ (.head _)))) (newsC N (.tail _ (.head _)) (newsC N (.tail _ (.tail _ (.head _))) (newsTl (newsTl (newsTl (newsTl N)))))))) d2 (fun p hp => .tail _ (.tail _ hp)) hI (.tail _ (.tail _ hme)) hwr hm3 ?_
  intro h1 tk1 en es ce F1 N1 hes
  refine seg7b (nz := (L + 7, o7) :: (en, listOf es.toArray ce) :: rz) (fz := rz) (o6 := o6) (v6 := v6) (ci := ci) X T hroom (by (first | lia | omega)) F1 (newsC N1 (.tail _ (.tail _ (.tail _ (.head _)))) (newsC N1 (.tail _ (.head _)) (newsC N1 (.tail _ (.tail _ (.head _))) (newsC N1 (.tail _ (.tail _ (.tail _ (.tail _ (.head _))))) (newsC N1 (.head _) (newsTl (newsTl (newsTl (newsTl (newsTl N1)))))))))) d6 d2 hit (List.forall_mem_cons.mpr ⟨Nat.ne_of_gt (Nat.lt_succ_self _), List.forall_mem_cons.mpr ⟨cell_list N1 (.tail _ (.tail _ (.tail _ (.head _)))) d6 (.head _), z6⟩⟩) (fun p hp => .tail _ (.tail _ hp)) hI ?_
  intro h2 tk2 tx tvs ct o6' F2 N2 d6' htx hTx
  refine seg7c (nz := (en, listOf es.toArray ce) :: rz) (o7 := o7) (o6 := o6') (v7 := v7) (ct := ct) X T hroom (by (first | lia | omega)) F2 (newsC N2 (.tail _ (.tail _ (.tail _ (.tail _ (.head _))))) (newsC N2 (.tail _ (.head _)) (newsC N2 (.head _) (newsTl (newsTl (newsTl (newsTl (newsTl N2)))))))) d7 d6' htx (List.forall_mem_cons.mpr ⟨cell_list N2 (.tail _ (.tail _ (.tail _ (.tail _ (.head _))))) d7 (.tail _ (.tail _ (.tail _ (.tail _ (.tail _ (.head _)))))), z7⟩) hTx ?_
  intro h3 tk3 pa zs cp o7' F3 N3 d7' hpa hzs
  refine seg7d (nz := (L + 7, o7') :: (pa, listOf zs.toArray cp) :: (en, listOf es.toArray ce) :: rz) (o6 := o6') (ct := ct) X T hroom (by (first | lia | omega)) F3 (newsC N3 (.tail _ (.tail _ (.head _))) (newsC N3 (.tail _ (.tail _ (.tail _ (.head _)))) (newsC N3 (.tail _ (.head _)) (newsC N3 (.head _) (newsTl (newsTl (newsTl (newsTl N3)))))))) d6' hTx ?_
  intro h4 tk4 nm nvs cn tz F4 N4 hnc hNa
  have hrz : ∀ p ∈ rz, p ∈ (nm, listOf nvs.toArray cn) :: (pa, listOf zs.toArray cp) :: (en, listOf es.toArray ce) :: (tz ++ rz) := fun p hp => .tail _ (.tail _ (.tail _ (inR p hp)))
  have N5 := newsTl (newsTl (newsTl N4))
  refine tail3 (rz := (nm, listOf nvs.toArray cn) :: (pa, listOf zs.toArray cp) :: (en, listOf es.toArray ce) :: (tz ++ rz)) (o7 := o7') (cp := cp) (ce := ce) (c := c) X T hroom hun F4 (newsC N5 (inR _ (.head _)) (newsC N4 (.head _) (newsC N5 (inR _ (.tail _ (.head _))) (newsC N5 (inR _ (.tail _ (.tail _ (.head _)))) (newsAA N5 (newsTl (newsTl (newsTl (newsR N5))))))))) d7' (.tail _ (.head _)) hzs (fun h H => hW h (H.sub hrz)) (fun h H => NamesIn.at (fz := (nm, listOf nvs.toArray cn) :: tz) ⟨hNa.len, fun j hj => ?_⟩ (.head _) h (H.sub (List.forall_mem_cons.mpr ⟨.head _, fun p hp => .tail _ (.tail _ (.tail _ (inL p hp)))⟩))) hwr hT (hrz _ hse) (hR.sub hrz) (.tail _ (.tail _ (.head _))) hes hm1 rfl rfl hm4 ret
  obtain ⟨x, dx, hs, t1, t2, h1, h2, h3⟩ := hNa.it j hj
  exact ⟨x, dx, hs, t1, t2, h1, .tail _ h2, .tail _ h3⟩

end P41
section P43
/-- away from the cells 4 to 7 -/
structure Far (L : Addr) (rz : List (Addr × Obj)) : Prop where
  z4 : ∀ p ∈ rz, p.1 ≠ L + 4
  z5 : ∀ p ∈ rz, p.1 ≠ L + 5
  z6 : ∀ p ∈ rz, p.1 ≠ L + 6
  z7 : ∀ p ∈ rz, p.1 ≠ L + 7
theorem Far.of {h₀ h : Heap} {L : Addr} {all tz : List (Addr × Obj)} {o4 o5 o6 o7 : Obj} {v4 v5 v6 v7 : Option Value} (N : News h₀ L h all) (hs : ∀ p ∈ tz, p ∈ all) (hc : NotCell tz) (m4 : (L + 4, o4) ∈ all) (m5 : (L + 5, o5) ∈ all) (m6 : (L + 6, o6) ∈ all) (m7 : (L + 7, o7) ∈ all) (d4 : o4.data = .cell v4) (d5 : o5.data = .cell v5) (d6 : o6.data = .cell v6) (d7 : o7.data = .cell v7) : Far L tz :=
  ⟨notCell_ne N m4 d4 hs hc, notCell_ne N m5 d5 hs hc, notCell_ne N m6 d6 hs hc, notCell_ne N m7 d7 hs hc⟩
theorem Far.app {L : Addr} {a b : List (Addr × Obj)} (A : Far L a) (B : Far L b) : Far L (a ++ b) :=
  ⟨fun p hp => (List.mem_append.mp hp).elim (A.z4 p) (B.z4 p), fun p hp => (List.mem_append.mp hp).elim (A.z5 p) (B.z5 p), fun p hp => (List.mem_append.mp hp).elim (A.z6 p) (B.z6 p), fun p hp => (List.mem_append.mp hp).elim (A.z7 p) (B.z7 p)⟩
theorem Far.gt {L : Addr} {a : List (Addr × Obj)} (h : ∀ p ∈ a, @LT.lt Nat _ (L + 7) p.1) : Far L a :=
  ⟨fun p hp => Nat.ne_of_gt (Nat.lt_of_le_of_lt (Nat.add_le_add_left (by decide) L) (h p hp)), fun p hp => Nat.ne_of_gt (Nat.lt_of_le_of_lt (Nat.add_le_add_left (by decide) L) (h p hp)), fun p hp => Nat.ne_of_gt (Nat.lt_of_le_of_lt (Nat.add_le_add_left (by decide) L) (h p hp)), fun p hp => Nat.ne_of_gt (h p hp)⟩
theorem cellNe {L : Addr} {i j : Nat} (h : i ≠ j) : @Ne Nat (L + i) (L + j) := fun e => h (Nat.add_left_cancel e)
theorem tail1 {w : World} {dp un : Nat} {fr : Option (List Env)} {gd : Option (List Code)} {s : Shared} {Q : Flow → Shared → Prop} {mg mb : Str → Option Value} {h₀ : Heap} {L wi le it : Addr} {m : Str → Option Value} {rz : List (Addr × Obj)} {o2 o4 o5 o6 o7 : Obj} {v4 v5 v6 v7 : Option Value} {its : List Value} {ci : Nat} {wr : List (Int × Int)} {ad : Nat → Addr} {num : Nat → Int} {txt : Nat → Str} {pr : Int → Wp}
   (X : (Mine.hd.heap_39 w.params).In h₀) (T : TopRead Mine.hd.view_39 Mine.hd.lz mg mb h₀) (hroom : dp + 20 < recursionLimit) (hun : un + 150 < cLine)
   (F : Fr h₀ L s.heap m) (N : News h₀ L s.heap ((L + 2, o2) :: (L + 4, o4) :: (L + 5, o5) :: (L + 6, o6) :: (L + 7, o7) :: (it, listOf its.toArray ci) :: rz)) (d2 : o2.data = .cell (some (.ref it))) (d4 : o4.data = .cell v4) (d5 : o5.data = .cell v5) (d6 : o6.data = .cell v6) (d7 : o7.data = .cell v7) (far : Far L rz) (hit : @LT.lt Nat _ (L + 7) it)
   (hI : ItsAt rz its ad num txt) (hW : ∀ h, Has h rz → WiresAt h wi wr) (hLe : ∀ h, Has h rz → LeadsAt h le pr) (hpr : ∀ x y, 0 ≤ x ∧ x < 4 → 0 ≤ y ∧ y < 4 → (pr x).less (pr y) = decide (Int.fdiv x 2 < Int.fdiv y 2)) (hwr : WiresOk wr) (hT : Tot (ltS txt))
   (hm1 : m (Str.ofString "wires") = some (.ref wi)) (hm2 : m (Str.ofString "leads") = some (.ref le))
   (ret : ∀ h' tk, (∀ b o, h₀.get? b = some o → h'.get? b = some o) → Q (.ret (.bool true)) { s with heap := h', toks := tk }) :
   wpAny (model prog w) (Ar dp un fr gd) (execs (lawBody.drop 11) (lawEnv L)) Q (fun _ _ => False) s := by
  refine seg5 (nz := (L + 2, o2) :: (L + 5, o5) :: (L + 6, o6) :: (L + 7, o7) :: (it, listOf its.toArray ci) :: rz) (fz := rz) X T hroom (by (first | lia | omega)) F (newsC N (.tail _ (.head _)) (newsC N (.head _) (newsTl (newsTl N)))) d4 (List.forall_mem_cons.mpr ⟨cellNe (by decide), List.forall_mem_cons.mpr ⟨cellNe (by decide), List.forall_mem_cons.mpr ⟨cellNe (by decide), List.forall_mem_cons.mpr ⟨cellNe (by decide), List.forall_mem_cons.mpr ⟨cell_list N (.tail _ (.head _)) d4 (.tail _ (.tail _ (.tail _ (.tail _ (.tail _ (.head _)))))), far.z4⟩⟩⟩⟩⟩) (fun p hp => .tail _ (.tail _ (.tail _ (.tail _ (.tail _ hp))))) hW hLe hwr hpr hm1 hm2 ?_
  intro h1 tk1 m1 o4' v4' tz se vs c F1 off1 ms N1 d4' hnc hse hR
  have hin : ∀ p ∈ (L + 2, o2) :: (L + 5, o5) :: (L + 6, o6) :: (L + 7, o7) :: (it, listOf its.toArray ci) :: rz, p ∈ (L + 4, o4') :: (tz ++ (L + 2, o2) :: (L + 5, o5) :: (L + 6, o6) :: (L + 7, o7) :: (it, listOf its.toArray ci) :: rz) := fun p hp => .tail _ (inR p hp)
  have far1 : Far L (tz ++ rz) := .app (.of N1 (fun p hp => .tail _ (inL p hp)) hnc (.head _) (hin _ (.tail _ (.head _))) (hin _ (.tail _ (.tail _ (.head _)))) (hin _ (.tail _ (.tail _ (.tail _ (.head _))))) d4' d5 d6 d7) far
  have hrz : ∀ p ∈ rz, p ∈ tz ++ rz := inR
  have hI1 := hI.sub hrz
  have hW1 : ∀ h, Has h (tz ++ rz) → WiresAt h wi wr := fun h H => hW h (H.sub hrz)
  have hse1 : (se, listOf vs.toArray c) ∈ tz ++ rz := inL _ hse
  have hR1 : RowsIn wr (tz ++ rz) vs 16 := hR.sub inL
  have N1' : News h₀ L h1 ((L + 2, o2) :: (it, listOf its.toArray ci) :: (L + 4, o4') :: (L + 5, o5) :: (L + 6, o6) :: (L + 7, o7) :: (tz ++ rz)) :=
    newsC N1 (hin _ (.head _)) (newsC N1 (hin _ (.tail _ (.tail _ (.tail _ (.tail _ (.head _)))))) (newsC N1 (.head _) (newsC N1 (hin _ (.tail _ (.head _))) (newsC N1 (hin _ (.tail _ (.tail _ (.head _)))) (newsC N1 (hin _ (.tail _ (.tail _ (.tail _ (.head _))))) (newsAA (newsTl N1) (newsTl (newsTl (newsTl (newsTl (newsTl (newsR (newsTl N1))))))))))))) 
  generalize tz ++ rz = r1 at *
  refine seg6a (nz := (L + 4, o4') :: (L + 5, o5) :: (L + 6, o6) :: (L + 7, o7) :: r1) (fz := r1) (ci := ci) X T hroom (by (first | lia | omega)) F1 N1' d2 (fun p hp => .tail _ (.tail _ (.tail _ (.tail _ hp)))) hI1 hW1 hwr ((off1.at rfl).trans hm1) ?_
  intro h2 tk2 me cm F2 N2 _ _
  refine seg6b (nz := (L + 6, o6) :: (L + 7, o7) :: (me, listOf ((ordI wr num txt).map fun j => Value.ref (ad j)).toArray cm) :: r1) (fz := r1) (ci := ci) (c := c) (cm := cm) X T hroom (by (first | lia | omega)) F2 (newsC N2 (.tail _ (.tail _ (.tail _ (.head _)))) (newsC N2 (.tail _ (.tail _ (.tail _ (.tail _ (.head _))))) (newsC N2 (.tail _ (.head _)) (newsC N2 (.tail _ (.tail _ (.head _))) (newsC N2 (.tail _ (.tail _ (.tail _ (.tail _ (.tail _ (.head _)))))) (newsC N2 (.tail _ (.tail _ (.tail _ (.tail _ (.tail _ (.tail _ (.head _))))))) (newsC N2 (.head _) (newsTl (newsTl (newsTl (newsTl (newsTl (newsTl (newsTl N2)))))))))))))) d4' d5 d2 hit
    (List.forall_mem_cons.mpr ⟨cellNe (by decide), List.forall_mem_cons.mpr ⟨cellNe (by decide), List.forall_mem_cons.mpr ⟨cell_list N2 (.tail _ (.tail _ (.tail _ (.head _)))) d4' (.head _), far1.z4⟩⟩⟩)
    (List.forall_mem_cons.mpr ⟨cellNe (by decide), List.forall_mem_cons.mpr ⟨cellNe (by decide), List.forall_mem_cons.mpr ⟨cell_list N2 (.tail _ (.tail _ (.tail _ (.tail _ (.head _))))) d5 (.head _), far1.z5⟩⟩⟩)
    (fun p hp => .tail _ (.tail _ (.tail _ hp))) hI1 (.tail _ (.tail _ (.tail _ hse1))) (hR1.sub fun p hp => .tail _ (.tail _ (.tail _ hp))) (.tail _ (.tail _ (.head _))) hwr (fun b hb => lawB hwr (tot_item hT) hb) ms rfl ?_
  intro h3 tk3 o4x v4x o5x v5x tz3 F3 N3 d4x d5x hnc3
  have hin3 : ∀ p ∈ (L + 6, o6) :: (L + 7, o7) :: (me, listOf ((ordI wr num txt).map fun j => Value.ref (ad j)).toArray cm) :: r1, p ∈ tz3 ++ (L + 6, o6) :: (L + 7, o7) :: (me, listOf ((ordI wr num txt).map fun j => Value.ref (ad j)).toArray cm) :: r1 := inR
  have N4 := newsTl (newsTl (newsTl (newsTl N3)))
  have z6 : ∀ p ∈ (me, listOf ((ordI wr num txt).map fun j => Value.ref (ad j)).toArray cm) :: (tz3 ++ r1), p.1 ≠ L + 6 := List.forall_mem_cons.mpr ⟨cell_list N4 (hin3 _ (.head _)) d6 (hin3 _ (.tail _ (.tail _ (.head _)))), fun p hp => (List.mem_append.mp hp).elim (notCell_ne N4 (hin3 _ (.head _)) d6 inL hnc3 p) (far1.z6 p)⟩
  have z7 : ∀ p ∈ (me, listOf ((ordI wr num txt).map fun j => Value.ref (ad j)).toArray cm) :: (tz3 ++ r1), p.1 ≠ L + 7 := List.forall_mem_cons.mpr ⟨cell_list N4 (hin3 _ (.tail _ (.head _))) d7 (hin3 _ (.tail _ (.tail _ (.head _)))), fun p hp => (List.mem_append.mp hp).elim (notCell_ne N4 (hin3 _ (.tail _ (.head _))) d7 inL hnc3 p) (far1.z7 p)⟩
  have hr1 : ∀ p ∈ r1, p ∈ (me, listOf ((ordI wr num txt).map fun j => Value.ref (ad j)).toArray cm) :: (tz3 ++ r1) := fun p hp => .tail _ (inR p hp)
  exact tail2 (rz := (me, listOf ((ordI wr num txt).map fun j => Value.ref (ad j)).toArray cm) :: (tz3 ++ r1)) (ci := ci) (cm := cm) (c := c) X T hroom hun F3 (newsC N3 (.tail _ (.tail _ (.head _))) (newsC N4 (hin3 _ (.head _)) (newsC N4 (hin3 _ (.tail _ (.head _))) (newsC N3 (.tail _ (.tail _ (.tail _ (.head _)))) (newsC N4 (hin3 _ (.tail _ (.tail _ (.head _)))) (newsAA N4 (newsTl (newsTl (newsTl (newsR N4)))))))))) d2 d6 d7 z6 z7 hit (hI1.sub hr1) (.head _) (fun h H => hW1 h (H.sub hr1)) hwr hT (hr1 _ hse1) (hR1.sub hr1) ((off1.at rfl).trans hm1) rfl ms ret

end P43
section P44
theorem law_walk {w : World} {dp un : Nat} {fr : Option (List Env)} {gd : Option (List Code)} {s : Shared} {Q : Flow → Shared → Prop} {mg mb : Str → Option Value} {h₀ : Heap} {L a : Addr} {m : Str → Option Value} {o1 o2 o3 o4 o5 o6 o7 : Obj} {v1 v2 v3 v4 v5 v6 v7 : Option Value} {vals : List Value} {ns : List Int}
   (X : (Mine.hd.heap_39 w.params).In h₀) (T : TopRead Mine.hd.view_39 Mine.hd.lz mg mb h₀) (hroom : dp + 20 < recursionLimit) (hun : un + 150 < cLine)
   (F : Fr h₀ L s.heap m) (N : News h₀ L s.heap [(L + 1, o1), (L + 2, o2), (L + 3, o3), (L + 4, o4), (L + 5, o5), (L + 6, o6), (L + 7, o7)]) (d1 : o1.data = .cell v1) (d2 : o2.data = .cell v2) (d3 : o3.data = .cell v3) (d4 : o4.data = .cell v4) (d5 : o5.data = .cell v5) (d6 : o6.data = .cell v6) (d7 : o7.data = .cell v7)
   (hm : m (Str.ofString "script") = some (.ref a)) (hl : h₀.IsList a vals.toArray) (hv : IntsAre vals ns) (h63 : ns.length ≤ 63)
   (ret : ∀ h' tk, (∀ b o, h₀.get? b = some o → h'.get? b = some o) → Q (.ret (.bool true)) { s with heap := h', toks := tk }) :
   wpAny (model prog w) (Ar dp un fr gd) (execs (lawBody.drop 0) (lawEnv L)) Q (fun _ _ => False) s := by
  refine @seg1 w dp un fr gd s Q mg mb h₀ L a m _ vals ns X T (by (first | lia | omega)) (by (first | lia | omega)) F N hm hl hv h63 ?_
  intro h1 tk1 m1 cl vs c cs d td th hlt F1 N1 hcs hc10 mc md mh
  have l7 : @LT.lt Nat _ (L + 7) cl := hlt _ (.tail _ (.tail _ (.tail _ (.tail _ (.tail _ (.tail _ (.head _)))))))
  have hh : 0 ≤ Int.fmod d 5 ∧ Int.fmod d 5 < 5 := by
    rw [Int.fmod_eq_emod_of_nonneg _ (by decide)]
    (first | lia | omega)
  generalize Int.fmod d 5 = hd at *
  refine seg2 (nz := [(cl, listOf vs.toArray c), (L + 2, o2), (L + 3, o3), (L + 4, o4), (L + 5, o5), (L + 6, o6), (L + 7, o7)]) (c := c) (o1 := o1) (v1 := v1) X T (by (first | lia | omega)) (by (first | lia | omega)) F1 (newsC N1 (.head _) (newsC N1 (.tail _ (.head _)) (newsC N1 (.head _) (newsTl (newsTl N1))))) d1
    (List.forall_mem_cons.mpr ⟨cell_list N1 (.tail _ (.head _)) d1 (.head _), List.forall_mem_cons.mpr ⟨cellNe (by decide), List.forall_mem_cons.mpr ⟨cellNe (by decide), List.forall_mem_cons.mpr ⟨cellNe (by decide), List.forall_mem_cons.mpr ⟨cellNe (by decide), List.forall_mem_cons.mpr ⟨cellNe (by decide), List.forall_mem_cons.mpr ⟨cellNe (by decide), List.forall_mem_nil _⟩⟩⟩⟩⟩⟩⟩) l7 mc hcs hc10 ?_
  intro h2 tk2 m2 wi ws cw o1' v1' tz F2 off2 N2 d1' htz hwi hTi mw
  have N2' := newsR (newsTl N2)
  have M2 : ∀ p ∈ tz, p ∈ (L + 1, o1') :: (tz ++ [(cl, listOf vs.toArray c), (L + 2, o2), (L + 3, o3), (L + 4, o4), (L + 5, o5), (L + 6, o6), (L + 7, o7)]) := fun p hp => .tail _ (inL p hp)
  have ne1 : ∀ k, k ≤ 7 → ∀ p ∈ tz, p.1 ≠ L + k := fun k hk p hp => Nat.ne_of_gt (Nat.lt_of_le_of_lt (Nat.add_le_add_left hk L) (htz p hp))
  refine seg3 (nz := (L + 3, o3) :: (L + 4, o4) :: (L + 5, o5) :: (L + 6, o6) :: (L + 7, o7) :: tz) (c := c) (o1 := o1') (o2 := o2) (v1 := v1') (v2 := v2) X T (by (first | lia | omega)) (by (first | lia | omega)) F2
    (newsC N2' (.head _) (newsC N2 (.head _) (newsC N2' (.tail _ (.head _)) (newsC N2' (.tail _ (.tail _ (.head _))) (newsC N2' (.tail _ (.tail _ (.tail _ (.head _)))) (newsC N2' (.tail _ (.tail _ (.tail _ (.tail _ (.head _))))) (newsC N2' (.tail _ (.tail _ (.tail _ (.tail _ (.tail _ (.head _)))))) (newsC N2' (.tail _ (.tail _ (.tail _ (.tail _ (.tail _ (.tail _ (.head _))))))) (newsApp N2 M2))))))))) d1' d2
    (List.forall_mem_cons.mpr ⟨cellNe (by decide), List.forall_mem_cons.mpr ⟨cellNe (by decide), List.forall_mem_cons.mpr ⟨cellNe (by decide), List.forall_mem_cons.mpr ⟨cellNe (by decide), List.forall_mem_cons.mpr ⟨cellNe (by decide), ne1 1 (by decide)⟩⟩⟩⟩⟩)
    (List.forall_mem_cons.mpr ⟨cellNe (by decide), List.forall_mem_cons.mpr ⟨cellNe (by decide), List.forall_mem_cons.mpr ⟨cellNe (by decide), List.forall_mem_cons.mpr ⟨cellNe (by decide), List.forall_mem_cons.mpr ⟨cellNe (by decide), ne1 2 (by decide)⟩⟩⟩⟩⟩) l7 ((off2.at rfl).trans mc) ((off2.at rfl).trans mh) hh hcs hc10 ?_
  intro h3 tk3 m3 it its ci o1x v1x o2x tz3 F3 off3 N3 d1x d2x htz3 hit hIt
  have N3' := newsTl (newsTl N3)
  have N3r := newsR N3'
  have ne3 : ∀ k, k ≤ 7 → ∀ p ∈ tz3, p.1 ≠ L + k := fun k hk p hp => Nat.ne_of_gt (Nat.lt_of_le_of_lt (Nat.add_le_add_left hk L) (htz3 p hp))
  have Nrz : News h₀ L h3 (tz3 ++ tz) := newsAA N3' (newsTl (newsTl (newsTl (newsTl (newsTl N3r)))))
  have far : ∀ p ∈ tz3 ++ tz, @LT.lt Nat _ (L + 7) p.1 := fun p hp => (List.mem_append.mp hp).elim (htz3 p) (htz p)
  have N4 : News h₀ L h3 ((L + 3, o3) :: (L + 2, o2x) :: (L + 4, o4) :: (L + 5, o5) :: (L + 6, o6) :: (L + 7, o7) :: (tz3 ++ tz)) :=
    newsC N3r (.head _) (newsC N3 (.tail _ (.head _)) (newsC N3r (.tail _ (.head _)) (newsC N3r (.tail _ (.tail _ (.head _))) (newsC N3r (.tail _ (.tail _ (.tail _ (.head _)))) (newsC N3r (.tail _ (.tail _ (.tail _ (.tail _ (.head _))))) Nrz)))))
  obtain ⟨ad, num, txt, hI, htx⟩ := hIt.pick
  have hT : Tot (ltS txt) := tot_txt fun a b ha hb hne e => by
    rw [(htx a ha).2, (htx b hb).2] at e
    have e1 := writ_last hh ha (num a)
    rw [e, writ_last hh hb (num b)] at e1
    injection e1 with e1
    (first | lia | omega)
  have hW : ∀ h, Has h (tz3 ++ tz) → WiresAt h wi ((cs.take 6).map wireF) := TupsIn.at hTi inR hwi
  have hI4 : ItsAt (tz3 ++ tz) its ad num txt := hI.sub inL
  have hit7 : @LT.lt Nat _ (L + 7) it := htz3 _ hit
  have hitr : (it, listOf its.toArray ci) ∈ tz3 ++ tz := inL _ hit
  have mw3 := (off3.at (x := Str.ofString "wires") rfl).trans mw
  have md3 := (off3.at (x := Str.ofString "drawn") rfl).trans ((off2.at (x := Str.ofString "drawn") rfl).trans md)
  generalize tz3 ++ tz = rz at *
  clear N1 N2 N2' N3 N3' N3r Nrz M2 F1 F2 off2 off3 ne1 ne3
  refine seg4a (nz := (L + 2, o2x) :: (L + 4, o4) :: (L + 5, o5) :: (L + 6, o6) :: (L + 7, o7) :: rz) (v3 := v3) X T (by (first | lia | omega)) (by (first | lia | omega)) F3 N4 d3
    (List.forall_mem_cons.mpr ⟨cellNe (by decide), List.forall_mem_cons.mpr ⟨cellNe (by decide), List.forall_mem_cons.mpr ⟨cellNe (by decide), List.forall_mem_cons.mpr ⟨cellNe (by decide), List.forall_mem_cons.mpr ⟨cellNe (by decide), fun p hp => Nat.ne_of_gt (Nat.lt_of_le_of_lt (Nat.add_le_add_left (by decide) L) (far p hp))⟩⟩⟩⟩⟩) md3 ?_
  intro h5 tk5 o3' xl tl xp tp a' b' ha hb hxl hxp F5 N5 d3'
  refine seg4b (nz := (L + 2, o2x) :: (L + 4, o4) :: (L + 5, o5) :: (L + 6, o6) :: (L + 7, o7) :: rz) X T (by (first | lia | omega)) (by (first | lia | omega)) F5 N5 d3'
    (List.forall_mem_cons.mpr ⟨cellNe (by decide), List.forall_mem_cons.mpr ⟨cellNe (by decide), List.forall_mem_cons.mpr ⟨cellNe (by decide), List.forall_mem_cons.mpr ⟨cellNe (by decide), List.forall_mem_cons.mpr ⟨cellNe (by decide), fun p hp => Nat.ne_of_gt (Nat.lt_of_le_of_lt (Nat.add_le_add_left (by decide) L) (far p hp))⟩⟩⟩⟩⟩) rfl ha hb hxl hxp ?_
  intro h6 tk6 tz6 le lvs lc F6 N6 hnc hle hLi
  have N6' := newsTl N6
  have N6r := newsR N6'
  have hin : ∀ p ∈ (L + 2, o2x) :: (L + 4, o4) :: (L + 5, o5) :: (L + 6, o6) :: (L + 7, o7) :: rz, p ∈ (L + 3, o3') :: (tz6 ++ (L + 2, o2x) :: (L + 4, o4) :: (L + 5, o5) :: (L + 6, o6) :: (L + 7, o7) :: rz) := fun p hp => .tail _ (inR p hp)
  exact tail1 (rz := tz6 ++ rz) (ci := ci) (o2 := o2x) (pr := fun j => leadP a' b' j.toNat) X T hroom hun F6 (newsC N6r (.head _) (newsC N6r (.tail _ (.head _)) (newsC N6r (.tail _ (.tail _ (.head _))) (newsC N6r (.tail _ (.tail _ (.tail _ (.head _)))) (newsC N6r (.tail _ (.tail _ (.tail _ (.tail _ (.head _))))) (newsC N6r (.tail _ (.tail _ (.tail _ (.tail _ (.tail _ hitr))))) (newsAA N6' (newsTl (newsTl (newsTl (newsTl (newsTl N6r))))))))))))
    d2x d4 d5 d6 d7 (.app (.of N6 (fun p hp => .tail _ (inL p hp)) hnc (hin _ (.tail _ (.head _))) (hin _ (.tail _ (.tail _ (.head _)))) (hin _ (.tail _ (.tail _ (.tail _ (.head _))))) (hin _ (.tail _ (.tail _ (.tail _ (.tail _ (.head _)))))) d4 d5 d6 d7) (.gt far)) hit7 (hI4.sub inR) (fun h H => hW h (H.sub inR)) (fun h H => LeadsIn.at ha hb hLi hle h (H.sub inL)) (fun x y hx hy => less_half ha hb hx hy) (wires_ok _) hT mw3 rfl ret

end P44
section P45
theorem law_sum {w : World} {dp un : Nat} {fr : Option (List Env)} {gd : Option (List Code)} {s : Shared} {R : Result → Shared → Prop} {mg mb : Str → Option Value} {a : Addr} {vals : List Value} {ns : List Int}
   (X : (Mine.hd.heap_39 w.params).In s.heap) (T : TopRead Mine.hd.view_39 Mine.hd.lz mg mb s.heap) (hroom : dp + 24 < recursionLimit) (hun : un + 200 < cLine)
   (hl : s.heap.IsList a vals.toArray) (hv : IntsAre vals ns) (h63 : ns.length ≤ 63)
   (ret : ∀ h' tk, (∀ b o, s.heap.get? b = some o → h'.get? b = some o) → R (.ok (.ret (.bool true))) { s with heap := h', toks := tk }) :
   codeAny (model prog w) (Ar dp un fr gd) (.call (.ref 331) ⟨[.ref a], []⟩) R s := by
  refine' enterC (T.nolimit) (X 331 _ (by k_is)) rfl (codeRec_of X (by k_is)) (show dp < _ by (first | lia | omega)) (BindsTo.of_eq rfl) ?ck (by decide) ?_
  case ck => intro n; exact fun y hy => .inl (locs rfl y hy)
  intro L h₁ tk cells F N C
  obtain ⟨o7, o6, o5, o4, o3, o2, o1, rfl, d7, d6, d5, d4, d3, d2, d1⟩ := kc_seven C
  have N' : News s.heap L h₁ [(L + 1, o1), (L + 2, o2), (L + 3, o3), (L + 4, o4), (L + 5, o5), (L + 6, o6), (L + 7, o7)] := newsC N (.tail _ (.tail _ (.tail _ (.tail _ (.tail _ (.tail _ (.head _))))))) (newsC N (.tail _ (.tail _ (.tail _ (.tail _ (.tail _ (.head _)))))) (newsC N (.tail _ (.tail _ (.tail _ (.tail _ (.head _))))) (newsC N (.tail _ (.tail _ (.tail _ (.head _)))) (newsC N (.tail _ (.tail _ (.head _))) (newsC N (.tail _ (.head _)) (newsC N (.head _) (News.nil)))))))
  exact @law_walk w (dp + 1) _ _ _ { s with heap := h₁, toks := tk } _ mg mb s.heap L a _ o1 o2 o3 o4 o5 o6 o7 _ _ _ _ _ _ _ vals ns X T (by (first | lia | omega)) (show un + 3 + 150 < cLine by (first | lia | omega)) F N' d1 d2 d3 d4 d5 d6 d7 rfl hl hv h63 fun h' tk' hk => ret h' tk' hk

end P45
section P46
noncomputable def dk : {x : DefRec × List (Str × Expr) // defOf hd.view_39 PySem.Challenge.rw_xh0049_01.row.toRowW.name = some x} := ⟨(_, _), rfl⟩
theorem lawCall : WalkO hd.view_39 hd.lz (XL hd.view_39 []) (Hook.says hd.hook) PySem.Challenge.rw_xh0049_01.row.toRowW dk.1.1 dk.1.2 fun f vs => PySem.call f vs := by
  intro w s₀ s₁ mg mb G Y fa o pm cd doc dV kV ho hfd hcd hD hmg hg args vals as hpre hlay hrd hwl hlo
  have KX := kIn_of Y
  have T := topRead_of G.T
  have hfa : mg (Str.ofString "law") = some (Value.ref 331) := mg_of KX T.g (by k_is)
  obtain rfl : fa = 331 := by
    have e : mg (Str.ofString "law") = some (Value.ref fa) := hmg
    rw [hfa] at e
    injection e with e
    injection e with e
    exact e.symm
  clear ho hfd hcd hD Y hmg hfa
  wrow_args hpre hlay hrd hwl hlo
  refine enter_call (codeAny_mono ?_ (fun _ _ g => GoodW.toG g))
  rename s₁.heap.IsList _ _ => hL
  rename IntsAre _ _ => hI
  rename (¬ _ < _) => hlen
  refine @law_sum w _ _ _ _ s₁ _ mg mb _ _ _ KX T (by decide +kernel) (by decide +kernel) hL hI (by (first | lia | omega)) ?_
  intro h' tk hk
  refine ⟨.inl ⟨_, _, _, rfl, raisesW_false ?_, .bool true, ?_, unshared_nil⟩, hk, rfl, hg⟩
  · wrow_none_raised
  · wrow_post

end P46
section P47
theorem lawH : PySem.Challenge.rw_xh0049_01.Holds := by
  w_on
  refine holds_law hd.said fun said => ?_
  refine holds_open (q := hd.view_39) (loose := hd.lz) (Xt := fun s => xlAt hd.view_39 [] s && recOk (RowW.records PySem.Challenge.rw_xh0049_01.row.toRowW) s) (XP := XL hd.view_39 []) (Yf := Hook.obs hd.hook) (Ya := Hook.val hd.hook) (YP := Hook.says hd.hook) (N := 5000) hd.left (Hook.of hd.hook) (Hook.keeps hd.hook) (fun s e => xl_of s (Bool.and_eq_true_iff.mp e).1) XL.keeps dk.2 (by rfl) (by rfl) (fun s e => recFacts_of (Bool.and_eq_true_iff.mp e).2) (by rfl) said (by decide +kernel) ⟨rfl, rfl, rfl, rfl, rfl, by decide +kernel⟩ ?hw lawCall
  case hw => w_witness2

end P47
end Mine
theorem PySem.Challenge.cw_xh0049_01_holds : PySem.Challenge.rw_xh0049_01.Holds := by
  exact Mine.lawH
