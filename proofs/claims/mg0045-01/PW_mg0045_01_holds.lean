import PyProof.Rows.All
import Wide.All
import OpenK.AllK
import Wide.FinOn
import PySem.Challenge.RW_mg0045_01
set_option Elab.async false
set_option maxRecDepth 100000
set_option compiler.extract_closed false

section
open PySem PySem.W PyProof.Rows
set_option maxRecDepth 100000
set_option compiler.extract_closed false
namespace Mine
/-! the row's program in small definitions (printed by mkpg.py): each is read off the row by the unifier -/
open PySem.Challenge (pw_mg0045_01 rw_mg0045_01)
def pgC0 : Stmt := by refine (?f : ∀ x, pw_mg0045_01.main.body[0]? = some x → Stmt) _ rfl; exact fun x _ => x
def pgC1 : Stmt := by refine (?f : ∀ x, pw_mg0045_01.main.body[1]? = some x → Stmt) _ rfl; exact fun x _ => x
def pgC2 : Stmt := by refine (?f : ∀ x, pw_mg0045_01.main.body[2]? = some x → Stmt) _ rfl; exact fun x _ => x
def pgC3 : Stmt := by refine (?f : ∀ x, pw_mg0045_01.main.body[3]? = some x → Stmt) _ rfl; exact fun x _ => x
def pgC4 : Stmt := by refine (?f : ∀ x, pw_mg0045_01.main.body[4]? = some x → Stmt) _ rfl; exact fun x _ => x
def pgC5 : Stmt := by refine (?f : ∀ x, pw_mg0045_01.main.body[5]? = some x → Stmt) _ rfl; exact fun x _ => x
def pgC6 : Stmt := by refine (?f : ∀ x, pw_mg0045_01.main.body[6]? = some x → Stmt) _ rfl; exact fun x _ => x
def pgC7 : Stmt := by refine (?f : ∀ x, pw_mg0045_01.main.body[7]? = some x → Stmt) _ rfl; exact fun x _ => x
def pgC8 : Stmt := by refine (?f : ∀ x, pw_mg0045_01.main.body[8]? = some x → Stmt) _ rfl; exact fun x _ => x
def pgC9 : Stmt := by refine (?f : ∀ x, pw_mg0045_01.main.body[9]? = some x → Stmt) _ rfl; exact fun x _ => x
def pgC10 : Stmt := by refine (?f : ∀ x, pw_mg0045_01.main.body[10]? = some x → Stmt) _ rfl; exact fun x _ => x
def pgC11 : Stmt := by refine (?f : ∀ x, pw_mg0045_01.main.body[11]? = some x → Stmt) _ rfl; exact fun x _ => x
def pgC12 : Stmt := by refine (?f : ∀ x, pw_mg0045_01.main.body[12]? = some x → Stmt) _ rfl; exact fun x _ => x
def pgC13 : Stmt := by refine (?f : ∀ x, pw_mg0045_01.main.body[13]? = some x → Stmt) _ rfl; exact fun x _ => x
def pgC14 : Stmt := by refine (?f : ∀ x, pw_mg0045_01.main.body[14]? = some x → Stmt) _ rfl; exact fun x _ => x
def pgC15 : Stmt := by refine (?f : ∀ x, pw_mg0045_01.main.body[15]? = some x → Stmt) _ rfl; exact fun x _ => x
def pgC16 : Stmt := by refine (?f : ∀ x, pw_mg0045_01.main.body[16]? = some x → Stmt) _ rfl; exact fun x _ => x
def pgC17 : Stmt := by refine (?f : ∀ x, pw_mg0045_01.main.body[17]? = some x → Stmt) _ rfl; exact fun x _ => x
def pgC18 : Stmt := by refine (?f : ∀ x, pw_mg0045_01.main.body[18]? = some x → Stmt) _ rfl; exact fun x _ => x
def pgC19 : Stmt := by refine (?f : ∀ x, pw_mg0045_01.main.body[19]? = some x → Stmt) _ rfl; exact fun x _ => x
def pgC20 : Stmt := by refine (?f : ∀ x, pw_mg0045_01.main.body[20]? = some x → Stmt) _ rfl; exact fun x _ => x
def pgC21 : Stmt := by refine (?f : ∀ x, pw_mg0045_01.main.body[21]? = some x → Stmt) _ rfl; exact fun x _ => x
def pgC22 : Stmt := by refine (?f : ∀ x, pw_mg0045_01.main.body[22]? = some x → Stmt) _ rfl; exact fun x _ => x
def pgC23 : Stmt := by refine (?f : ∀ x, pw_mg0045_01.main.body[23]? = some x → Stmt) _ rfl; exact fun x _ => x
def pgC24 : Stmt := by refine (?f : ∀ x, pw_mg0045_01.main.body[24]? = some x → Stmt) _ rfl; exact fun x _ => x
def pgC25 : Stmt := by refine (?f : ∀ x, pw_mg0045_01.main.body[25]? = some x → Stmt) _ rfl; exact fun x _ => x
def pgC26 : Stmt := by refine (?f : ∀ x, pw_mg0045_01.main.body[26]? = some x → Stmt) _ rfl; exact fun x _ => x
def pgC27 : Stmt := by refine (?f : ∀ x, pw_mg0045_01.main.body[27]? = some x → Stmt) _ rfl; exact fun x _ => x
def pgC28 : Stmt := by refine (?f : ∀ x, pw_mg0045_01.main.body[28]? = some x → Stmt) _ rfl; exact fun x _ => x
def pgC29 : Stmt := by refine (?f : ∀ x, pw_mg0045_01.main.body[29]? = some x → Stmt) _ rfl; exact fun x _ => x
def pgC30 : Stmt := by refine (?f : ∀ x, pw_mg0045_01.main.body[30]? = some x → Stmt) _ rfl; exact fun x _ => x
def pgC31 : Stmt := by refine (?f : ∀ x, pw_mg0045_01.main.body[31]? = some x → Stmt) _ rfl; exact fun x _ => x
def pgC32 : Stmt := by refine (?f : ∀ x, pw_mg0045_01.main.body[32]? = some x → Stmt) _ rfl; exact fun x _ => x
def pgC33 : Stmt := by refine (?f : ∀ x, pw_mg0045_01.main.body[33]? = some x → Stmt) _ rfl; exact fun x _ => x
def pgC34 : Stmt := by refine (?f : ∀ x, pw_mg0045_01.main.body[34]? = some x → Stmt) _ rfl; exact fun x _ => x
def pgC35 : Stmt := by refine (?f : ∀ x, pw_mg0045_01.main.body[35]? = some x → Stmt) _ rfl; exact fun x _ => x
def pgC36 : Stmt := by refine (?f : ∀ x, pw_mg0045_01.main.body[36]? = some x → Stmt) _ rfl; exact fun x _ => x
def pgC37 : Stmt := by refine (?f : ∀ x, pw_mg0045_01.main.body[37]? = some x → Stmt) _ rfl; exact fun x _ => x
def pgC38 : Stmt := by refine (?f : ∀ x, pw_mg0045_01.main.body[38]? = some x → Stmt) _ rfl; exact fun x _ => x
def pgC39 : Stmt := by refine (?f : ∀ x, pw_mg0045_01.main.body[39]? = some x → Stmt) _ rfl; exact fun x _ => x
def pgC40 : Stmt := by refine (?f : ∀ x, pw_mg0045_01.main.body[40]? = some x → Stmt) _ rfl; exact fun x _ => x
def pgC41 : Stmt := by refine (?f : ∀ x, pw_mg0045_01.main.body[41]? = some x → Stmt) _ rfl; exact fun x _ => x
def pgC42 : Stmt := by refine (?f : ∀ x, pw_mg0045_01.main.body[42]? = some x → Stmt) _ rfl; exact fun x _ => x
def pgC43 : Stmt := by refine (?f : ∀ x, pw_mg0045_01.main.body[43]? = some x → Stmt) _ rfl; exact fun x _ => x
def pgC44 : Stmt := by refine (?f : ∀ x, pw_mg0045_01.main.body[44]? = some x → Stmt) _ rfl; exact fun x _ => x
def pgC45 : Stmt := by refine (?f : ∀ x, pw_mg0045_01.main.body[45]? = some x → Stmt) _ rfl; exact fun x _ => x
def pgC46 : Stmt := by refine (?f : ∀ x, pw_mg0045_01.main.body[46]? = some x → Stmt) _ rfl; exact fun x _ => x
def pgC47 : Stmt := by refine (?f : ∀ x, pw_mg0045_01.main.body[47]? = some x → Stmt) _ rfl; exact fun x _ => x
def pgC48 : Stmt := by refine (?f : ∀ x, pw_mg0045_01.main.body[48]? = some x → Stmt) _ rfl; exact fun x _ => x
def pgC49 : Stmt := by refine (?f : ∀ x, pw_mg0045_01.main.body[49]? = some x → Stmt) _ rfl; exact fun x _ => x
def pgC50 : Stmt := by refine (?f : ∀ x, pw_mg0045_01.main.body[50]? = some x → Stmt) _ rfl; exact fun x _ => x
def pgC51 : Stmt := by refine (?f : ∀ x, pw_mg0045_01.main.body[51]? = some x → Stmt) _ rfl; exact fun x _ => x
def pgC52 : Stmt := by refine (?f : ∀ x, pw_mg0045_01.main.body[52]? = some x → Stmt) _ rfl; exact fun x _ => x
def pgC53 : Stmt := by refine (?f : ∀ x, pw_mg0045_01.main.body[53]? = some x → Stmt) _ rfl; exact fun x _ => x
def pgC54 : Stmt := by refine (?f : ∀ x, pw_mg0045_01.main.body[54]? = some x → Stmt) _ rfl; exact fun x _ => x
def pgC55 : Stmt := by refine (?f : ∀ x, pw_mg0045_01.main.body[55]? = some x → Stmt) _ rfl; exact fun x _ => x
def pgC56 : Stmt := by refine (?f : ∀ x, pw_mg0045_01.main.body[56]? = some x → Stmt) _ rfl; exact fun x _ => x
def pgC57 : Stmt := by refine (?f : ∀ x, pw_mg0045_01.main.body[57]? = some x → Stmt) _ rfl; exact fun x _ => x
def pgC58 : Stmt := by refine (?f : ∀ x, pw_mg0045_01.main.body[58]? = some x → Stmt) _ rfl; exact fun x _ => x
def pgC59 : Stmt := by refine (?f : ∀ x, pw_mg0045_01.main.body[59]? = some x → Stmt) _ rfl; exact fun x _ => x
def pgC60 : Stmt := by refine (?f : ∀ x, pw_mg0045_01.main.body[60]? = some x → Stmt) _ rfl; exact fun x _ => x
def pgC61 : Stmt := by refine (?f : ∀ x, pw_mg0045_01.main.body[61]? = some x → Stmt) _ rfl; exact fun x _ => x
def pgC62 : Stmt := by refine (?f : ∀ x, pw_mg0045_01.main.body[62]? = some x → Stmt) _ rfl; exact fun x _ => x
def pgC63 : Stmt := by refine (?f : ∀ x, pw_mg0045_01.main.body[63]? = some x → Stmt) _ rfl; exact fun x _ => x
def pgC64 : Stmt := by refine (?f : ∀ x, pw_mg0045_01.main.body[64]? = some x → Stmt) _ rfl; exact fun x _ => x
def pgC65 : Stmt := by refine (?f : ∀ x, pw_mg0045_01.main.body[65]? = some x → Stmt) _ rfl; exact fun x _ => x
def pgC66 : Stmt := by refine (?f : ∀ x, pw_mg0045_01.main.body[66]? = some x → Stmt) _ rfl; exact fun x _ => x
def pgC67 : Stmt := by refine (?f : ∀ x, pw_mg0045_01.main.body[67]? = some x → Stmt) _ rfl; exact fun x _ => x
def pgC68 : Stmt := by refine (?f : ∀ x, pw_mg0045_01.main.body[68]? = some x → Stmt) _ rfl; exact fun x _ => x
def pgC69 : Stmt := by refine (?f : ∀ x, pw_mg0045_01.main.body[69]? = some x → Stmt) _ rfl; exact fun x _ => x
def pgC70 : Stmt := by refine (?f : ∀ x, pw_mg0045_01.main.body[70]? = some x → Stmt) _ rfl; exact fun x _ => x
def pgC71 : Stmt := by refine (?f : ∀ x, pw_mg0045_01.main.body[71]? = some x → Stmt) _ rfl; exact fun x _ => x
def pgC72 : Stmt := by refine (?f : ∀ x, pw_mg0045_01.main.body[72]? = some x → Stmt) _ rfl; exact fun x _ => x
def pgC73 : Stmt := by refine (?f : ∀ x, pw_mg0045_01.main.body[73]? = some x → Stmt) _ rfl; exact fun x _ => x
def pgC74 : Stmt := by refine (?f : ∀ x, pw_mg0045_01.main.body[74]? = some x → Stmt) _ rfl; exact fun x _ => x
def pgC75 : Stmt := by refine (?f : ∀ x, pw_mg0045_01.main.body[75]? = some x → Stmt) _ rfl; exact fun x _ => x
def pgC76 : Stmt := by refine (?f : ∀ x, pw_mg0045_01.main.body[76]? = some x → Stmt) _ rfl; exact fun x _ => x
def pgC77 : Stmt := by refine (?f : ∀ x, pw_mg0045_01.main.body[77]? = some x → Stmt) _ rfl; exact fun x _ => x
def pgC78 : Stmt := by refine (?f : ∀ x, pw_mg0045_01.main.body[78]? = some x → Stmt) _ rfl; exact fun x _ => x
def pgC79 : Stmt := by refine (?f : ∀ x, pw_mg0045_01.main.body[79]? = some x → Stmt) _ rfl; exact fun x _ => x
def pgC80 : Stmt := by refine (?f : ∀ x, pw_mg0045_01.main.body[80]? = some x → Stmt) _ rfl; exact fun x _ => x
def pgC81 : Stmt := by refine (?f : ∀ x, pw_mg0045_01.main.body[81]? = some x → Stmt) _ rfl; exact fun x _ => x
def pgC82 : Stmt := by refine (?f : ∀ x, pw_mg0045_01.main.body[82]? = some x → Stmt) _ rfl; exact fun x _ => x
def pgC83 : Stmt := by refine (?f : ∀ x, pw_mg0045_01.main.body[83]? = some x → Stmt) _ rfl; exact fun x _ => x
def pgC84 : Stmt := by refine (?f : ∀ x, pw_mg0045_01.main.body[84]? = some x → Stmt) _ rfl; exact fun x _ => x
def pgC85 : Stmt := by refine (?f : ∀ x, pw_mg0045_01.main.body[85]? = some x → Stmt) _ rfl; exact fun x _ => x
def pgC86 : Stmt := by refine (?f : ∀ x, pw_mg0045_01.main.body[86]? = some x → Stmt) _ rfl; exact fun x _ => x
def pgC87 : Stmt := by refine (?f : ∀ x, pw_mg0045_01.main.body[87]? = some x → Stmt) _ rfl; exact fun x _ => x
def pgB7 : List Stmt := pgC77 :: pgC78 :: pgC79 :: pgC80 :: pgC81 :: pgC82 :: pgC83 :: pgC84 :: pgC85 :: pgC86 :: pgC87 :: []
def pgB6 : List Stmt := pgC66 :: pgC67 :: pgC68 :: pgC69 :: pgC70 :: pgC71 :: pgC72 :: pgC73 :: pgC74 :: pgC75 :: pgC76 :: pgB7
def pgB5 : List Stmt := pgC55 :: pgC56 :: pgC57 :: pgC58 :: pgC59 :: pgC60 :: pgC61 :: pgC62 :: pgC63 :: pgC64 :: pgC65 :: pgB6
def pgB4 : List Stmt := pgC44 :: pgC45 :: pgC46 :: pgC47 :: pgC48 :: pgC49 :: pgC50 :: pgC51 :: pgC52 :: pgC53 :: pgC54 :: pgB5
def pgB3 : List Stmt := pgC33 :: pgC34 :: pgC35 :: pgC36 :: pgC37 :: pgC38 :: pgC39 :: pgC40 :: pgC41 :: pgC42 :: pgC43 :: pgB4
def pgB2 : List Stmt := pgC22 :: pgC23 :: pgC24 :: pgC25 :: pgC26 :: pgC27 :: pgC28 :: pgC29 :: pgC30 :: pgC31 :: pgC32 :: pgB3
def pgB1 : List Stmt := pgC11 :: pgC12 :: pgC13 :: pgC14 :: pgC15 :: pgC16 :: pgC17 :: pgC18 :: pgC19 :: pgC20 :: pgC21 :: pgB2
def pgB0 : List Stmt := pgC0 :: pgC1 :: pgC2 :: pgC3 :: pgC4 :: pgC5 :: pgC6 :: pgC7 :: pgC8 :: pgC9 :: pgC10 :: pgB1
def pgN7 : List (Str × NameKind) := by refine (?f : ∀ x0 x1 x2 x3 x4 x5 x6 x7 x8 r, pw_mg0045_01.main.scope.names.drop 77 = x0 :: x1 :: x2 :: x3 :: x4 :: x5 :: x6 :: x7 :: x8 :: r → _) _ _ _ _ _ _ _ _ _ _ rfl; exact fun x0 x1 x2 x3 x4 x5 x6 x7 x8 _ _ => x0 :: x1 :: x2 :: x3 :: x4 :: x5 :: x6 :: x7 :: x8 :: []
def pgN6 : List (Str × NameKind) := by refine (?f : ∀ x0 x1 x2 x3 x4 x5 x6 x7 x8 x9 x10 r, pw_mg0045_01.main.scope.names.drop 66 = x0 :: x1 :: x2 :: x3 :: x4 :: x5 :: x6 :: x7 :: x8 :: x9 :: x10 :: r → _) _ _ _ _ _ _ _ _ _ _ _ _ rfl; exact fun x0 x1 x2 x3 x4 x5 x6 x7 x8 x9 x10 _ _ => x0 :: x1 :: x2 :: x3 :: x4 :: x5 :: x6 :: x7 :: x8 :: x9 :: x10 :: pgN7
def pgN5 : List (Str × NameKind) := by refine (?f : ∀ x0 x1 x2 x3 x4 x5 x6 x7 x8 x9 x10 r, pw_mg0045_01.main.scope.names.drop 55 = x0 :: x1 :: x2 :: x3 :: x4 :: x5 :: x6 :: x7 :: x8 :: x9 :: x10 :: r → _) _ _ _ _ _ _ _ _ _ _ _ _ rfl; exact fun x0 x1 x2 x3 x4 x5 x6 x7 x8 x9 x10 _ _ => x0 :: x1 :: x2 :: x3 :: x4 :: x5 :: x6 :: x7 :: x8 :: x9 :: x10 :: pgN6
def pgN4 : List (Str × NameKind) := by refine (?f : ∀ x0 x1 x2 x3 x4 x5 x6 x7 x8 x9 x10 r, pw_mg0045_01.main.scope.names.drop 44 = x0 :: x1 :: x2 :: x3 :: x4 :: x5 :: x6 :: x7 :: x8 :: x9 :: x10 :: r → _) _ _ _ _ _ _ _ _ _ _ _ _ rfl; exact fun x0 x1 x2 x3 x4 x5 x6 x7 x8 x9 x10 _ _ => x0 :: x1 :: x2 :: x3 :: x4 :: x5 :: x6 :: x7 :: x8 :: x9 :: x10 :: pgN5
def pgN3 : List (Str × NameKind) := by refine (?f : ∀ x0 x1 x2 x3 x4 x5 x6 x7 x8 x9 x10 r, pw_mg0045_01.main.scope.names.drop 33 = x0 :: x1 :: x2 :: x3 :: x4 :: x5 :: x6 :: x7 :: x8 :: x9 :: x10 :: r → _) _ _ _ _ _ _ _ _ _ _ _ _ rfl; exact fun x0 x1 x2 x3 x4 x5 x6 x7 x8 x9 x10 _ _ => x0 :: x1 :: x2 :: x3 :: x4 :: x5 :: x6 :: x7 :: x8 :: x9 :: x10 :: pgN4
def pgN2 : List (Str × NameKind) := by refine (?f : ∀ x0 x1 x2 x3 x4 x5 x6 x7 x8 x9 x10 r, pw_mg0045_01.main.scope.names.drop 22 = x0 :: x1 :: x2 :: x3 :: x4 :: x5 :: x6 :: x7 :: x8 :: x9 :: x10 :: r → _) _ _ _ _ _ _ _ _ _ _ _ _ rfl; exact fun x0 x1 x2 x3 x4 x5 x6 x7 x8 x9 x10 _ _ => x0 :: x1 :: x2 :: x3 :: x4 :: x5 :: x6 :: x7 :: x8 :: x9 :: x10 :: pgN3
def pgN1 : List (Str × NameKind) := by refine (?f : ∀ x0 x1 x2 x3 x4 x5 x6 x7 x8 x9 x10 r, pw_mg0045_01.main.scope.names.drop 11 = x0 :: x1 :: x2 :: x3 :: x4 :: x5 :: x6 :: x7 :: x8 :: x9 :: x10 :: r → _) _ _ _ _ _ _ _ _ _ _ _ _ rfl; exact fun x0 x1 x2 x3 x4 x5 x6 x7 x8 x9 x10 _ _ => x0 :: x1 :: x2 :: x3 :: x4 :: x5 :: x6 :: x7 :: x8 :: x9 :: x10 :: pgN2
def pgN0 : List (Str × NameKind) := by refine (?f : ∀ x0 x1 x2 x3 x4 x5 x6 x7 x8 x9 x10 r, pw_mg0045_01.main.scope.names.drop 0 = x0 :: x1 :: x2 :: x3 :: x4 :: x5 :: x6 :: x7 :: x8 :: x9 :: x10 :: r → _) _ _ _ _ _ _ _ _ _ _ _ _ rfl; exact fun x0 x1 x2 x3 x4 x5 x6 x7 x8 x9 x10 _ _ => x0 :: x1 :: x2 :: x3 :: x4 :: x5 :: x6 :: x7 :: x8 :: x9 :: x10 :: pgN1
def pgV : Given := by refine (?f : ∀ a b c d e f g, pw_mg0045_01.given = ⟨a, b, c, d, e, f, g⟩ → Given) _ _ _ _ _ _ _ rfl; exact fun a b c d e f g _ => ⟨a, b, c, d, e, f, g⟩
def pg : Program := by refine (?f : ∀ k g c m u f o ms ps ab hv, pw_mg0045_01 = ⟨⟨pgB0, ⟨k, pgN0, g, c, m⟩, u, f, o⟩, ms, ps, ab, hv, pgV⟩ → Program) _ _ _ _ _ _ _ _ _ _ _ rfl; exact fun k g c m u f o ms ps ab hv _ => ⟨⟨pgB0, ⟨k, pgN0, g, c, m⟩, u, f, o⟩, ms, ps, ab, hv, pgV⟩
def lw : OpenLaw := by refine (?f : ∀ n a f m b w, rw_mg0045_01 = ⟨pg, n, a, f, m, b, w⟩ → OpenLaw) _ _ _ _ _ _ rfl; exact fun n a f m b w _ => ⟨pg, n, a, f, m, b, w⟩
theorem lw_eq : rw_mg0045_01 = lw := rfl
end Mine
end

section
open PySem PySem.W PyProof.Rows
set_option maxRecDepth 100000
namespace Mine
/-! the written part of the heap, an object a definition (printed by mkfr.py) -/
section
local macro_rules | `(tactic| o_head $_) => `(tactic| skip)
theorem frag (h : lw.row.Holds) : lw.row.Holds := by
  k_head
  exact h
end
noncomputable def frO2 (P : Params) : Obj := by refine (?f : ∀ x, (frag.heap_1 P)[0]? = some (2, x) → Obj) _ rfl; exact fun x _ => x
noncomputable def frO3 (P : Params) : Obj := by refine (?f : ∀ x, (frag.heap_1 P)[1]? = some (3, x) → Obj) _ rfl; exact fun x _ => x
noncomputable def frO6 (P : Params) : Obj := by refine (?f : ∀ x, (frag.heap_1 P)[2]? = some (6, x) → Obj) _ rfl; exact fun x _ => x
noncomputable def frO15 (P : Params) : Obj := by refine (?f : ∀ x, (frag.heap_1 P)[3]? = some (15, x) → Obj) _ rfl; exact fun x _ => x
noncomputable def frO17 (P : Params) : Obj := by refine (?f : ∀ x, (frag.heap_1 P)[4]? = some (17, x) → Obj) _ rfl; exact fun x _ => x
noncomputable def frO18 (P : Params) : Obj := by refine (?f : ∀ x, (frag.heap_1 P)[5]? = some (18, x) → Obj) _ rfl; exact fun x _ => x
noncomputable def frO20 (P : Params) : Obj := by refine (?f : ∀ x, (frag.heap_1 P)[6]? = some (20, x) → Obj) _ rfl; exact fun x _ => x
noncomputable def frO21 (P : Params) : Obj := by refine (?f : ∀ x, (frag.heap_1 P)[7]? = some (21, x) → Obj) _ rfl; exact fun x _ => x
noncomputable def frO22 (P : Params) : Obj := by refine (?f : ∀ x, (frag.heap_1 P)[8]? = some (22, x) → Obj) _ rfl; exact fun x _ => x
noncomputable def frO24 (P : Params) : Obj := by refine (?f : ∀ x, (frag.heap_1 P)[9]? = some (24, x) → Obj) _ rfl; exact fun x _ => x
noncomputable def frO25 (P : Params) : Obj := by refine (?f : ∀ x, (frag.heap_1 P)[10]? = some (25, x) → Obj) _ rfl; exact fun x _ => x
noncomputable def frO27 (P : Params) : Obj := by refine (?f : ∀ x, (frag.heap_1 P)[11]? = some (27, x) → Obj) _ rfl; exact fun x _ => x
noncomputable def frO28 (P : Params) : Obj := by refine (?f : ∀ x, (frag.heap_1 P)[12]? = some (28, x) → Obj) _ rfl; exact fun x _ => x
noncomputable def frO29 (P : Params) : Obj := by refine (?f : ∀ x, (frag.heap_1 P)[13]? = some (29, x) → Obj) _ rfl; exact fun x _ => x
noncomputable def frO30 (P : Params) : Obj := by refine (?f : ∀ x, (frag.heap_1 P)[14]? = some (30, x) → Obj) _ rfl; exact fun x _ => x
noncomputable def frO31 (P : Params) : Obj := by refine (?f : ∀ x, (frag.heap_1 P)[15]? = some (31, x) → Obj) _ rfl; exact fun x _ => x
noncomputable def frO32 (P : Params) : Obj := by refine (?f : ∀ x, (frag.heap_1 P)[16]? = some (32, x) → Obj) _ rfl; exact fun x _ => x
noncomputable def frO33 (P : Params) : Obj := by refine (?f : ∀ x, (frag.heap_1 P)[17]? = some (33, x) → Obj) _ rfl; exact fun x _ => x
noncomputable def frO34 (P : Params) : Obj := by refine (?f : ∀ x, (frag.heap_1 P)[18]? = some (34, x) → Obj) _ rfl; exact fun x _ => x
noncomputable def frO35 (P : Params) : Obj := by refine (?f : ∀ x, (frag.heap_1 P)[19]? = some (35, x) → Obj) _ rfl; exact fun x _ => x
noncomputable def frO36 (P : Params) : Obj := by refine (?f : ∀ x, (frag.heap_1 P)[20]? = some (36, x) → Obj) _ rfl; exact fun x _ => x
noncomputable def frO37 (P : Params) : Obj := by refine (?f : ∀ x, (frag.heap_1 P)[21]? = some (37, x) → Obj) _ rfl; exact fun x _ => x
noncomputable def frO38 (P : Params) : Obj := by refine (?f : ∀ x, (frag.heap_1 P)[22]? = some (38, x) → Obj) _ rfl; exact fun x _ => x
noncomputable def frO39 (P : Params) : Obj := by refine (?f : ∀ x, (frag.heap_1 P)[23]? = some (39, x) → Obj) _ rfl; exact fun x _ => x
noncomputable def frO40 (P : Params) : Obj := by refine (?f : ∀ x, (frag.heap_1 P)[24]? = some (40, x) → Obj) _ rfl; exact fun x _ => x
noncomputable def frO41 (P : Params) : Obj := by refine (?f : ∀ x, (frag.heap_1 P)[25]? = some (41, x) → Obj) _ rfl; exact fun x _ => x
noncomputable def frO42 (P : Params) : Obj := by refine (?f : ∀ x, (frag.heap_1 P)[26]? = some (42, x) → Obj) _ rfl; exact fun x _ => x
noncomputable def frO43 (P : Params) : Obj := by refine (?f : ∀ x, (frag.heap_1 P)[27]? = some (43, x) → Obj) _ rfl; exact fun x _ => x
noncomputable def frO44 (P : Params) : Obj := by refine (?f : ∀ x, (frag.heap_1 P)[28]? = some (44, x) → Obj) _ rfl; exact fun x _ => x
noncomputable def frO45 (P : Params) : Obj := by refine (?f : ∀ x, (frag.heap_1 P)[29]? = some (45, x) → Obj) _ rfl; exact fun x _ => x
noncomputable def frO46 (P : Params) : Obj := by refine (?f : ∀ x, (frag.heap_1 P)[30]? = some (46, x) → Obj) _ rfl; exact fun x _ => x
noncomputable def frO47 (P : Params) : Obj := by refine (?f : ∀ x, (frag.heap_1 P)[31]? = some (47, x) → Obj) _ rfl; exact fun x _ => x
noncomputable def frO48 (P : Params) : Obj := by refine (?f : ∀ x, (frag.heap_1 P)[32]? = some (48, x) → Obj) _ rfl; exact fun x _ => x
noncomputable def frO49 (P : Params) : Obj := by refine (?f : ∀ x, (frag.heap_1 P)[33]? = some (49, x) → Obj) _ rfl; exact fun x _ => x
noncomputable def frO50 (P : Params) : Obj := by refine (?f : ∀ x, (frag.heap_1 P)[34]? = some (50, x) → Obj) _ rfl; exact fun x _ => x
noncomputable def frO51 (P : Params) : Obj := by refine (?f : ∀ x, (frag.heap_1 P)[35]? = some (51, x) → Obj) _ rfl; exact fun x _ => x
noncomputable def frO52 (P : Params) : Obj := by refine (?f : ∀ x, (frag.heap_1 P)[36]? = some (52, x) → Obj) _ rfl; exact fun x _ => x
noncomputable def frO53 (P : Params) : Obj := by refine (?f : ∀ x, (frag.heap_1 P)[37]? = some (53, x) → Obj) _ rfl; exact fun x _ => x
noncomputable def frO54 (P : Params) : Obj := by refine (?f : ∀ x, (frag.heap_1 P)[38]? = some (54, x) → Obj) _ rfl; exact fun x _ => x
noncomputable def frO55 (P : Params) : Obj := by refine (?f : ∀ x, (frag.heap_1 P)[39]? = some (55, x) → Obj) _ rfl; exact fun x _ => x
noncomputable def frO56 (P : Params) : Obj := by refine (?f : ∀ x, (frag.heap_1 P)[40]? = some (56, x) → Obj) _ rfl; exact fun x _ => x
noncomputable def frO57 (P : Params) : Obj := by refine (?f : ∀ x, (frag.heap_1 P)[41]? = some (57, x) → Obj) _ rfl; exact fun x _ => x
noncomputable def frO58 (P : Params) : Obj := by refine (?f : ∀ x, (frag.heap_1 P)[42]? = some (58, x) → Obj) _ rfl; exact fun x _ => x
noncomputable def frO59 (P : Params) : Obj := by refine (?f : ∀ x, (frag.heap_1 P)[43]? = some (59, x) → Obj) _ rfl; exact fun x _ => x
noncomputable def frO60 (P : Params) : Obj := by refine (?f : ∀ x, (frag.heap_1 P)[44]? = some (60, x) → Obj) _ rfl; exact fun x _ => x
noncomputable def frO61 (P : Params) : Obj := by refine (?f : ∀ x, (frag.heap_1 P)[45]? = some (61, x) → Obj) _ rfl; exact fun x _ => x
noncomputable def frO62 (P : Params) : Obj := by refine (?f : ∀ x, (frag.heap_1 P)[46]? = some (62, x) → Obj) _ rfl; exact fun x _ => x
noncomputable def frO64 (P : Params) : Obj := by refine (?f : ∀ x, (frag.heap_1 P)[47]? = some (64, x) → Obj) _ rfl; exact fun x _ => x
noncomputable def frO65 (P : Params) : Obj := by refine (?f : ∀ x, (frag.heap_1 P)[48]? = some (65, x) → Obj) _ rfl; exact fun x _ => x
noncomputable def frO67 (P : Params) : Obj := by refine (?f : ∀ x, (frag.heap_1 P)[49]? = some (67, x) → Obj) _ rfl; exact fun x _ => x
noncomputable def frO68 (P : Params) : Obj := by refine (?f : ∀ x, (frag.heap_1 P)[50]? = some (68, x) → Obj) _ rfl; exact fun x _ => x
noncomputable def frO69 (P : Params) : Obj := by refine (?f : ∀ x, (frag.heap_1 P)[51]? = some (69, x) → Obj) _ rfl; exact fun x _ => x
noncomputable def frO72 (P : Params) : Obj := by refine (?f : ∀ x, (frag.heap_1 P)[52]? = some (72, x) → Obj) _ rfl; exact fun x _ => x
noncomputable def frO74 (P : Params) : Obj := by refine (?f : ∀ x, (frag.heap_1 P)[53]? = some (74, x) → Obj) _ rfl; exact fun x _ => x
noncomputable def frO75 (P : Params) : Obj := by refine (?f : ∀ x, (frag.heap_1 P)[54]? = some (75, x) → Obj) _ rfl; exact fun x _ => x
noncomputable def frO77 (P : Params) : Obj := by refine (?f : ∀ x, (frag.heap_1 P)[55]? = some (77, x) → Obj) _ rfl; exact fun x _ => x
noncomputable def frO78 (P : Params) : Obj := by refine (?f : ∀ x, (frag.heap_1 P)[56]? = some (78, x) → Obj) _ rfl; exact fun x _ => x
noncomputable def frO79 (P : Params) : Obj := by refine (?f : ∀ x, (frag.heap_1 P)[57]? = some (79, x) → Obj) _ rfl; exact fun x _ => x
noncomputable def frO81 (P : Params) : Obj := by refine (?f : ∀ x, (frag.heap_1 P)[58]? = some (81, x) → Obj) _ rfl; exact fun x _ => x
noncomputable def frO82 (P : Params) : Obj := by refine (?f : ∀ x, (frag.heap_1 P)[59]? = some (82, x) → Obj) _ rfl; exact fun x _ => x
noncomputable def frO84 (P : Params) : Obj := by refine (?f : ∀ x, (frag.heap_1 P)[60]? = some (84, x) → Obj) _ rfl; exact fun x _ => x
noncomputable def frO85 (P : Params) : Obj := by refine (?f : ∀ x, (frag.heap_1 P)[61]? = some (85, x) → Obj) _ rfl; exact fun x _ => x
noncomputable def frO86 (P : Params) : Obj := by refine (?f : ∀ x, (frag.heap_1 P)[62]? = some (86, x) → Obj) _ rfl; exact fun x _ => x
noncomputable def frO88 (P : Params) : Obj := by refine (?f : ∀ x, (frag.heap_1 P)[63]? = some (88, x) → Obj) _ rfl; exact fun x _ => x
noncomputable def frO89 (P : Params) : Obj := by refine (?f : ∀ x, (frag.heap_1 P)[64]? = some (89, x) → Obj) _ rfl; exact fun x _ => x
noncomputable def frO91 (P : Params) : Obj := by refine (?f : ∀ x, (frag.heap_1 P)[65]? = some (91, x) → Obj) _ rfl; exact fun x _ => x
noncomputable def frO92 (P : Params) : Obj := by refine (?f : ∀ x, (frag.heap_1 P)[66]? = some (92, x) → Obj) _ rfl; exact fun x _ => x
noncomputable def frO93 (P : Params) : Obj := by refine (?f : ∀ x, (frag.heap_1 P)[67]? = some (93, x) → Obj) _ rfl; exact fun x _ => x
noncomputable def frO95 (P : Params) : Obj := by refine (?f : ∀ x, (frag.heap_1 P)[68]? = some (95, x) → Obj) _ rfl; exact fun x _ => x
noncomputable def frO96 (P : Params) : Obj := by refine (?f : ∀ x, (frag.heap_1 P)[69]? = some (96, x) → Obj) _ rfl; exact fun x _ => x
noncomputable def frO98 (P : Params) : Obj := by refine (?f : ∀ x, (frag.heap_1 P)[70]? = some (98, x) → Obj) _ rfl; exact fun x _ => x
noncomputable def frO99 (P : Params) : Obj := by refine (?f : ∀ x, (frag.heap_1 P)[71]? = some (99, x) → Obj) _ rfl; exact fun x _ => x
noncomputable def frO100 (P : Params) : Obj := by refine (?f : ∀ x, (frag.heap_1 P)[72]? = some (100, x) → Obj) _ rfl; exact fun x _ => x
noncomputable def frO102 (P : Params) : Obj := by refine (?f : ∀ x, (frag.heap_1 P)[73]? = some (102, x) → Obj) _ rfl; exact fun x _ => x
noncomputable def frO103 (P : Params) : Obj := by refine (?f : ∀ x, (frag.heap_1 P)[74]? = some (103, x) → Obj) _ rfl; exact fun x _ => x
noncomputable def frO105 (P : Params) : Obj := by refine (?f : ∀ x, (frag.heap_1 P)[75]? = some (105, x) → Obj) _ rfl; exact fun x _ => x
noncomputable def frO106 (P : Params) : Obj := by refine (?f : ∀ x, (frag.heap_1 P)[76]? = some (106, x) → Obj) _ rfl; exact fun x _ => x
noncomputable def frO107 (P : Params) : Obj := by refine (?f : ∀ x, (frag.heap_1 P)[77]? = some (107, x) → Obj) _ rfl; exact fun x _ => x
noncomputable def frO109 (P : Params) : Obj := by refine (?f : ∀ x, (frag.heap_1 P)[78]? = some (109, x) → Obj) _ rfl; exact fun x _ => x
noncomputable def frO110 (P : Params) : Obj := by refine (?f : ∀ x, (frag.heap_1 P)[79]? = some (110, x) → Obj) _ rfl; exact fun x _ => x
noncomputable def frO112 (P : Params) : Obj := by refine (?f : ∀ x, (frag.heap_1 P)[80]? = some (112, x) → Obj) _ rfl; exact fun x _ => x
noncomputable def frO113 (P : Params) : Obj := by refine (?f : ∀ x, (frag.heap_1 P)[81]? = some (113, x) → Obj) _ rfl; exact fun x _ => x
noncomputable def frO114 (P : Params) : Obj := by refine (?f : ∀ x, (frag.heap_1 P)[82]? = some (114, x) → Obj) _ rfl; exact fun x _ => x
noncomputable def frO116 (P : Params) : Obj := by refine (?f : ∀ x, (frag.heap_1 P)[83]? = some (116, x) → Obj) _ rfl; exact fun x _ => x
noncomputable def frO117 (P : Params) : Obj := by refine (?f : ∀ x, (frag.heap_1 P)[84]? = some (117, x) → Obj) _ rfl; exact fun x _ => x
noncomputable def frO119 (P : Params) : Obj := by refine (?f : ∀ x, (frag.heap_1 P)[85]? = some (119, x) → Obj) _ rfl; exact fun x _ => x
noncomputable def frO120 (P : Params) : Obj := by refine (?f : ∀ x, (frag.heap_1 P)[86]? = some (120, x) → Obj) _ rfl; exact fun x _ => x
noncomputable def frO121 (P : Params) : Obj := by refine (?f : ∀ x, (frag.heap_1 P)[87]? = some (121, x) → Obj) _ rfl; exact fun x _ => x
noncomputable def frO123 (P : Params) : Obj := by refine (?f : ∀ x, (frag.heap_1 P)[88]? = some (123, x) → Obj) _ rfl; exact fun x _ => x
noncomputable def frO124 (P : Params) : Obj := by refine (?f : ∀ x, (frag.heap_1 P)[89]? = some (124, x) → Obj) _ rfl; exact fun x _ => x
noncomputable def frO126 (P : Params) : Obj := by refine (?f : ∀ x, (frag.heap_1 P)[90]? = some (126, x) → Obj) _ rfl; exact fun x _ => x
noncomputable def frO127 (P : Params) : Obj := by refine (?f : ∀ x, (frag.heap_1 P)[91]? = some (127, x) → Obj) _ rfl; exact fun x _ => x
noncomputable def frO128 (P : Params) : Obj := by refine (?f : ∀ x, (frag.heap_1 P)[92]? = some (128, x) → Obj) _ rfl; exact fun x _ => x
noncomputable def frO131 (P : Params) : Obj := by refine (?f : ∀ x, (frag.heap_1 P)[93]? = some (131, x) → Obj) _ rfl; exact fun x _ => x
noncomputable def frO132 (P : Params) : Obj := by refine (?f : ∀ x, (frag.heap_1 P)[94]? = some (132, x) → Obj) _ rfl; exact fun x _ => x
noncomputable def frK9 (P : Params) : Frag := ((nat_lit 126 : Nat), frO126 P) :: ((nat_lit 127 : Nat), frO127 P) :: ((nat_lit 128 : Nat), frO128 P) :: ((nat_lit 131 : Nat), frO131 P) :: ((nat_lit 132 : Nat), frO132 P) :: []
noncomputable def frK8 (P : Params) : Frag := ((nat_lit 112 : Nat), frO112 P) :: ((nat_lit 113 : Nat), frO113 P) :: ((nat_lit 114 : Nat), frO114 P) :: ((nat_lit 116 : Nat), frO116 P) :: ((nat_lit 117 : Nat), frO117 P) :: ((nat_lit 119 : Nat), frO119 P) :: ((nat_lit 120 : Nat), frO120 P) :: ((nat_lit 121 : Nat), frO121 P) :: ((nat_lit 123 : Nat), frO123 P) :: ((nat_lit 124 : Nat), frO124 P) :: frK9 P
noncomputable def frK7 (P : Params) : Frag := ((nat_lit 98 : Nat), frO98 P) :: ((nat_lit 99 : Nat), frO99 P) :: ((nat_lit 100 : Nat), frO100 P) :: ((nat_lit 102 : Nat), frO102 P) :: ((nat_lit 103 : Nat), frO103 P) :: ((nat_lit 105 : Nat), frO105 P) :: ((nat_lit 106 : Nat), frO106 P) :: ((nat_lit 107 : Nat), frO107 P) :: ((nat_lit 109 : Nat), frO109 P) :: ((nat_lit 110 : Nat), frO110 P) :: frK8 P
noncomputable def frK6 (P : Params) : Frag := ((nat_lit 84 : Nat), frO84 P) :: ((nat_lit 85 : Nat), frO85 P) :: ((nat_lit 86 : Nat), frO86 P) :: ((nat_lit 88 : Nat), frO88 P) :: ((nat_lit 89 : Nat), frO89 P) :: ((nat_lit 91 : Nat), frO91 P) :: ((nat_lit 92 : Nat), frO92 P) :: ((nat_lit 93 : Nat), frO93 P) :: ((nat_lit 95 : Nat), frO95 P) :: ((nat_lit 96 : Nat), frO96 P) :: frK7 P
noncomputable def frK5 (P : Params) : Frag := ((nat_lit 68 : Nat), frO68 P) :: ((nat_lit 69 : Nat), frO69 P) :: ((nat_lit 72 : Nat), frO72 P) :: ((nat_lit 74 : Nat), frO74 P) :: ((nat_lit 75 : Nat), frO75 P) :: ((nat_lit 77 : Nat), frO77 P) :: ((nat_lit 78 : Nat), frO78 P) :: ((nat_lit 79 : Nat), frO79 P) :: ((nat_lit 81 : Nat), frO81 P) :: ((nat_lit 82 : Nat), frO82 P) :: frK6 P
noncomputable def frK4 (P : Params) : Frag := ((nat_lit 56 : Nat), frO56 P) :: ((nat_lit 57 : Nat), frO57 P) :: ((nat_lit 58 : Nat), frO58 P) :: ((nat_lit 59 : Nat), frO59 P) :: ((nat_lit 60 : Nat), frO60 P) :: ((nat_lit 61 : Nat), frO61 P) :: ((nat_lit 62 : Nat), frO62 P) :: ((nat_lit 64 : Nat), frO64 P) :: ((nat_lit 65 : Nat), frO65 P) :: ((nat_lit 67 : Nat), frO67 P) :: frK5 P
noncomputable def frK3 (P : Params) : Frag := ((nat_lit 46 : Nat), frO46 P) :: ((nat_lit 47 : Nat), frO47 P) :: ((nat_lit 48 : Nat), frO48 P) :: ((nat_lit 49 : Nat), frO49 P) :: ((nat_lit 50 : Nat), frO50 P) :: ((nat_lit 51 : Nat), frO51 P) :: ((nat_lit 52 : Nat), frO52 P) :: ((nat_lit 53 : Nat), frO53 P) :: ((nat_lit 54 : Nat), frO54 P) :: ((nat_lit 55 : Nat), frO55 P) :: frK4 P
noncomputable def frK2 (P : Params) : Frag := ((nat_lit 36 : Nat), frO36 P) :: ((nat_lit 37 : Nat), frO37 P) :: ((nat_lit 38 : Nat), frO38 P) :: ((nat_lit 39 : Nat), frO39 P) :: ((nat_lit 40 : Nat), frO40 P) :: ((nat_lit 41 : Nat), frO41 P) :: ((nat_lit 42 : Nat), frO42 P) :: ((nat_lit 43 : Nat), frO43 P) :: ((nat_lit 44 : Nat), frO44 P) :: ((nat_lit 45 : Nat), frO45 P) :: frK3 P
noncomputable def frK1 (P : Params) : Frag := ((nat_lit 25 : Nat), frO25 P) :: ((nat_lit 27 : Nat), frO27 P) :: ((nat_lit 28 : Nat), frO28 P) :: ((nat_lit 29 : Nat), frO29 P) :: ((nat_lit 30 : Nat), frO30 P) :: ((nat_lit 31 : Nat), frO31 P) :: ((nat_lit 32 : Nat), frO32 P) :: ((nat_lit 33 : Nat), frO33 P) :: ((nat_lit 34 : Nat), frO34 P) :: ((nat_lit 35 : Nat), frO35 P) :: frK2 P
noncomputable def frK0 (P : Params) : Frag := ((nat_lit 2 : Nat), frO2 P) :: ((nat_lit 3 : Nat), frO3 P) :: ((nat_lit 6 : Nat), frO6 P) :: ((nat_lit 15 : Nat), frO15 P) :: ((nat_lit 17 : Nat), frO17 P) :: ((nat_lit 18 : Nat), frO18 P) :: ((nat_lit 20 : Nat), frO20 P) :: ((nat_lit 21 : Nat), frO21 P) :: ((nat_lit 22 : Nat), frO22 P) :: ((nat_lit 24 : Nat), frO24 P) :: frK1 P
theorem frK_eq (P : Params) : frK0 P = frag.heap_1 P := rfl
section
local macro_rules | `(tactic| k_head) => `(tactic| o_head (kHook frK0 [nat_lit 2, nat_lit 3, nat_lit 6, nat_lit 15, nat_lit 17, nat_lit 18, nat_lit 20, nat_lit 21, nat_lit 22, nat_lit 24, nat_lit 25, nat_lit 27, nat_lit 28, nat_lit 29, nat_lit 30, nat_lit 31, nat_lit 32, nat_lit 33, nat_lit 34, nat_lit 35, nat_lit 36, nat_lit 37, nat_lit 38, nat_lit 39, nat_lit 40, nat_lit 41, nat_lit 42, nat_lit 43, nat_lit 44, nat_lit 45, nat_lit 46, nat_lit 47, nat_lit 48, nat_lit 49, nat_lit 50, nat_lit 51, nat_lit 52, nat_lit 53, nat_lit 54, nat_lit 55, nat_lit 56, nat_lit 57, nat_lit 58, nat_lit 59, nat_lit 60, nat_lit 61, nat_lit 62, nat_lit 64, nat_lit 65, nat_lit 67, nat_lit 68, nat_lit 69, nat_lit 72, nat_lit 74, nat_lit 75, nat_lit 77, nat_lit 78, nat_lit 79, nat_lit 81, nat_lit 82, nat_lit 84, nat_lit 85, nat_lit 86, nat_lit 88, nat_lit 89, nat_lit 91, nat_lit 92, nat_lit 93, nat_lit 95, nat_lit 96, nat_lit 98, nat_lit 99, nat_lit 100, nat_lit 102, nat_lit 103, nat_lit 105, nat_lit 106, nat_lit 107, nat_lit 109, nat_lit 110, nat_lit 112, nat_lit 113, nat_lit 114, nat_lit 116, nat_lit 117, nat_lit 119, nat_lit 120, nat_lit 121, nat_lit 123, nat_lit 124, nat_lit 126, nat_lit 127, nat_lit 128, nat_lit 131, nat_lit 132] (fun _ => by kernel_rfl)))
set_option maxHeartbeats 8000000 in
open_top hd for lw
end
end Mine
end

section
open PySem PySem.W PySem.Calls PyProof.Rows
set_option maxRecDepth 100000
namespace Mine

/-- how a called def of the text ends: the caller's heap stands, `own` is what it leaves -/
def Fin (g : Heap) (s : Shared) (Out : Value → List (Addr × Obj) → Prop) (v : Value) (s' : Shared) : Prop :=
  ∃ h' tk' L' m' own, s' = { s with heap := h', toks := tk' } ∧ Fr g L' h' m' ∧ News g L' h' own ∧ Out v own

theorem Fin.intro {g : Heap} {s : Shared} {Out : Value → List (Addr × Obj) → Prop} {v : Value} {h' : Heap} {tk' : Nat} {L' : Addr} {m' : Str → Option Value} {news own : List (Addr × Obj)}
    (F : Fr g L' h' m') (N : News g L' h' news) (hs : ∀ p ∈ own, p ∈ news) (ho : Out v own) : Fin g s Out v { s with heap := h', toks := tk' } :=
  ⟨h', tk', L', m', own, rfl, F, fun p hp => N p (hs p hp), ho⟩

/-- the contract of a def that the law calls -/
def Tells (w : World) (f : Addr) (vs : List Value) (In : Heap → Prop) (Out : Value → List (Addr × Obj) → Prop) : Prop :=
  ∀ (loose : List Str) (mean : ExcName → Option Value) (mg mb : Str → Option Value) (env : Env) (h₀ : Heap) (L : Addr) (m : Str → Option Value) (news : List (Addr × Obj)) (s : Shared) (Q E : Value → Shared → Prop),
    Below callerA h₀ [] h₀ → Fr h₀ L s.heap m → (frag.heap_1 w.params).In h₀ → News h₀ L s.heap news → Top hd.view_39 loose mean mg mb h₀ → env.frame = some L → env.scope.kind = .function → In s.heap →
    (∀ v own h' tk', Out v own → Fr h₀ L h' m → News h₀ L h' (own ++ news) → (∀ p ∈ news, ∀ q ∈ own, @Ne Nat p.1 q.1) → (∀ b o, s.heap.get? b = some o → h'.get? b = some o) → Q v { s with heap := h', toks := tk' }) →
    wpAny (model lw.row.prog w) (callerA.deeper env) (call (.ref f) vs) Q E s

theorem tells_of {w : World} {f : Addr} {vs : List Value} {In : Heap → Prop} {Out : Value → List (Addr × Obj) → Prop}
    {name qual : Str} {params : Arguments} {body : List Stmt} {scope : Scope} {dV kV doc pm cdv ct oc : Value} {an od : Option Addr} {osl : Array (Option Value)} {binds : List (Str × Value)}
    (ho : (frag.heap_1 w.params).lookup f = some ⟨oc, od, .func (fnOf name qual params body scope dV kV doc pm an cdv ct), osl⟩) (hcd : codeIn (frag.heap_1 w.params) cdv qual = true)
    (hbind : ∀ s, BindsTo s (fnOf name qual params body scope dV kV doc pm an cdv ct) ⟨vs, []⟩ binds) (hloc : ∀ y ∈ binds, scope.names.lookup y.1 = some .local)
    (hco : scope.isCoroutine = false) (hgen : scope.isGenerator = false) (hk : scope.kind = .function) (hcell : ∀ x ∈ scope.names, x.2 ≠ .cell)
    (h : ∀ (loose : List Str) (mean : ExcName → Option Value) (mg mb : Str → Option Value) (env : Env) (base g : Heap) (L' : Addr) (h₁ : Heap) (tk : Nat) (s : Shared),
      Fr g L' h₁ (fun y => binds.reverse.lookup y) → News g L' h₁ [] → Below (callerA.deeper env) base [env] g → (frag.heap_1 w.params).In g → Top hd.view_39 loose mean mg mb g → env.scope.kind = .function → In g →
      wpAny (model lw.row.prog w) ((callerA.deeper env).deeper (envOf qual scope L' f cdv)) (execs body (envOf qual scope L' f cdv))
        (fun fl s' => Fin g s Out (match fl with | .ret v => v | _ => .none) s') (fun _ _ => False) { s with heap := h₁, toks := tk }) :
    Tells w f vs In Out := by
  intro loose mean mg mb env h₀ L m news s Q E B F X N T hf hke hin hQ
  refine wpAny_call ?_
  obtain ⟨FG, BG, st, -⟩ := groundX (R := fun _ _ => True) (A := callerA.deeper env) B F (News.nil (h₀ := h₀)) (Around.frames_deeper rfl) hf hke
  refine codeAny_call_def (fd := fnOf name qual params body scope dV kV doc pm an cdv ct) (body := body) (binds := binds) (by simp only [depth_deeper, depth_caller]; decide) ((X.keeps F.keep) _ _ ho) rfl (T.nolimit.keeps F.keep) (codeRec_of (X.keeps F.keep) hcd) rfl (hbind s) hcell hloc (fun h₁ hns hk₁ => ?_) hco hgen hk
  refine wpAny_mono (h loose mean mg mb env h₀ s.heap s.heap.objs.size h₁ _ s ⟨hns, hk₁, Nat.le_refl _⟩ News.nil BG (X.keeps F.keep) (T.keeps F.keep) hke hin) (fun fl s' hl => ?_) fun _ _ y => y.elim
  obtain ⟨h', tk', L', m', own, rfl, F', N', ho'⟩ := hl
  obtain ⟨oL, es, ep, hL, hLd, hLk, hLf⟩ := F.ns
  have hfr : ∀ q ∈ own, s.heap.get? q.1 = none := fun q hq => (N' q hq).2.2
  refine hQ _ own h' tk' ho' ⟨⟨oL, es, ep, F'.keep L oL hL, hLd, hLk, hLf⟩, fun b o e => F'.keep b o (F.keep b o e), F.above⟩ (fun p hp => ?_) (fun p hp q hq => ?_) F'.keep
  · rcases List.mem_append.mp hp with hp | hp
    · refine ⟨(N' p hp).1, fun q => ?_, ?_⟩
      · have := hfr p hp; rw [q, hL] at this; cases this
      · cases q : h₀.get? p.1 with
        | none => rfl
        | some o => have := hfr p hp; rw [F.keep _ _ q] at this; cases this
    · exact ⟨F'.keep _ _ (N p hp).1, (N p hp).2⟩
  · intro e
    have h1 := hfr q hq
    rw [← e, (N p hp).1] at h1
    cases h1
end Mine
end

section
open PySem PySem.W PySem.Calls PyProof.Rows
set_option maxRecDepth 100000
namespace Mine
/-! what is asked behind a step, as a letter: the proof's term stays small -/
theorem gen_QE {M : Model} {A : Around} {α : Type} {t : Sem α} {Q : α → Shared → Prop} {E : Value → Shared → Prop} {s : Shared}
    (H : ∀ (Q' : α → Shared → Prop) (E' : Value → Shared → Prop), (∀ f s, Q f s → Q' f s) → wpAny M A t Q' E' s) : wpAny M A t Q E s := H Q E fun _ _ h => h
end Mine
namespace Mine
theorem gen_Q {M : Model} {A : Around} {α : Type} {t : Sem α} {Q : α → Shared → Prop} {E : Value → Shared → Prop} {s : Shared}
    (H : ∀ Q' : α → Shared → Prop, (∀ f s, Q f s → Q' f s) → wpAny M A t Q' E s) : wpAny M A t Q E s := H Q fun _ _ h => h
end Mine
end

section
open PySem PySem.W PySem.Calls PyProof.Rows Builtin Builtin.Str
set_option maxRecDepth 100000
namespace Mine
theorem cps_ext {a b : Str} (h : a.cps.toList = b.cps.toList) : a = b := by
  obtain ⟨⟨a⟩⟩ := a
  obtain ⟨⟨b⟩⟩ := b
  cases h
  rfl
theorem indices_clip (i j : Int) (n : Nat) (h0 : 0 ≤ i) (h1 : 0 ≤ j) : strSliceIndices (some i) (some j) 1 n = strSliceIndices (some (min i n)) (some (min j n)) 1 n := by
  unfold strSliceIndices
  simp only [show (1 : Int) > 0 by decide, if_true]
  rw [if_neg (by omega), if_neg (by omega), if_neg (by omega), if_neg (by omega)]
  congr 1 <;> omega
theorem drop_take_clip (l : List Nat) (i k : Nat) (hik : i ≤ k) : (l.drop (min i l.length)).take (min k l.length - min i l.length) = (l.drop i).take (k - i) := by
  apply List.ext_getElem?
  intro t
  simp only [List.getElem?_take, List.getElem?_drop]
  by_cases h : t < k - i
  · rw [if_pos h]
    by_cases h2 : t < min k l.length - min i l.length
    · rw [if_pos h2]
      congr 1
      omega
    · rw [if_neg h2]
      exact (List.getElem?_eq_none (by omega)).symm
  · rw [if_neg h]
    by_cases h2 : t < min k l.length - min i l.length
    · omega
    · rw [if_neg h2]
theorem toNat_min {i : Int} {n : Nat} (h : 0 ≤ i) : (min i (n : Int)).toNat = min i.toNat n := by omega
theorem min_nonneg {i : Int} {n : Nat} (h : 0 ≤ i) : 0 ≤ min i (n : Int) := by omega
theorem toNat_sub2 {i j : Int} (h : 0 ≤ i) : (j - i).toNat = j.toNat - i.toNat := by omega
theorem slice_eq {x : Str} {i j : Int} (h0 : 0 ≤ i) (h1 : i ≤ j) : Txt.slice x (some i) (some j) = ⟨((x.cps.toList.drop i.toNat).take (j - i).toNat).toArray⟩ := by
  have e : Txt.slice x (some i) (some j) = Txt.slice x (some (min i x.length)) (some (min j x.length)) := by
    unfold Txt.slice
    rw [indices_clip i j x.length h0 (by omega)]
  rw [e, beq_iff_eq.mp (slice_closesL (x := x) (i := min i x.length) (j := min j x.length) (by omega) (by omega) (by omega))]
  have hl : x.length = x.cps.toList.length := by simp [PySem.Str.length]
  have := drop_take_clip x.cps.toList i.toNat j.toNat (by omega)
  rw [← hl] at this
  have e1 := toNat_min (n := x.length) h0
  have e2 : (min j (x.length : Int) - min i (x.length : Int)).toNat = min j.toNat x.length - min i.toNat x.length := by rw [toNat_sub2 (min_nonneg h0), toNat_min h0, toNat_min (Int.le_trans h0 h1)]
  have e3 : (j - i).toNat = j.toNat - i.toNat := toNat_sub2 h0
  rw [e1, e2, e3, this]
theorem indices_none (j : Int) (n : Nat) : strSliceIndices none (some j) 1 n = strSliceIndices (some 0) (some j) 1 n := by
  unfold strSliceIndices
  simp only [show (1 : Int) > 0 by decide, if_true]
  rw [if_neg (show ¬ (0 : Int) < 0 by decide)]
  congr 1
theorem slice_to_eq {x : Str} {j : Int} (h0 : 0 ≤ j) : Txt.slice x none (some j) = ⟨(x.cps.toList.take j.toNat).toArray⟩ := by
  have e : Txt.slice x none (some j) = Txt.slice x (some 0) (some j) := by
    unfold Txt.slice
    rw [indices_none]
  rw [e, slice_eq (by decide) h0]
  simp
theorem item_eq {x : Str} {i : Int} (h0 : 0 ≤ i) (h1 : i < x.length) : Txt.item x i = ⟨#[x.cps.toList.getD i.toNat 32]⟩ := by
  have hl : x.length = x.cps.toList.length := by simp [PySem.Str.length]
  have hlt : i.toNat < x.cps.size := by have : x.length = x.cps.size := rfl; omega
  unfold Txt.item Txt.charAt seqIndex?
  have hh : ¬ i < 0 := by omega
  simp only [hh, if_false]
  have : (decide (0 ≤ i) && decide (i < (x.length : Int))) = true := by simp [h0, h1]
  rw [if_pos this]
  simp [List.getD_eq_getElem?_getD, hlt]
theorem eq_one (c d : Nat) : ((⟨#[c]⟩ : Str) == ⟨#[d]⟩) = (c == d) := by
  by_cases h : c = d
  · subst h; simp
  · have : ¬ (⟨#[c]⟩ : Str) = ⟨#[d]⟩ := fun e => h (by cases e; rfl)
    rw [beq_false_of_ne this, beq_false_of_ne h]
theorem eq_two (c d e f : Nat) : ((⟨#[c, d]⟩ : Str) == ⟨#[e, f]⟩) = (c == e && d == f) := by
  by_cases h : c = e ∧ d = f
  · obtain ⟨rfl, rfl⟩ := h; simp
  · have : ¬ (⟨#[c, d]⟩ : Str) = ⟨#[e, f]⟩ := fun q => h (by cases q; exact ⟨rfl, rfl⟩)
    rw [beq_false_of_ne this]
    symm
    rw [Bool.and_eq_false_iff]
    by_cases h1 : c = e
    · right; exact beq_false_of_ne fun h2 => h ⟨h1, h2⟩
    · left; exact beq_false_of_ne h1
theorem occ_one (x : Str) (c : Nat) : (occurrences x ⟨#[c]⟩ 0 x.length 1).isEmpty = !decide (c ∈ x.cps.toList) := by
  rw [← PySem.StrLaws.found_one, Bool.not_not]
theorem two_of (d : List Nat) : (d.take 2 ++ [32, 32]).take 2 = [d.getD 0 32, d.getD 1 32] := by
  rcases d with _ | ⟨a, _ | ⟨b, r⟩⟩ <;> simp [List.getD]
/-- the two signs behind a place, blanks where the line ends -/
theorem rest_two {line : Str} {place : Int} (h0 : 0 ≤ place) {R : Str} (hR : Txt.slice line (some (place + 1)) (some (place + 3)) ++ Str.ofString "  " = R) :
    2 ≤ R.length ∧ R.length ≤ 4 ∧ R.cps.toList.take 2 = [line.cps.toList.getD (place.toNat + 1) 32, line.cps.toList.getD (place.toNat + 2) 32] := by
  subst hR
  rw [slice_eq (by omega) (by omega)]
  have e1 : (place + 1).toNat = place.toNat + 1 := by omega
  have e2 : (place + 3 - (place + 1)).toNat = 2 := by omega
  rw [e1, e2]
  have e3 : (Str.ofString "  ").cps = #[32, 32] := by decide
  have hc : ((⟨(List.take 2 (List.drop (place.toNat + 1) line.cps.toList)).toArray⟩ : Str) ++ Str.ofString "  ").cps.toList = List.take 2 (List.drop (place.toNat + 1) line.cps.toList) ++ [32, 32] := by
    rw [PySem.Str.cps_append, e3]
    simp
  have hl : ∀ x : Str, x.length = x.cps.toList.length := fun x => by simp [PySem.Str.length]
  refine ⟨?_, ?_, ?_⟩
  · rw [hl, hc]; simp
  · rw [hl, hc]; simp only [List.length_append, List.length_take, List.length_cons, List.length_nil]; omega
  · rw [hc, two_of]
    simp [List.getD_eq_getElem?_getD, List.getElem?_drop, Nat.add_assoc]
theorem of_two {R : Str} {a b : Nat} (h2 : 2 ≤ R.length) (h : R.cps.toList.take 2 = [a, b]) : Txt.item R 0 = ⟨#[a]⟩ ∧ Txt.item R 1 = ⟨#[b]⟩ ∧ Txt.slice R none (some 2) = ⟨#[a, b]⟩ := by
  have hg : ∀ k, k < 2 → R.cps.toList.getD k 32 = ([a, b] : List Nat).getD k 32 := fun k hk => by
    rw [← h]
    simp [List.getD_eq_getElem?_getD, hk]
  refine ⟨?_, ?_, ?_⟩
  · rw [item_eq (by decide) (by omega)]
    have := hg 0 (by decide)
    simpa using this
  · rw [item_eq (by decide) (by omega)]
    have := hg 1 (by decide)
    simpa using this
  · rw [slice_to_eq (by decide)]
    show (⟨(List.take 2 R.cps.toList).toArray⟩ : Str) = _
    rw [h]

/-! the frames' small lemmas -/
theorem look1 (x : Str) (v : Value) : (fun y => List.lookup y [(x, v)].reverse) = fun y => if y = x then some v else none := by
  funext y
  simp only [List.reverse_singleton, List.lookup]
  by_cases h : y = x
  · simp [h]
  · rw [if_neg h, beq_false_of_ne h]
def IntEnd (g : Heap) (L : Addr) (s : Shared) (x : Str) (i : Int) (m : Str → Option Value) (nx : List (Addr × Obj)) (f : Flow) (s' : Shared) : Prop :=
  f = .next ∧ ∃ h' tk' t, s' = { s with heap := h', toks := tk' } ∧ Fr g L h' (fun y => if y = x then some (.int i t) else m y) ∧ News g L h' nx
theorem join_int {prog : Program} {w : World} {A : Around} {t : Sem Flow} {Q : Flow → Shared → Prop} {s : Shared} {g : Heap} {L : Addr} {x : Str} {m : Str → Option Value} {i₀ : Value} {nx : List (Addr × Obj)} (i : Int)
    (_F : Fr g L s.heap (fun y => if y = x then some i₀ else m y)) (_N : News g L s.heap nx) (h : wpAny (model prog w) A t (IntEnd g L s x i m nx) (fun _ _ => False) s)
    (k : ∀ h' tk' t, Fr g L h' (fun y => if y = x then some (.int i t) else m y) → News g L h' nx → Q .next { s with heap := h', toks := tk' }) : wpAny (model prog w) A t Q (fun _ _ => False) s := by
  refine wpAny_mono h (fun f s' q => ?_) fun _ _ e => e
  obtain ⟨rfl, h', tk', t, rfl, F', N'⟩ := q
  exact k h' tk' t F' N'
theorem IntEnd.intro {g : Heap} {L : Addr} {s : Shared} {x : Str} {i i' : Int} {m m' : Str → Option Value} {nx : List (Addr × Obj)} {h' : Heap} {tk' : Nat} {t : Tok} (F : Fr g L h' m') (N : News g L h' nx)
    (hm : m' = fun y => if y = x then some (.int i' t) else m y) (e : i' = i) : IntEnd g L s x i m nx .next { s with heap := h', toks := tk' } := by
  subst hm e
  exact ⟨rfl, h', tk', t, rfl, F, N⟩
theorem shade {x : Str} {v v' : Option Value} {m : Str → Option Value} : (fun y => if y = x then v else if y = x then v' else m y) = fun y => if y = x then v else m y := by
  funext y
  by_cases h : y = x
  · simp [h]
  · simp [h]

/-! what the cut reckons -/
def cutSize (c r0 r1 : Nat) : Nat :=
  if c = 46 ∧ r0 = 46 ∧ r1 = 46 then 3
  else if c = 45 ∧ r0 = 62 then 2
  else if (c = 42 ∨ c = 47 ∨ c = 60 ∨ c = 62) ∧ r0 = c then (if r1 = 61 then 3 else 2)
  else if (c = 33 ∨ c = 37 ∨ c = 38 ∨ c = 42 ∨ c = 43 ∨ c = 45 ∨ c = 47 ∨ c = 58 ∨ c = 60 ∨ c = 61 ∨ c = 62 ∨ c = 64 ∨ c = 94 ∨ c = 124) ∧ r0 = 61 then 2
  else 1
theorem cutSize_pos (c r0 r1 : Nat) : 1 ≤ cutSize c r0 r1 ∧ cutSize c r0 r1 ≤ 3 := by
  unfold cutSize
  (repeat' split) <;> omega
def cutL : Nat → List Nat → List Str
  | 0, _ => []
  | _ + 1, [] => []
  | n + 1, c :: r => (if c = 32 then [] else [⟨((c :: r).take (cutSize c (r.getD 0 32) (r.getD 1 32))).toArray⟩]) ++ cutL n ((c :: r).drop (cutSize c (r.getD 0 32) (r.getD 1 32)))
theorem cutL_cons (n c : Nat) (r : List Nat) : cutL (n + 1) (c :: r) = (if c = 32 then [] else [⟨((c :: r).take (cutSize c (r.getD 0 32) (r.getD 1 32))).toArray⟩]) ++ cutL n ((c :: r).drop (cutSize c (r.getD 0 32) (r.getD 1 32))) := rfl
theorem cutL_fuel : ∀ (n : Nat) (l : List Nat), l.length ≤ n → cutL n l = cutL l.length l := by
  have key : ∀ (b n m : Nat) (l : List Nat), l.length ≤ b → l.length ≤ n → l.length ≤ m → cutL n l = cutL m l := by
    intro b
    induction b with
    | zero =>
      intro n m l hb _ _
      have : l = [] := List.length_eq_zero_iff.mp (by omega)
      subst this
      cases n <;> cases m <;> rfl
    | succ b ih =>
      intro n m l hb hn hm
      rcases l with _ | ⟨c, r⟩
      · cases n <;> cases m <;> rfl
      · simp only [List.length_cons] at hb hn hm
        obtain ⟨n, rfl⟩ : ∃ k, n = k + 1 := ⟨n - 1, by omega⟩
        obtain ⟨m, rfl⟩ : ∃ k, m = k + 1 := ⟨m - 1, by omega⟩
        have hp := (cutSize_pos c (r.getD 0 32) (r.getD 1 32)).1
        rw [cutL_cons, cutL_cons]
        congr 1
        apply ih <;> (rw [List.length_drop]; simp only [List.length_cons]; omega)
  exact fun n l h => key l.length n l.length l (Nat.le_refl _) h (Nat.le_refl _)
def cutAll (l : List Nat) : List Str := cutL l.length l
theorem drop_cons {l : List Nat} {p : Nat} (hp : p < l.length) : l.drop p = l.getD p 32 :: l.drop (p + 1) := by
  rw [List.drop_eq_getElem_cons hp]
  simp [List.getD_eq_getElem?_getD, hp]
theorem cut_step {l : List Nat} {p k : Nat} (hp : p < l.length) (hk : cutSize (l.getD p 32) (l.getD (p + 1) 32) (l.getD (p + 2) 32) = k) :
    cutAll (l.drop p) = (if l.getD p 32 = 32 then [] else [⟨((l.drop p).take k).toArray⟩]) ++ cutAll (l.drop (p + k)) := by
  have hpos := (cutSize_pos (l.getD p 32) (l.getD (p + 1) 32) (l.getD (p + 2) 32)).1
  have e0 : (l.drop (p + 1)).getD 0 32 = l.getD (p + 1) 32 := by simp [List.getD_eq_getElem?_getD]
  have e1 : (l.drop (p + 1)).getD 1 32 = l.getD (p + 2) 32 := by simp [List.getD_eq_getElem?_getD, Nat.add_assoc]
  have hd : (l.drop p).drop k = l.drop (p + k) := by rw [List.drop_drop]
  unfold cutAll
  rw [← hd]
  have hl : (l.drop p).length = (l.length - p - 1) + 1 := by rw [List.length_drop]; omega
  rw [hl]
  conv => lhs; rw [drop_cons hp]
  rw [cutL_cons, e0, e1, hk, ← drop_cons hp]
  congr 1
  refine cutL_fuel _ _ ?_
  simp only [List.length_drop]
  omega
theorem cut_turn {l : List Nat} {p k : Nat} {due : List Str} (hp : p < l.length) (hk : cutSize (l.getD p 32) (l.getD (p + 1) 32) (l.getD (p + 2) 32) = k) (h : due ++ cutAll (l.drop p) = cutAll l) :
    (due ++ if l.getD p 32 = 32 then [] else [⟨((l.drop p).take k).toArray⟩]) ++ cutAll (l.drop (p + k)) = cutAll l := by
  rw [← h, cut_step hp hk, List.append_assoc]
/-- what holds between the turns -/
def CutInv (line : Str) (place : Int) (due : List Str) : Prop := due ++ cutAll (line.cps.toList.drop place.toNat) = cutAll line.cps.toList
theorem CutInv.start (line : Str) : CutInv line 0 [] := rfl
theorem CutInv.skip {line : Str} {place : Int} {k : Nat} {due : List Str} (h : CutInv line place due) (h0 : 0 ≤ place) (hp : place < line.length)
    (hk : cutSize (line.cps.toList.getD place.toNat 32) (line.cps.toList.getD (place.toNat + 1) 32) (line.cps.toList.getD (place.toNat + 2) 32) = k) (hc : line.cps.toList.getD place.toNat 32 = 32) : CutInv line (place + k) due := by
  have hl : line.length = line.cps.toList.length := by simp [PySem.Str.length]
  have := cut_turn (by omega) hk h
  rw [if_pos hc, List.append_nil] at this
  unfold CutInv
  rw [show (place + (k : Int)).toNat = place.toNat + k by omega]
  exact this
theorem CutInv.put {line : Str} {place : Int} {k : Nat} {due : List Str} (h : CutInv line place due) (h0 : 0 ≤ place) (hp : place < line.length)
    (hk : cutSize (line.cps.toList.getD place.toNat 32) (line.cps.toList.getD (place.toNat + 1) 32) (line.cps.toList.getD (place.toNat + 2) 32) = k) (hc : line.cps.toList.getD place.toNat 32 ≠ 32) :
    CutInv line (place + k) (due ++ [Txt.slice line (some place) (some (place + k))]) := by
  have hl : line.length = line.cps.toList.length := by simp [PySem.Str.length]
  have := cut_turn (by omega) hk h
  rw [if_neg hc] at this
  unfold CutInv
  rw [show (place + (k : Int)).toNat = place.toNat + k by omega, slice_eq h0 (by omega), show (place + (k : Int) - place).toNat = k by omega]
  exact this
theorem CutInv.done {line : Str} {place : Int} {due : List Str} (h : CutInv line place due) (hp : (line.length : Int) ≤ place) : due = cutAll line.cps.toList := by
  have hl : line.length = line.cps.toList.length := by simp [PySem.Str.length]
  unfold CutInv at h
  rw [List.drop_of_length_le (by omega)] at h
  simpa [cutAll, cutL] using h
end Mine
end

section
open PySem PySem.W PySem.Calls PyProof.Rows PyProof.V PySem.Spec
set_option maxRecDepth 100000
namespace Mine
/-- the table of the tokens, as the text writes it -/
def TOK : List (Str × Int) := [(⟨#[33]⟩, 54), (⟨#[33, 61]⟩, 28), (⟨#[37]⟩, 24), (⟨#[37, 61]⟩, 40), (⟨#[38]⟩, 19), (⟨#[38, 61]⟩, 41), (⟨#[40]⟩, 7), (⟨#[41]⟩, 8), (⟨#[42]⟩, 16), (⟨#[42, 42]⟩, 35), (⟨#[42, 42, 61]⟩, 46), (⟨#[42, 61]⟩, 38), (⟨#[43]⟩, 14), (⟨#[43, 61]⟩, 36), (⟨#[44]⟩, 12), (⟨#[45]⟩, 15), (⟨#[45, 61]⟩, 37), (⟨#[45, 62]⟩, 51), (⟨#[46]⟩, 23), (⟨#[46, 46, 46]⟩, 52), (⟨#[47]⟩, 17), (⟨#[47, 47]⟩, 47), (⟨#[47, 47, 61]⟩, 48), (⟨#[47, 61]⟩, 39), (⟨#[58]⟩, 11), (⟨#[58, 61]⟩, 53), (⟨#[59]⟩, 13), (⟨#[60]⟩, 20), (⟨#[60, 60]⟩, 33), (⟨#[60, 60, 61]⟩, 44), (⟨#[60, 61]⟩, 29), (⟨#[61]⟩, 22), (⟨#[61, 61]⟩, 27), (⟨#[62]⟩, 21), (⟨#[62, 61]⟩, 30), (⟨#[62, 62]⟩, 34), (⟨#[62, 62, 61]⟩, 45), (⟨#[64]⟩, 49), (⟨#[64, 61]⟩, 50), (⟨#[91]⟩, 9), (⟨#[93]⟩, 10), (⟨#[94]⟩, 32), (⟨#[94, 61]⟩, 43), (⟨#[123]⟩, 25), (⟨#[124]⟩, 18), (⟨#[124, 61]⟩, 42), (⟨#[125]⟩, 26), (⟨#[126]⟩, 31)]
def tokOf (x : Str) : Int := ((TOK.find? fun p => p.1 == x).map (·.2)).getD 63
def inTok (x : Str) : Bool := (TOK.find? fun p => p.1 == x).isSome
theorem lookup_map (x : Str) : ∀ D : List (Str × Int), Spec.lookup (.str x) ((D.map fun p => (p.1, PyData.int p.2)).map fun p => (PyData.str p.1, p.2)) = (D.find? fun p => p.1 == x).map fun p => PyData.int p.2
  | [] => rfl
  | p :: r => by
    simp only [List.map_cons, Spec.lookup, List.find?_cons, same_str]
    by_cases h : p.1 = x
    · simp [h]
    · rw [if_neg (by simpa using h), beq_false_of_ne h]
      exact lookup_map x r
section
variable {w : World} {A : Around} {E : Value → Shared → Prop} {s : Shared} {h₀ : Heap} {L : Addr} {m : Str → Option Value}
theorem tok_tab {h : Heap} (X : (frag.heap_1 w.params).In h) : StrTab lw.row.prog w h 69 ((TOK.map fun p => (p.1, PyData.int p.2)).map fun p => (PyData.str p.1, p.2)) :=
  kt_tab_in (a := 69) (D := TOK.map fun p => (p.1, PyData.int p.2)) lw.row.prog w X (by kernel_rfl) (by decide) (by kernel_rfl)
theorem in_tok {x : Str} {t : Tok} {Q : Value → Shared → Prop} (X : (frag.heap_1 w.params).In h₀) (F : Fr h₀ L s.heap m) (h : Q (.bool (inTok x)) { s with toks := s.toks + 1 }) :
    wpAny (model lw.row.prog w) A (compareOp .In (.str x t) (.ref 69)) Q E s := by
  refine in_strTab (tok_tab (X.keeps F.keep)) ?_
  rw [lookup_map, Option.isSome_map]
  exact h
theorem get_tok {x : Str} {t u : Tok} {Q : Value → Shared → Prop} (X : (frag.heap_1 w.params).In h₀) (F : Fr h₀ L s.heap m) (h : ∀ t', Q (.int (tokOf x) t') { s with toks := s.toks + 1 }) :
    wpAny (model lw.row.prog w) A (call (.builtin "dict.get") [.ref 69, .str x t, .int 63 u]) Q E s := by
  refine call_get2_strTab (tok_tab (X.keeps F.keep)) (Flat.int 63 u) fun v hv => ?_
  rw [lookup_map] at hv
  have e : ((TOK.find? fun p => p.1 == x).map fun p => PyData.int p.2).getD (.int 63) = .int (tokOf x) := by
    unfold tokOf
    cases TOK.find? fun p => p.1 == x <;> rfl
  rw [e] at hv
  obtain ⟨t', rfl⟩ := Flat.int_inv hv
  exact h t'
theorem last_item {value slice : PySem.Expr} {l : Addr} {us : List Value} {v : Value} {n : Nat} {u : Tok} {news : List (Addr × Obj)} {Q : Value → Shared → Prop} (N : News h₀ L s.heap news) (hm : (l, listOf (us ++ [v]).toArray n) ∈ news) (h : Q v s)
    (hs : subscripted slice false (.ref l) (.int (-1) u) = operate [.ref l, .int (-1) u] (getItem (.ref l) (.int (-1) u)) := by with_unfolding_all rfl) :
    wpAny (model lw.row.prog w) A (subscriptTail value slice (.ref l) (.int (-1) u)) Q E s := by
  have hl : s.heap.IsList l (us ++ [v]).toArray := ⟨_, (N _ hm).1, rfl, n, rfl⟩
  refine tail_any hl.typeIs slot_list_getitem.lookup (wpAny_getItem_list_neg hl (by decide) (by simp only [List.size_toArray, List.length_append, List.length_cons, List.length_nil]; omega) (by decide) (x := v) ?_ h) hs
  have e : ((-1 : Int) + ((us ++ [v]).toArray.size : Nat)).toNat = us.length := by simp only [List.size_toArray, List.length_append, List.length_cons, List.length_nil]; omega
  rw [e]
  simp
end
/-! what the kinds are -/
def kPiece (l : List Nat) : List Nat :=
  if 3 ≤ l.length ∧ inTok ⟨(l.take 3).toArray⟩ = true then l.take 3 else if 2 ≤ l.length ∧ inTok ⟨(l.take 2).toArray⟩ = true then l.take 2 else l.take 1
def kKind (c : Nat) (x : Str) : List Int := if c = 120 then [1] else if c = 55 then [2] else if c = 32 then [] else [tokOf x]
def kindsL : Nat → List Nat → List Int
  | 0, _ => []
  | _ + 1, [] => []
  | n + 1, c :: r => kKind c ⟨(kPiece (c :: r)).toArray⟩ ++ kindsL n ((c :: r).drop (kPiece (c :: r)).length)
theorem kPiece_pos (c : Nat) (r : List Nat) : 1 ≤ (kPiece (c :: r)).length ∧ (kPiece (c :: r)).length ≤ 3 ∧ (kPiece (c :: r)).length ≤ (c :: r).length := by
  unfold kPiece
  split
  · rw [List.length_take]; omega
  · split
    · rw [List.length_take]; omega
    · rw [List.length_take]; simp only [List.length_cons]; omega
theorem kPiece_take (l : List Nat) : l.take (kPiece l).length = kPiece l := by
  unfold kPiece
  split
  · rename_i h; rw [List.length_take, Nat.min_eq_left h.1]
  · split
    · rename_i h; rw [List.length_take, Nat.min_eq_left h.1]
    · rcases l with _ | ⟨c, r⟩
      · rfl
      · simp
theorem kindsL_cons (n c : Nat) (r : List Nat) : kindsL (n + 1) (c :: r) = kKind c ⟨(kPiece (c :: r)).toArray⟩ ++ kindsL n ((c :: r).drop (kPiece (c :: r)).length) := rfl
theorem kindsL_fuel : ∀ (n : Nat) (l : List Nat), l.length ≤ n → kindsL n l = kindsL l.length l := by
  have key : ∀ (b n m : Nat) (l : List Nat), l.length ≤ b → l.length ≤ n → l.length ≤ m → kindsL n l = kindsL m l := by
    intro b
    induction b with
    | zero =>
      intro n m l hb _ _
      have : l = [] := List.length_eq_zero_iff.mp (by omega)
      subst this
      cases n <;> cases m <;> rfl
    | succ b ih =>
      intro n m l hb hn hm
      rcases l with _ | ⟨c, r⟩
      · cases n <;> cases m <;> rfl
      · simp only [List.length_cons] at hb hn hm
        obtain ⟨n, rfl⟩ : ∃ k, n = k + 1 := ⟨n - 1, by omega⟩
        obtain ⟨m, rfl⟩ : ∃ k, m = k + 1 := ⟨m - 1, by omega⟩
        have hp := (kPiece_pos c r).1
        rw [kindsL_cons, kindsL_cons]
        congr 1
        apply ih <;> (rw [List.length_drop]; simp only [List.length_cons]; omega)
  exact fun n l h => key l.length n l.length l (Nat.le_refl _) h (Nat.le_refl _)
def kindsAll (l : List Nat) : List Int := kindsL l.length l
def KInv (line : Str) (place : Int) (kinds : List Int) : Prop := kinds ++ kindsAll (line.cps.toList.drop place.toNat) = kindsAll line.cps.toList
theorem KInv.start (line : Str) : KInv line 0 [] := rfl
theorem KInv.turn {line : Str} {place : Int} {P : List Nat} {kinds : List Int} (h : KInv line place kinds) (h0 : 0 ≤ place) (hp : place < line.length)
    (hP : kPiece (line.cps.toList.drop place.toNat) = P) : KInv line (place + P.length) (kinds ++ kKind (line.cps.toList.getD place.toNat 32) ⟨P.toArray⟩) := by
  have hl : line.length = line.cps.toList.length := by simp [PySem.Str.length]
  unfold KInv at h ⊢
  rw [← h, List.append_assoc]
  congr 1
  rw [show (place + (P.length : Int)).toNat = place.toNat + P.length by omega, ← List.drop_drop]
  generalize hpp : place.toNat = p at *
  have hlt : p < line.cps.toList.length := by omega
  unfold kindsAll
  have hlen : (line.cps.toList.drop p).length = (line.cps.toList.length - p - 1) + 1 := by rw [List.length_drop]; omega
  have h1 := (kPiece_pos (line.cps.toList.getD p 32) (line.cps.toList.drop (p + 1))).1
  rw [← drop_cons hlt, hP] at h1
  conv => rhs; rw [hlen]; rw [drop_cons hlt]
  rw [kindsL_cons, ← drop_cons hlt, hP]
  congr 1
  symm
  refine kindsL_fuel _ _ ?_
  simp only [List.length_drop]
  omega
theorem KInv.done {line : Str} {place : Int} {kinds : List Int} (h : KInv line place kinds) (hp : (line.length : Int) ≤ place) : kinds = kindsAll line.cps.toList := by
  have hl : line.length = line.cps.toList.length := by simp [PySem.Str.length]
  unfold KInv at h
  rw [List.drop_of_length_le (by omega)] at h
  simpa [kindsAll, kindsL] using h
end Mine
end

section
open PySem PySem.W PySem.Calls PyProof.Rows
set_option maxRecDepth 100000
namespace Mine
/-- the end of the loop over (2, 3): the last piece is P -/
def PcEnd (g : Heap) (L : Addr) (s : Shared) (m : Str → Option Value) (pc l : Addr) (ol : Obj) (P : Str) (f : Flow) (s' : Shared) : Prop :=
  f = .next ∧ ∃ h' tk' us t n u, s' = { s with heap := h', toks := tk' } ∧ Fr g L h' (fun y => if y = Str.ofString "size" then u else m y) ∧ News g L h' [(pc, listOf (us ++ [.str P t]).toArray n), (l, ol)]
theorem PcEnd.intro {g : Heap} {L : Addr} {s : Shared} {m m' : Str → Option Value} {pc l : Addr} {ol : Obj} {P x : Str} {h' : Heap} {tk' : Nat} {u : Option Value} {news : List (Addr × Obj)} {vs : List Value} {n : Nat} {us : List Value} {t : Tok}
    (F : Fr g L h' m') (N : News g L h' news) (hm : m' = fun y => if y = Str.ofString "size" then u else m y) (h1 : (pc, listOf vs.toArray n) ∈ news) (h2 : (l, ol) ∈ news) (hv : vs = us ++ [.str x t]) (hx : x = P) : PcEnd g L s m pc l ol P .next { s with heap := h', toks := tk' } := by
  subst hm hv hx
  refine ⟨rfl, h', tk', us, t, n, u, rfl, F, fun p hp => ?_⟩
  rcases List.mem_cons.mp hp with rfl | hp
  · exact N _ h1
  · rw [List.mem_singleton.mp hp]; exact N _ h2
theorem join_pc {prog : Program} {w : World} {A : Around} {t : Sem Flow} {Q : Flow → Shared → Prop} {s : Shared} {g : Heap} {L : Addr} {m : Str → Option Value} {pc l : Addr} {ol : Obj} {o : Obj} (P : Str)
    (_F : Fr g L s.heap m) (_N : News g L s.heap [(pc, o), (l, ol)]) (h : wpAny (model prog w) A t (PcEnd g L s m pc l ol P) (fun _ _ => False) s)
    (k : ∀ h' tk' us t n u, Fr g L h' (fun y => if y = Str.ofString "size" then u else m y) → News g L h' [(pc, listOf (us ++ [.str P t]).toArray n), (l, ol)] → Q .next { s with heap := h', toks := tk' }) : wpAny (model prog w) A t Q (fun _ _ => False) s := by
  refine wpAny_mono h (fun f s' q => ?_) fun _ _ e => e
  obtain ⟨rfl, h', tk', us, t, n, u, rfl, F', N'⟩ := q
  exact k h' tk' us t n u F' N'
local macro_rules | `(tactic| walk_at "go") => `(tactic| repeat' ((fail_if_success (with_reducible show KswEnd _ _ _ _ _ _ _ _ _ _ _ _)); (fail_if_success (with_reducible show PcEnd _ _ _ _ _ _ _ _ _ _)); (fail_if_success (with_reducible show Fin _ _ _ _ _)); (first | (k_unfold; (try dsimp only)) | (dsimp only; walk1) | walk1)))
local macro_rules | `(tactic| walk_at "call builtin:list.append") => `(tactic| (k_here; (try dsimp only [List.cons_append, List.nil_append]); k_dflt (refine' append_K ?k1 ?k2 ?k3 ?_ ?z; (case k1 => k_asm); (case k2 => k_asm); (case k3 => k_upd); (case z => size_fits); k_whole); intro h' F' N'; (try k_sweep)))
local macro_rules | `(tactic| walk_at "compareOp In str ref") => `(tactic| (k_dflt (refine' in_tok ?k1 ?k2 ?_; (case k1 => k_asm); (case k2 => k_asm))))
local macro_rules | `(tactic| walk_at "call builtin:dict.get") => `(tactic| ((try dsimp only [List.cons_append, List.nil_append]); k_dflt (refine' get_tok ?k1 ?k2 ?_; (case k1 => k_asm); (case k2 => k_asm)); intro t'))
local macro_rules | `(tactic| walk_at "subscriptTail Name UnaryOp") => `(tactic| (k_dflt (refine' last_item ?k1 ?k2 ?_ ?k3; (case k1 => k_asm); (case k2 => k_memK); (case k3 => with_unfolding_all rfl))))
theorem kp3 {l P : List Nat} (hP : kPiece l = P) (h : 3 ≤ l.length) (h' : inTok ⟨(l.take 3).toArray⟩ = true) : (⟨(l.take 3).toArray⟩ : Str) = ⟨P.toArray⟩ := by
  rw [← hP, kPiece, if_pos ⟨h, h'⟩]
theorem kp2 {l P : List Nat} (hP : kPiece l = P) (h3 : ¬ (3 ≤ l.length ∧ inTok ⟨(l.take 3).toArray⟩ = true)) (h : 2 ≤ l.length) (h' : inTok ⟨(l.take 2).toArray⟩ = true) : (⟨(l.take 2).toArray⟩ : Str) = ⟨P.toArray⟩ := by
  rw [← hP, kPiece, if_neg h3, if_pos ⟨h, h'⟩]
theorem kp1 {l P : List Nat} (hP : kPiece l = P) (h3 : ¬ (3 ≤ l.length ∧ inTok ⟨(l.take 3).toArray⟩ = true)) (h2 : ¬ (2 ≤ l.length ∧ inTok ⟨(l.take 2).toArray⟩ = true)) : (⟨(l.take 1).toArray⟩ : Str) = ⟨P.toArray⟩ := by
  rw [← hP, kPiece, if_neg h3, if_neg h2]
theorem no_tok {a : Prop} {x : Str} (h : inTok x = false) : ¬ (a ∧ inTok x = true) := fun q => by rw [h] at q; exact absurd q.2 (by decide)
theorem kk_x {c : Nat} {x : Str} (h : ((⟨#[c]⟩ : Str) == Str.ofString "x") = true) : kKind c x = [1] := by
  rw [show Str.ofString "x" = ⟨#[120]⟩ by decide, eq_one, beq_iff_eq] at h
  rw [kKind, if_pos h]
theorem kk_7 {c : Nat} {x : Str} (h : ((⟨#[c]⟩ : Str) == Str.ofString "7") = true) : kKind c x = [2] := by
  rw [show Str.ofString "7" = ⟨#[55]⟩ by decide, eq_one, beq_iff_eq] at h
  rw [kKind, if_neg (by omega), if_pos h]
theorem kk_b {c : Nat} {x : Str} (h : ((⟨#[c]⟩ : Str) != Str.ofString " ") = false) : kKind c x = [] := by
  rw [bne, show Str.ofString " " = ⟨#[32]⟩ by decide, eq_one, Bool.not_eq_false', beq_iff_eq] at h
  rw [kKind, if_neg (by omega), if_neg (by omega), if_pos h]
theorem kk_t {c : Nat} {x : Str} (h1 : ((⟨#[c]⟩ : Str) == Str.ofString "x") = false) (h2 : ((⟨#[c]⟩ : Str) == Str.ofString "7") = false) (h : ((⟨#[c]⟩ : Str) != Str.ofString " ") = true) : kKind c x = [tokOf x] := by
  rw [show Str.ofString "x" = ⟨#[120]⟩ by decide, eq_one, beq_eq_false_iff_ne] at h1
  rw [show Str.ofString "7" = ⟨#[55]⟩ by decide, eq_one, beq_eq_false_iff_ne] at h2
  rw [bne, show Str.ofString " " = ⟨#[32]⟩ by decide, eq_one, Bool.not_eq_true', beq_eq_false_iff_ne] at h
  rw [kKind, if_neg h1, if_neg h2, if_neg h]
theorem str_len (l : List Nat) : PySem.Str.length ⟨l.toArray⟩ = l.length := by simp [PySem.Str.length]
set_option maxHeartbeats 4000000 in
theorem kinds_tells (w : World) (line : Str) (tk : Tok) (hlen : line.length ≤ 100) : Tells w 113 [.str line tk] (fun _ => True) (fun v own => ∃ (r : Addr) (vs : List Value) (n : Nat), v = .ref r ∧ own = [(r, listOf vs.toArray n)] ∧ IntsAre vs (kindsAll line.cps.toList ++ List.take (2 - (kindsAll line.cps.toList).length % 2) [0, 0])) := by
  (try (unfold Tells; k_fill; fail ""))
  refine tells_of (binds := [(Str.ofString "line", .str line tk)]) (by k_is) (by k_is) (fun s => BindsTo.of_eq rfl) (locs rfl) rfl rfl rfl (by decide) ?_
  intro loose mean mg mb env base g L' h₁ tk s F N B X T hke hin
  rw [look1] at F
  w_on
  repeat' ((fail_if_success (with_reducible show wpAny _ _ (exec (Stmt.While _ _ _ _) _) _ _ _)); (first | (k_unfold; (try dsimp only)) | walk1 | (dsimp only; walk1)))
  rename_i l hh0 hl1 hh1 hh2 F' N'
  refine ksw_while (σ := Int × Nat × List Value × List Int × Nat) (fun c => [(l, listOf c.2.2.1.toArray c.2.2.2.2)]) (fun c => [(Str.ofString "place", .int c.1 c.2.1)]) (fun c => IntsAre c.2.2.1 c.2.2.2.1) [Str.ofString "pieces", Str.ofString "size"] (fun c => 0 ≤ c.1 ∧ c.2.2.2.1.length ≤ c.1 ∧ c.1 ≤ line.length ∧ KInv line c.1 c.2.2.2.1) (fun c => line.length - c.1.toNat) (0, tk + 1, [], [], 0) F' N' .nil ?k1 ?k2 ?_ (hE := fun _ _ h => h.elim)
  case k1 => kst_all
  case k2 => exact ⟨Int.le_refl 0, Int.le_refl 0, Int.natCast_nonneg _, KInv.start line⟩
  rintro ⟨place, tp, vs, kinds, cn⟩ u h tk' hs hp F N
  clear F' N'
  dsimp only [kstB] at *
  obtain ⟨hp0, hp1, hpl, hp2⟩ := hp
  have kMark := kstMark
  have hvl := hs.length
  repeat' ((fail_if_success (with_reducible show wpAny _ _ (exec (Stmt.For _ _ _ _ _) _) _ _ _)); (first | (k_unfold; (try dsimp only)) | walk1 | (dsimp only; walk1)))
  · rename_i F' N'
    have hlt : place < line.length := by assumption
    have hlt' : place.toNat < line.cps.toList.length := by have : line.length = line.cps.toList.length := by simp [PySem.Str.length]
                                                           omega
    generalize hP : kPiece (line.cps.toList.drop place.toNat) = P
    have hP3 := kPiece_pos (line.cps.toList.getD place.toNat 32) (line.cps.toList.drop (place.toNat + 1))
    rw [← drop_cons hlt', hP] at hP3
    have hlenl : (line.length : Int) = (line.cps.toList.drop place.toNat).length + place := by
      have : line.length = line.cps.toList.length := by simp [PySem.Str.length]
      rw [List.length_drop]; omega
    have e1 := item_eq hp0 hlt
    have e2 := slice_eq (x := line) (i := place) (j := place + 2) hp0 (by omega)
    have e3 := slice_eq (x := line) (i := place) (j := place + 3) hp0 (by omega)
    rw [show (place + 2 - place).toNat = 2 by omega] at e2
    rw [show (place + 3 - place).toNat = 3 by omega] at e3
    have e1' : (⟨#[line.cps.toList.getD place.toNat 32]⟩ : Str) = ⟨((line.cps.toList.drop place.toNat).take 1).toArray⟩ := by
      rw [drop_cons hlt']; rfl
    refine join_pc ⟨P.toArray⟩ F' N' ?a ?b
    case a =>
      clear hp1 hp2
      walk_at "go"
      all_goals (first
        | refine PcEnd.intro (us := [_, _]) (by assumption) (by assumption) (by first | rfl | exact shade) (by k_memK) (by k_memK) (by rfl) ?_
        | refine PcEnd.intro (us := [_]) (by assumption) (by assumption) (by first | rfl | exact shade) (by k_memK) (by k_memK) (by rfl) ?_
        | refine PcEnd.intro (us := []) (by assumption) (by assumption) (by first | rfl | exact shade) (by k_memK) (by k_memK) (by rfl) ?_)
      all_goals (
        simp only [e1, e2, e3, e1'] at *
        first
        | exact kp3 hP (by omega) (by assumption)
        | exact kp2 hP (no_tok (by assumption)) (by omega) (by assumption)
        | exact kp2 hP (fun q => by omega) (by omega) (by assumption)
        | exact kp1 hP (no_tok (by assumption)) (no_tok (by assumption))
        | exact kp1 hP (fun q => by omega) (no_tok (by assumption))
        | exact kp1 hP (fun q => by omega) (fun q => by omega))
    case b =>
      intro h' tk' us t n u F' N'
      have hPl := str_len P
      walk_at "go"
      · rename_i F1 N1
        simp only [List.push_toArray] at N1
        have hx := ‹(Txt.item line place == Str.ofString "x") = true›
        rw [e1] at hx
        refine ksw_end (⟨place + ((⟨P.toArray⟩ : Str).length : Int), _, vs ++ [_], kinds ++ [1], cn + 1⟩) F1 N1 (fun p hp => .tail _ hp) ?_ (by kst_all) (by ksw_same) ?_ ?_
        · exact hs.append (.cons _ _ .nil)
        · refine ⟨by dsimp only; omega, by simp only [List.length_append, List.length_cons, List.length_nil]; omega, by dsimp only; omega, ?_⟩
          rw [hPl, ← kk_x hx]
          exact hp2.turn hp0 hlt hP
        · dsimp only; omega
      · rename_i F1 N1
        simp only [List.push_toArray] at N1
        have hx := ‹(Txt.item line place == Str.ofString "7") = true›
        rw [e1] at hx
        refine ksw_end (⟨place + ((⟨P.toArray⟩ : Str).length : Int), _, vs ++ [_], kinds ++ [2], cn + 1⟩) F1 N1 (fun p hp => .tail _ hp) ?_ (by kst_all) (by ksw_same) ?_ ?_
        · exact hs.append (.cons _ _ .nil)
        · refine ⟨by dsimp only; omega, by simp only [List.length_append, List.length_cons, List.length_nil]; omega, by dsimp only; omega, ?_⟩
          rw [hPl, ← kk_7 hx]
          exact hp2.turn hp0 hlt hP
        · dsimp only; omega
      · rename_i F1 N1
        simp only [List.push_toArray] at N1
        have h1 := ‹(Txt.item line place == Str.ofString "x") = false›
        have h2 := ‹(Txt.item line place == Str.ofString "7") = false›
        have h3 := ‹(Txt.item line place != Str.ofString " ") = true›
        rw [e1] at h1 h2 h3
        refine ksw_end (⟨place + ((⟨P.toArray⟩ : Str).length : Int), _, vs ++ [_], kinds ++ [tokOf ⟨P.toArray⟩], cn + 1⟩) F1 N1 (fun p hp => .tail _ hp) ?_ (by kst_all) (by ksw_same) ?_ ?_
        · exact hs.append (.cons _ _ .nil)
        · refine ⟨by dsimp only; omega, by simp only [List.length_append, List.length_cons, List.length_nil]; omega, by dsimp only; omega, ?_⟩
          rw [hPl, ← kk_t h1 h2 h3]
          exact hp2.turn hp0 hlt hP
        · dsimp only; omega
      · rename_i F1 N1
        have h3 := ‹(Txt.item line place != Str.ofString " ") = false›
        rw [e1] at h3
        refine ksw_end (⟨place + ((⟨P.toArray⟩ : Str).length : Int), _, vs, kinds, cn⟩) F1 N1 (fun p hp => .tail _ hp) hs (by kst_all) (by ksw_same) ?_ ?_
        · refine ⟨by dsimp only; omega, by dsimp only; omega, by dsimp only; omega, ?_⟩
          have := hp2.turn hp0 hlt hP
          rw [kk_b h3, List.append_nil] at this
          rw [hPl]
          exact this
        · dsimp only; omega
  · repeat' ((fail_if_success (with_reducible show Fin _ _ _ _ _)); (first | (k_unfold; (try dsimp only)) | walk1 | (dsimp only; walk1)))
    (try dsimp only)
    have hk := hp2.done (by omega)
    have e : (2 - (kinds.length : Int).fmod 2).toNat = 2 - kinds.length % 2 := by
      rw [Int.fmod_eq_emod_of_nonneg _ (by decide)]; omega
    rw [← hk, ← e]
    exact Fin.intro (by assumption) (by assumption) (fun p hp => by rw [List.mem_singleton.mp hp]; exact .head _) ⟨_, _, _, rfl, rfl, by assumption⟩
end Mine
end

section
open PySem PySem.W PySem.Calls PyProof.Rows
set_option maxRecDepth 100000
namespace Mine
theorem lit_dot : Str.ofString "." = ⟨#[46]⟩ := by decide
theorem lit_dots : Str.ofString ".." = ⟨#[46, 46]⟩ := by decide
theorem lit_minus : Str.ofString "-" = ⟨#[45]⟩ := by decide
theorem lit_gt : Str.ofString ">" = ⟨#[62]⟩ := by decide
theorem lit_eq : Str.ofString "=" = ⟨#[61]⟩ := by decide
theorem lit_blank : Str.ofString " " = ⟨#[32]⟩ := by decide
theorem in_four (c : Nat) : (Builtin.Str.occurrences (Str.ofString "*/<>") ⟨#[c]⟩ 0 (Str.ofString "*/<>").length 1).isEmpty = !decide (c = 42 ∨ c = 47 ∨ c = 60 ∨ c = 62) := by
  rw [occ_one, show (Str.ofString "*/<>").cps.toList = [42, 47, 60, 62] by decide]
  simp
theorem in_many (c : Nat) : (Builtin.Str.occurrences (Str.ofString "!%&*+-/:<=>@^|") ⟨#[c]⟩ 0 (Str.ofString "!%&*+-/:<=>@^|").length 1).isEmpty = !decide (c = 33 ∨ c = 37 ∨ c = 38 ∨ c = 42 ∨ c = 43 ∨ c = 45 ∨ c = 47 ∨ c = 58 ∨ c = 60 ∨ c = 61 ∨ c = 62 ∨ c = 64 ∨ c = 94 ∨ c = 124) := by
  rw [occ_one, show (Str.ofString "!%&*+-/:<=>@^|").cps.toList = [33, 37, 38, 42, 43, 45, 47, 58, 60, 61, 62, 64, 94, 124] by decide]
  simp
section
variable {c r0 r1 : Nat}
theorem many_of_four (h : (c = 42 ∨ c = 47 ∨ c = 60 ∨ c = 62)) : (c = 33 ∨ c = 37 ∨ c = 38 ∨ c = 42 ∨ c = 43 ∨ c = 45 ∨ c = 47 ∨ c = 58 ∨ c = 60 ∨ c = 61 ∨ c = 62 ∨ c = 64 ∨ c = 94 ∨ c = 124) := by
  rcases h with rfl | rfl | rfl | rfl <;> decide
theorem cs1 (h : c = 46) (h2 : r0 = 46 ∧ r1 = 46) : cutSize c r0 r1 = 3 := by rw [cutSize, if_pos ⟨h, h2⟩]
theorem cs2 (h : c = 46) (h2 : ¬(r0 = 46 ∧ r1 = 46)) : cutSize c r0 r1 = 1 := by
  subst h
  rw [cutSize, if_neg (fun q => h2 q.2), if_neg (fun q => absurd q.1 (by decide)), if_neg (fun q => absurd q.1 (by decide)), if_neg (fun q => absurd q.1 (by decide))]
theorem cs3 (h : c = 45) (h2 : r0 = 62) : cutSize c r0 r1 = 2 := by
  subst h
  rw [cutSize, if_neg (fun q => absurd q.1 (by decide)), if_pos ⟨rfl, h2⟩]
theorem cs4 (h : c = 45) (h2 : ¬ r0 = 62) (h3 : r0 = 61) : cutSize c r0 r1 = 2 := by
  subst h
  rw [cutSize, if_neg (fun q => absurd q.1 (by decide)), if_neg (fun q => h2 q.2), if_neg (fun q => absurd q.1 (by decide)), if_pos ⟨by decide, h3⟩]
theorem cs5 (h : c = 45) (h2 : ¬ r0 = 62) (h3 : ¬ r0 = 61) : cutSize c r0 r1 = 1 := by
  subst h
  rw [cutSize, if_neg (fun q => absurd q.1 (by decide)), if_neg (fun q => h2 q.2), if_neg (fun q => absurd q.1 (by decide)), if_neg (fun q => h3 q.2)]
theorem cs6 (a : ¬ c = 46) (b : ¬ c = 45) (h : (c = 42 ∨ c = 47 ∨ c = 60 ∨ c = 62)) (h2 : r0 = c) (h3 : r1 = 61) : cutSize c r0 r1 = 3 := by
  rw [cutSize, if_neg (fun q => a q.1), if_neg (fun q => b q.1), if_pos ⟨h, h2⟩, if_pos h3]
theorem cs7 (a : ¬ c = 46) (b : ¬ c = 45) (h : (c = 42 ∨ c = 47 ∨ c = 60 ∨ c = 62)) (h2 : r0 = c) (h3 : ¬ r1 = 61) : cutSize c r0 r1 = 2 := by
  rw [cutSize, if_neg (fun q => a q.1), if_neg (fun q => b q.1), if_pos ⟨h, h2⟩, if_neg h3]
theorem cs8 (a : ¬ c = 46) (b : ¬ c = 45) (h : (c = 42 ∨ c = 47 ∨ c = 60 ∨ c = 62)) (h2 : ¬ r0 = c) (h3 : r0 = 61) : cutSize c r0 r1 = 2 := by
  rw [cutSize, if_neg (fun q => a q.1), if_neg (fun q => b q.1), if_neg (fun q => h2 q.2), if_pos ⟨many_of_four h, h3⟩]
theorem cs9 (a : ¬ c = 46) (b : ¬ c = 45) (h2 : ¬ r0 = c) (h3 : ¬ r0 = 61) : cutSize c r0 r1 = 1 := by
  rw [cutSize, if_neg (fun q => a q.1), if_neg (fun q => b q.1), if_neg (fun q => h2 q.2), if_neg (fun q => h3 q.2)]
theorem cs10 (a : ¬ c = 46) (b : ¬ c = 45) (h : ¬ (c = 42 ∨ c = 47 ∨ c = 60 ∨ c = 62)) (h2 : (c = 33 ∨ c = 37 ∨ c = 38 ∨ c = 42 ∨ c = 43 ∨ c = 45 ∨ c = 47 ∨ c = 58 ∨ c = 60 ∨ c = 61 ∨ c = 62 ∨ c = 64 ∨ c = 94 ∨ c = 124)) (h3 : r0 = 61) : cutSize c r0 r1 = 2 := by
  rw [cutSize, if_neg (fun q => a q.1), if_neg (fun q => b q.1), if_neg (fun q => h q.1), if_pos ⟨h2, h3⟩]
theorem cs11 (a : ¬ c = 46) (b : ¬ c = 45) (h : ¬ (c = 42 ∨ c = 47 ∨ c = 60 ∨ c = 62)) (h3 : ¬ r0 = 61) : cutSize c r0 r1 = 1 := by
  rw [cutSize, if_neg (fun q => a q.1), if_neg (fun q => b q.1), if_neg (fun q => h q.1), if_neg (fun q => h3 q.2)]
theorem cs12 (a : ¬ c = 46) (b : ¬ c = 45) (h : ¬ (c = 42 ∨ c = 47 ∨ c = 60 ∨ c = 62)) (h2 : ¬ (c = 33 ∨ c = 37 ∨ c = 38 ∨ c = 42 ∨ c = 43 ∨ c = 45 ∨ c = 47 ∨ c = 58 ∨ c = 60 ∨ c = 61 ∨ c = 62 ∨ c = 64 ∨ c = 94 ∨ c = 124)) : cutSize c r0 r1 = 1 := by
  rw [cutSize, if_neg (fun q => a q.1), if_neg (fun q => b q.1), if_neg (fun q => h q.1), if_neg (fun q => h2 q.1)]
end
section
variable {prog : Program} {w : World} {A : Around} {E : Value → Shared → Prop} {s : Shared} {x y : Str} {c d e f : Nat} {t u : Tok} {Q : Value → Shared → Prop}
theorem eqc1 (hx : x = ⟨#[c]⟩) (hy : y = ⟨#[d]⟩) (h : Q (.bool (decide (c = d))) s) : wpAny (model prog w) A (compareOp .Eq (.str x t) (.str y u)) Q E s := by
  refine PyProof.Rows.eq_str ?_
  rw [hx, hy, eq_one, show (c == d) = decide (c = d) from rfl]
  exact h
theorem eqc2 (hx : x = ⟨#[c, d]⟩) (hy : y = ⟨#[e, f]⟩) (h : Q (.bool (decide (c = e ∧ d = f))) s) : wpAny (model prog w) A (compareOp .Eq (.str x t) (.str y u)) Q E s := by
  refine PyProof.Rows.eq_str ?_
  rw [hx, hy, eq_two, show (c == e && d == f) = decide (c = e ∧ d = f) from by by_cases h1 : c = e <;> by_cases h2 : d = f <;> simp [h1, h2]]
  exact h
theorem inF (hx : x = ⟨#[c]⟩) (h : Q (.bool (decide (c = 42 ∨ c = 47 ∨ c = 60 ∨ c = 62))) s) : wpAny (model prog w) A (compareOp .In (.str x t) (.str (Str.ofString "*/<>") u)) Q E s := by
  refine PyProof.Rows.in_str ?_
  rw [hx, in_four, Bool.not_not]
  exact h
theorem inM (hx : x = ⟨#[c]⟩) (h : Q (.bool (decide (c = 33 ∨ c = 37 ∨ c = 38 ∨ c = 42 ∨ c = 43 ∨ c = 45 ∨ c = 47 ∨ c = 58 ∨ c = 60 ∨ c = 61 ∨ c = 62 ∨ c = 64 ∨ c = 94 ∨ c = 124))) s) : wpAny (model prog w) A (compareOp .In (.str x t) (.str (Str.ofString "!%&*+-/:<=>@^|") u)) Q E s := by
  refine PyProof.Rows.in_str ?_
  rw [hx, in_many, Bool.not_not]
  exact h
theorem inF0 (hx : x = ⟨#[c]⟩) (h46 : c = 46) (h : Q (.bool false) s) : wpAny (model prog w) A (compareOp .In (.str x t) (.str (Str.ofString "*/<>") u)) Q E s := inF hx (by subst h46; exact h)
theorem inF1 (hx : x = ⟨#[c]⟩) (h45 : c = 45) (h : Q (.bool false) s) : wpAny (model prog w) A (compareOp .In (.str x t) (.str (Str.ofString "*/<>") u)) Q E s := inF hx (by subst h45; exact h)
theorem inM0 (hx : x = ⟨#[c]⟩) (h46 : c = 46) (h : Q (.bool false) s) : wpAny (model prog w) A (compareOp .In (.str x t) (.str (Str.ofString "!%&*+-/:<=>@^|") u)) Q E s := inM hx (by subst h46; exact h)
theorem inM1 (hx : x = ⟨#[c]⟩) (h45 : c = 45) (h : Q (.bool true) s) : wpAny (model prog w) A (compareOp .In (.str x t) (.str (Str.ofString "!%&*+-/:<=>@^|") u)) Q E s := inM hx (by subst h45; exact h)
theorem inM2 (hx : x = ⟨#[c]⟩) (h4 : (c = 42 ∨ c = 47 ∨ c = 60 ∨ c = 62)) (h : Q (.bool true) s) : wpAny (model prog w) A (compareOp .In (.str x t) (.str (Str.ofString "!%&*+-/:<=>@^|") u)) Q E s := inM hx (by rw [decide_eq_true (many_of_four h4)]; exact h)
end
local macro_rules | `(tactic| walk_at "compareOp Eq str str") => `(tactic| first
  | (refine eqc1 (by first | assumption | rfl) (by first | exact lit_dot | exact lit_minus | exact lit_gt | exact lit_eq | rfl) ?_)
  | (refine eqc2 (by assumption) (by exact lit_dots) ?_))
local macro_rules | `(tactic| walk_at "compareOp In str str") => `(tactic| first | (refine inF0 rfl (by assumption) ?_) | (refine inF1 rfl (by assumption) ?_) | (refine inF rfl ?_) | (refine inM0 rfl (by assumption) ?_) | (refine inM1 rfl (by assumption) ?_) | (refine inM2 rfl (by assumption) ?_) | (refine inM rfl ?_))
local macro_rules | `(tactic| walk_at "go") => `(tactic| repeat' ((fail_if_success (with_reducible show KswEnd _ _ _ _ _ _ _ _ _ _ _ _)); (fail_if_success (with_reducible show IntEnd _ _ _ _ _ _ _ _ _)); (fail_if_success (with_reducible show Fin _ _ _ _ _)); (first | (k_unfold; (try dsimp only)) | (dsimp only; walk1) | walk1)))
set_option maxHeartbeats 4000000 in
theorem cut_tells (w : World) (line : Str) (tk : Tok) (hlen : line.length ≤ 100) : Tells w 106 [.str line tk] (fun _ => True) (fun v own => ∃ (r : Addr) (vs : List Value) (n : Nat), v = .ref r ∧ own = [(r, listOf vs.toArray n)] ∧ StrsAre vs (cutAll line.cps.toList)) := by
  (try (unfold Tells; k_fill; fail ""))
  refine tells_of (binds := [(Str.ofString "line", .str line tk)]) (by k_is) (by k_is) (fun s => BindsTo.of_eq rfl) (locs rfl) rfl rfl rfl (by decide) ?_
  intro loose mean mg mb env base g L' h₁ tk s F N B X T hke hin
  rw [look1] at F
  w_on
  repeat' ((fail_if_success (with_reducible show wpAny _ _ (exec (Stmt.While _ _ _ _) _) _ _ _)); (first | (k_unfold; (try dsimp only)) | walk1 | (dsimp only; walk1)))
  rename_i l hh0 hl1 hh1 hh2 F' N'
  refine ksw_while (σ := Int × Nat × List Value × List Str × Nat) (fun c => [(l, listOf c.2.2.1.toArray c.2.2.2.2)]) (fun c => [(Str.ofString "place", .int c.1 c.2.1)]) (fun c => StrsAre c.2.2.1 c.2.2.2.1) [Str.ofString "sign", Str.ofString "rest", Str.ofString "size"] (fun c => 0 ≤ c.1 ∧ c.2.2.2.1.length ≤ c.1 ∧ CutInv line c.1 c.2.2.2.1) (fun c => line.length - c.1.toNat) (0, tk + 1, [], [], 0) F' N' .nil ?k1 ?k2 ?_ (hE := fun _ _ h => h.elim)
  case k1 => kst_all
  case k2 => exact ⟨Int.le_refl 0, Int.le_refl 0, CutInv.start line⟩
  rintro ⟨place, tp, vs, due, cn⟩ u h tk' hs hp F N
  clear F' N'
  dsimp only [kstB] at *
  obtain ⟨hp0, hp1, hp2⟩ := hp
  repeat' ((fail_if_success (with_reducible show wpAny _ _ (exec (Stmt.If _ _ _ _) _) _ _ _)); (first | (k_unfold; (try dsimp only)) | (dsimp only; walk1) | walk1))
  · rename_i F' N'
    have hlt : place < line.length := by assumption
    have e1 := item_eq hp0 hlt
    generalize hR : Txt.slice line (some (place + 1)) (some (place + 3)) ++ Str.ofString "  " = R at *
    obtain ⟨hR2, hR4, hRt⟩ := rest_two hp0 hR
    obtain ⟨e2, e3, e4⟩ := of_two hR2 hRt
    generalize hk : cutSize (line.cps.toList.getD place.toNat 32) (line.cps.toList.getD (place.toNat + 1) 32) (line.cps.toList.getD (place.toNat + 2) 32) = k
    have hk13 := cutSize_pos (line.cps.toList.getD place.toNat 32) (line.cps.toList.getD (place.toNat + 1) 32) (line.cps.toList.getD (place.toNat + 2) 32)
    rw [hk] at hk13
    generalize hc0 : line.cps.toList.getD place.toNat 32 = c at *
    generalize hc1 : line.cps.toList.getD (place.toNat + 1) 32 = r0 at *
    generalize hc2 : line.cps.toList.getD (place.toNat + 2) 32 = r1 at *
    clear hR
    rw [e1] at F'
    refine join_int (k : Int) F' N' ?a ?b
    case a =>
      clear hp1 hp2
      walk_at "go"
      all_goals (refine IntEnd.intro (by assumption) (by assumption) (by first | rfl | exact shade) ?_)
      all_goals (
        (repeat (rename Fr _ _ _ _ => zF; clear zF))
        (repeat (rename News _ _ _ _ => zN; clear zN))
        clear hs B T X
        rw [← hk]
        first
        | rw [cs1 (by assumption) (by assumption)]
          rfl
        | rw [cs2 (by assumption) (by assumption)]
          rfl
        | rw [cs3 (by assumption) (by assumption)]
          rfl
        | rw [cs4 (by assumption) (by assumption) (by assumption)]
          rfl
        | rw [cs5 (by assumption) (by assumption) (by assumption)]
          rfl
        | rw [cs6 (by assumption) (by assumption) (by assumption) (by assumption) (by assumption)]
          rfl
        | rw [cs7 (by assumption) (by assumption) (by assumption) (by assumption) (by assumption)]
          rfl
        | rw [cs8 (by assumption) (by assumption) (by assumption) (by assumption) (by assumption)]
          rfl
        | rw [cs10 (by assumption) (by assumption) (by assumption) (by assumption) (by assumption)]
          rfl
        | rw [cs9 (by assumption) (by assumption) (by assumption) (by assumption)]
          rfl
        | rw [cs11 (by assumption) (by assumption) (by assumption) (by assumption)]
          rfl
        | rw [cs12 (by assumption) (by assumption) (by assumption) (by assumption)]
          rfl)
    case b =>
      intro h' tk' t F' N'
      have kMark := kstMark
      walk_at "go"
      · rename_i F1 N1
        simp only [List.push_toArray] at N1
        refine ksw_end (⟨place + k, _, vs ++ [_], due ++ [Txt.slice line (some place) (some (place + k))], cn + 1⟩) F1 N1 (fun p hp => hp) ?_ (by kst_all) (by ksw_same) ?_ ?_
        · exact StrsAre.append' hs (.cons _ _ .nil)
        · subst hc0 hc1 hc2
          refine ⟨by dsimp only; omega, by simp only [List.length_append, List.length_cons, List.length_nil]; omega, CutInv.put hp2 hp0 hlt hk ?_⟩
          have hx := ‹(_ != _) = true›
          simp only [lit_blank, bne, eq_one, Bool.not_eq_true', beq_eq_false_iff_ne, ne_eq] at hx
          exact hx
        · dsimp only; omega
      · rename_i F1 N1
        refine ksw_end (⟨place + k, _, vs, due, cn⟩) F1 N1 (fun p hp => hp) hs (by kst_all) (by ksw_same) ?_ ?_
        · subst hc0 hc1 hc2
          refine ⟨by dsimp only; omega, by dsimp only; omega, CutInv.skip hp2 hp0 hlt hk ?_⟩
          have hx := ‹(_ != _) = false›
          simp only [lit_blank, bne, eq_one, Bool.not_eq_false', beq_iff_eq] at hx
          exact hx
        · dsimp only; omega
  · walk_at "go"
    refine Fin.intro (by assumption) (by assumption) (fun p hp => hp) ⟨_, _, _, rfl, rfl, ?_⟩
    rw [← CutInv.done hp2 (by omega)]
    exact hs
end Mine
end

section
open PySem PySem.W PySem.Calls PyProof.Rows PySem.AutoSeq1 Builtin
set_option maxRecDepth 100000
namespace Mine
/-! enumerate over a tuple of the text's top: the library draws from lists and texts alone -/
section
variable {prog : Program} {w : World} {A : Around} {E : Value → Shared → Prop} {s : Shared}
theorem nextOf_tuple_item {it t : Addr} {i : Nat} {items : Array Value} {x : Value} {Q : Value → Shared → Prop} (hit : s.heap.IsTupleIter it t i) (ht : s.heap.IsTuple t items) (hx : items[i]? = some x)
    (hQ : ∀ h', h'.IsTupleIter it t (i + 1) → Heap.SameBut it s.heap h' → Q x { s with heap := h' }) : wpAny (model prog w) A (Builtin.SmallTypes.nextOf (.ref it)) Q E s := by
  obtain ⟨o, ho, hc, hd⟩ := id hit
  obtain ⟨ol, hol, _, nl, hdl⟩ := ht
  unfold Builtin.SmallTypes.nextOf
  refine wpAny_bind (wpAny_callSpecial?_slot (name := Str.ofString "__next__") hit.typeIs F.slot_tuple_iterator_next
    (wpAny_call_entry F.slot_tuple_iterator_next hit.typeIs F.entry_tuple_iterator_next ?_ (F.args_tuple_iterator_next_1 _)))
  show wpAny _ _ (field (.ref it) 0 >>= _) _ _ s
  refine wpAny_bind (wpAny_field ho hd (x := .ref t) rfl ?_)
  show wpAny _ _ (if (Value.ref t == Value.none) = true then _ else _) _ _ s
  rw [if_neg (show ¬ ((Value.ref t == Value.none) = true) from Bool.false_ne_true)]
  show wpAny _ _ (field (.ref it) 1 >>= _) _ _ s
  refine wpAny_bind (wpAny_field ho hd (x := .int i 0) rfl ?_)
  show wpAny _ _ (seqItems? (.ref t) >>= _) _ _ s
  refine wpAny_bind (wpAny_seqItems hol hdl ?_)
  simp only [Int.toNat_natCast, hx]
  refine wpAny_bind (wpAny_setField ho hd (by simp) (wpAny_pure ⟨x, rfl, wpAny_pure (hQ _ ?_ (Heap.SameBut.update ..))⟩))
  exact ⟨_, Heap.get?_update_self _ ho (Obj.isFreed_of_fields (Obj.data_mapFields hd _)), (Obj.cls_mapFields ..).trans hc, by
    rw [Obj.data_mapFields hd]; simp [rawInt]⟩
theorem nextOf_tuple_end {it t : Addr} {i : Nat} {items : Array Value} {Q : Value → Shared → Prop} (hh : A.handled = none) (hit : s.heap.IsTupleIter it t i) (ht : s.heap.IsTuple t items) (hx : items[i]? = none)
    (hE : ∀ h' e, Heap.ExtBut it s.heap h' → (∃ o, h'.get? e = some o ∧ o.cls = .type "StopIteration") → E (.ref e) { s with heap := h' }) : wpAny (model prog w) A (Builtin.SmallTypes.nextOf (.ref it)) Q E s := by
  obtain ⟨o, ho, hc, hd⟩ := id hit
  obtain ⟨ol, hol, _, nl, hdl⟩ := ht
  unfold Builtin.SmallTypes.nextOf
  refine wpAny_bind (wpAny_callSpecial?_slot (name := Str.ofString "__next__") hit.typeIs F.slot_tuple_iterator_next
    (wpAny_call_entry F.slot_tuple_iterator_next hit.typeIs F.entry_tuple_iterator_next ?_ (F.args_tuple_iterator_next_1 _)))
  show wpAny _ _ (field (.ref it) 0 >>= _) _ _ s
  refine wpAny_bind (wpAny_field ho hd (x := .ref t) rfl ?_)
  show wpAny _ _ (if (Value.ref t == Value.none) = true then _ else _) _ _ s
  rw [if_neg (show ¬ ((Value.ref t == Value.none) = true) from Bool.false_ne_true)]
  show wpAny _ _ (field (.ref it) 1 >>= _) _ _ s
  refine wpAny_bind (wpAny_field ho hd (x := .int i 0) rfl ?_)
  show wpAny _ _ (seqItems? (.ref t) >>= _) _ _ s
  refine wpAny_bind (wpAny_seqItems hol hdl ?_)
  simp only [Int.toNat_natCast, hx]
  refine wpAny_bind (wpAny_rule (wpAny_bind (wpAny_setField ho hd (by simp) ?_)))
  show wpAny _ _ (newExc (.type "StopIteration") [] >>= _) _ _ _
  refine wpAny_bind ?_
  simp only [newExc, newTuple]
  refine wpAny_bind (wpAny_newObj_type ?_ (by size_fits))
  refine wpAny_bind (m := firstArgMember _ _) (wpAny_of_eq (a := Value.none) (by first | rfl | (simp only [firstArgMember]; rfl)) ?_)
  refine wpAny_newObj_type ?_ (by size_fits)
  simp only [raiseNew]
  refine wpAny_bind (wpAny_handled ?_)
  first | rw [show A.in1.handled = none from hh] | rw [hh]
  refine wpAny_bind (wpAny_pure (wpAny_throw ?_))
  exact hE _ _ (((Heap.SameBut.update ..).extBut.push _).push _) ⟨_, Heap.get?_push_size _ rfl, rfl⟩
end
theorem draws_tuple {prog : Program} {w : World} {A : Around} (hh : A.handled = none) (it t : Addr) (hne : t ≠ it) (items : Array Value) :
    Draws prog w A it [it, t] items.size (fun i v => items[i]? = some v) (fun i h => h.IsTupleIter it t i ∧ h.IsTuple t items) where
  live := fun _ _ st => let ⟨o, ho, _⟩ := st.1; ⟨o, ho⟩
  frame := fun _ _ _ st hk => ⟨st.1.at fun o e => hk it (by simp) o e, st.2.at fun o e => hk t (by simp) o e⟩
  item := fun i s Q E hi st hQ => by
    refine nextOf_tuple_item st.1 st.2 (x := items[i]) (by simp [hi]) fun h' hit' hs' => ?_
    exact hQ _ h' s.toks (by simp [hi]) ⟨hit', st.2.extBut hs'.extBut hne⟩ hs'
  done := fun s Q E st hE => nextOf_tuple_end hh st.1 st.2 (by simp) hE
theorem meets_enum_tuple (l : Addr) (items : Array Value) (n : Nat) (dct : Option Addr) (sl : Array (Option Value)) :
    Meets (Builtin.«enumerate.__new__» ⟨[.type "enumerate", .ref l], []⟩) (fun _ R s => s.heap.get? l = some { cls := .type "tuple", dict := dct, data := .seq items n, slots := sl } ∧
      R (.ok (.ret (.ref (s.heap.push { cls := .type "tuple_iterator", data := .fields #[.ref l, .int 0 0] }).objs.size)))
        { s with heap := (s.heap.push { cls := .type "tuple_iterator", data := .fields #[.ref l, .int 0 0] }).push { cls := .type "enumerate", data := .fields #[.none, .bool false, .ref s.heap.objs.size, rawInt 0, .none, .none] } }) :=
  .of_wp fun prog w A R s h => by
    obtain ⟨hp, g, d, tk, os⟩ := s; obtain ⟨hl, h⟩ := h
    have hsub := sub_enumerate
    have hL : Heap.IsTuple (Shared.heap ⟨hp, g, d, tk, os⟩) l items := ⟨_, hl, rfl, n, rfl⟩
    wp_walk using wpAny_loadPart' hl
    refine wpAny_stack_any fun st => wpAny_pure ?_
    split
    · rename_i c _ _ _ _ _
      cases (c == Value.type "enumerate")
      · wp_walk using wpAny_loadPart' hl, wpAny_pyIter_tuple hL
        exact ⟨_, rfl, h⟩
      · wp_walk using wpAny_loadPart' hl, wpAny_pyIter_tuple hL
        exact ⟨_, rfl, h⟩
    · wp_walk using wpAny_loadPart' hl, wpAny_pyIter_tuple hL
      exact ⟨_, rfl, h⟩
section
variable {prog : Program} {w : World} {A : Around} {E : Value → Shared → Prop} {s : Shared}
theorem call_enum_tuple {l : Addr} {items : Array Value} {Q : Value → Shared → Prop} (hL : s.heap.IsTuple l items)
    (h : ∀ h', IsEnum h' (s.heap.objs.size + 1) s.heap.objs.size 0 .none → h'.IsTupleIter s.heap.objs.size l 0 → h'.objs.size = s.heap.objs.size + 2 →
      (∀ b o, s.heap.get? b = some o → h'.get? b = some o) → Q (.ref (s.heap.objs.size + 1)) { s with heap := h' }) :
    wpAny (model prog w) A (call (.type "enumerate") [.ref l]) Q E s := by
  obtain ⟨⟨c, dct, dt, sl⟩, hl, hc, n, hd⟩ := hL
  replace hc : c = .type "tuple" := hc
  replace hd : dt = .seq items n := hd
  subst hc hd
  refine callType_new F.called_enumerate (by decide) (F.typeCall_enumerate_1 _) (F.newCall_enumerate_1 _) (fun obj => F.args_object_init_2 obj _) F.entry_enumerate_new
    (meets_enum_tuple l items n dct sl) ⟨hl, ?_⟩
  have hz : (s.heap.push { cls := .type "tuple_iterator", data := .fields #[.ref l, .int 0 0] }).objs.size = s.heap.objs.size + 1 := Heap.size_push ..
  show _ ∧ _
  rw [hz]
  have he : IsEnum ((s.heap.push { cls := .type "tuple_iterator", data := .fields #[.ref l, .int 0 0] }).push
      { cls := .type "enumerate", data := .fields #[.none, .bool false, .ref s.heap.objs.size, rawInt 0, .none, .none] }) (s.heap.objs.size + 1) s.heap.objs.size 0 .none := by
    have := Heap.get?_push_size (s.heap.push { cls := .type "tuple_iterator", data := .fields #[.ref l, .int 0 0] })
      (o := { cls := .type "enumerate", data := .fields #[.none, .bool false, .ref s.heap.objs.size, rawInt 0, .none, .none] }) rfl
    rw [hz] at this; exact this
  refine ⟨⟨_, he, rfl⟩, h _ he ⟨_, Heap.get?_push_of_some _ (Heap.get?_push_size _ rfl), rfl, rfl⟩ (by rw [Heap.size_push, hz]) fun b o x => Heap.get?_push_of_some _ (Heap.get?_push_of_some _ x)⟩
end
end Mine
namespace Mine
/-! the loop over enumerate(tuple), the ledger one object -/
def anyKind : ItemKind Value := ⟨fun a v => v = a, fun v => some v, fun _ _ h => by rw [h]⟩
def TurnEnd (h₀ : Heap) (L : Addr) (s : Shared) (d : Addr) (own : List (Addr × Obj)) (J : (Str → Option Value) → Obj → Prop) (s₂ : Shared) : Prop :=
  ∃ h' tk m₂ o₂ news', s₂ = { s with heap := h', toks := tk } ∧ Fr h₀ L h' m₂ ∧ News h₀ L h' news' ∧ (d, o₂) ∈ news' ∧ (∀ p ∈ own, p ∈ news') ∧ J m₂ o₂
def TurnPost (h₀ : Heap) (L : Addr) (s : Shared) (d : Addr) (own : List (Addr × Obj)) (J : (Str → Option Value) → Obj → Prop) (Q : Flow → Shared → Prop) (f : Flow) (s₂ : Shared) : Prop :=
  match f with
  | .ret v => Q (.ret v) s₂
  | .brk => Q .next s₂
  | _ => TurnEnd h₀ L s d own J s₂
theorem enum_turns {prog : Program} {w : World} {A : Around} {E : Value → Shared → Prop} {s : Shared} {env : Env} {h₀ : Heap} {m : Str → Option Value} {xi xc : Str} {body : List Stmt} {Q : Flow → Shared → Prop} {l d : Addr} {o : Obj} {items : Array Value} (hh : A.handled = none) (ht : h₀.IsTuple l items)
    (F : Fr h₀ env.locals s.heap m) (N : News h₀ env.locals s.heap [(d, o)]) (J : Nat → (Str → Option Value) → Obj → Prop) (h0 : J 0 m o)
    (step : ∀ (i : Nat) v t m₁ o₁ h tk own, items[i]? = some v → J i m₁ o₁ → OwnOff own [d] → Fr h₀ env.locals h (fun y => if y = xc then some v else if y = xi then some (.int i t) else m₁ y) → News h₀ env.locals h ((d, o₁) :: own) →
      wpAny (model prog w) A (execs body env) (TurnPost h₀ env.locals s d own (J (i + 1)) Q) E { s with heap := h, toks := tk })
    (done : ∀ h tk m₁ o₁, J items.size m₁ o₁ → Fr h₀ env.locals h m₁ → News h₀ env.locals h [(d, o₁)] → Q .next { s with heap := h, toks := tk }) :
    wpAny (model prog w) A (call (.type "enumerate") [.ref l]) (fun xv s₁ => wpAny (model prog w) A (pyIter xv) (fun it s₂ => PairAt3 prog w A h₀ env xi xc body Q E it s₂) E s₁) E s := by
  have hls : s.heap.IsTuple l items := ht.at fun o e => F.keep l o e
  obtain ⟨ol, hol, _⟩ := id ht
  have hlt : l < h₀.objs.size := Heap.lt_size hol
  have hLs : env.locals < s.heap.objs.size := F.ns.lt
  have hab : h₀.objs.size ≤ env.locals := F.above
  refine call_enum_tuple hls fun h' he hit hsz hk => ?_
  have F' : Fr h₀ env.locals h' m := ⟨F.ns.keeps hk, fun b o e => hk b o (F.keep b o e), F.above⟩
  have N' : News h₀ env.locals h' [(d, o)] := fun p hp => ⟨hk _ _ (N p hp).1, (N p hp).2⟩
  have hl2 : l < s.heap.objs.size := Nat.lt_trans (Nat.lt_of_lt_of_le hlt hab) hLs
  have src : PairSrc prog w A E h₀ env anyKind items.toList (.ref (s.heap.objs.size + 1)) { s with heap := h' } m [(d, o)] := by
    refine enumSrc (draws_tuple (A := A.in1) hh s.heap.objs.size l (Nat.ne_of_lt hl2) items) he ⟨hit, hls.at fun o e => hk l o e⟩ (Nat.succ_ne_self _) ?_ (by simp) ?_
      (Heap.get?_none_of_le (Nat.le_trans hab (Nat.le_of_lt (Nat.lt_succ_of_lt hLs)))) (Heap.get?_none_of_le (Nat.le_trans hab (Nat.le_of_lt hLs))) ?_ (by simp) (fun i x hx => ⟨x, by simpa using hx, rfl⟩) F' N'
    · intro hm
      rcases List.mem_cons.mp hm with e | hm
      · exact Nat.succ_ne_self _ e
      · exact Nat.ne_of_gt (Nat.lt_succ_of_lt hl2) (List.mem_singleton.mp hm)
    · intro hm
      rcases List.mem_cons.mp hm with e | hm
      · exact Nat.ne_of_lt (Nat.lt_succ_of_lt hLs) e
      · rcases List.mem_cons.mp hm with e | hm
        · exact Nat.ne_of_lt hLs e
        · exact Nat.ne_of_gt (Nat.lt_of_lt_of_le hlt hab) (List.mem_singleton.mp hm)
    · intro b hb q hq e
      have hq1 : q.1 < s.heap.objs.size := Heap.lt_size (N q hq).1
      rcases List.mem_cons.mp hb with e1 | hb
      · exact Nat.ne_of_gt (Nat.lt_succ_of_lt hq1) (e1.symm.trans e)
      · rcases List.mem_cons.mp hb with e1 | hb
        · exact Nat.ne_of_gt hq1 (e1.symm.trans e)
        · have e2 := List.mem_singleton.mp hb
          have hn := (N q hq).2.2
          rw [← e, e2, hol] at hn
          cases hn
  refine src xi xc body Q (fun i m₁ news₁ => ∃ o₁, news₁ = [(d, o₁)] ∧ J i m₁ o₁) ⟨o, rfl, h0⟩ ?_ ?_
  · rintro i a t v m₁ news₁ s₁ own ⟨h, tk, rfl⟩ hv hva ⟨o₁, rfl, hJ⟩ _ hoff F₁ N₁
    cases (hva : v = a)
    refine wpAny_mono (step i a t m₁ o₁ h tk own (by simpa using hv) hJ (fun p hp b hb => ?_) F₁ (fun p hp => N₁ p ?_)) (fun f s₂ q => ?_) fun _ _ e => e
    · rw [List.mem_singleton.mp hb]; exact hoff p hp _ (.head _)
    · rcases List.mem_cons.mp hp with rfl | hp
      · exact List.mem_append_right _ (.head _)
      · exact List.mem_append_left _ hp
    · have up : TurnEnd h₀ env.locals s d own (J (i + 1)) s₂ → LoopStep2 h₀ env.locals own [(d, o₁)] (fun m₁ news₁ => ∃ o₁, news₁ = [(d, o₁)] ∧ J (i + 1) m₁ o₁) { s with heap := h, toks := tk } .next s₂ := by
        rintro ⟨h', tk', m₂, o₂, news', rfl, F₂, N₂, hd, ho, hJ₂⟩
        refine ⟨rfl, h', tk', m₂, [(d, o₂)], rfl, F₂, fun p hp => ?_, rfl, o₂, rfl, hJ₂⟩
        rcases List.mem_append.mp hp with hp | hp
        · exact N₂ p (ho p hp)
        · rw [List.mem_singleton.mp hp]; exact N₂ _ hd
      cases f with
      | ret v => exact q
      | brk => exact q
      | next => exact up q
      | cont => exact up q
  · rintro h' tk m' news' F₁ N₁ _ ⟨o₁, rfl, hJ⟩
    exact done h' tk m' o₁ (by simpa using hJ) F₁ N₁
end Mine
end

section
open PySem PySem.W PySem.Calls PyProof.Rows
set_option maxRecDepth 100000
namespace Mine
/-! for a, b in a tuple of pairs of the text's top, with an else: turn by turn -/
def PEnd (h₀ : Heap) (L : Addr) (s : Shared) (I : Addr) (oI : Obj) (news : List (Addr × Obj)) (K : (Str → Option Value) → Prop) (s₃ : Shared) : Prop :=
  ∃ h' tk' m' news', s₃ = { s with heap := h', toks := tk' } ∧ Fr h₀ L h' m' ∧ News h₀ L h' news' ∧ (∀ p ∈ news, p ∈ news') ∧ (I, oI) ∈ news' ∧ K m'
def PPost (h₀ : Heap) (L : Addr) (s : Shared) (I : Addr) (oI : Obj) (news : List (Addr × Obj)) (K : (Str → Option Value) → Prop) (Q : Flow → Shared → Prop) (f : Flow) (s₃ : Shared) : Prop :=
  match f with
  | .ret v => Q (.ret v) s₃
  | .brk => Q .next s₃
  | _ => PEnd h₀ L s I oI news K s₃
def PRest (prog : Program) (w : World) (A : Around) (h₀ : Heap) (env : Env) (x1 x2 : Str) (body orelse : List Stmt) (Q : Flow → Shared → Prop) (s : Shared) (I : Addr) (news : List (Addr × Obj)) : List (Value × Value) → (Str → Option Value) → Prop
  | [], m => ∀ h tk, Fr h₀ env.locals h m → News h₀ env.locals h news → wpAny (model prog w) A (execs orelse env) Q (fun _ _ => False) { s with heap := h, toks := tk }
  | p :: r, m => ∀ oI h tk, Fr h₀ env.locals h (fun y => if y = x2 then some p.2 else if y = x1 then some p.1 else m y) → News h₀ env.locals h ((I, oI) :: news) →
      wpAny (model prog w) A (execs body env) (PPost h₀ env.locals s I oI news (PRest prog w A h₀ env x1 x2 body orelse Q s I news r) Q) (fun _ _ => False) { s with heap := h, toks := tk }
theorem letGo_tuple {prog : Program} {w : World} {A : Around} {E : Value → Shared → Prop} {s : Shared} {elts : List PySem.Expr} {x1 : Nat} {pos : Pos} {I t T : Addr} {i : Nat} {Q : Unit → Shared → Prop} (hit : s.heap.IsTupleIter I t i) (hQ : Q () s) :
    wpAny (model prog w) A (letOwnedTupleGo (.Tuple elts x1 pos) (.ref I) (.ref T)) Q E s := by
  obtain ⟨o, ho, hc, hd⟩ := hit
  unfold letOwnedTupleGo
  dsimp only
  refine wpAny_bind (wpAny_load ho ?_)
  rw [hc, hd]
  dsimp only
  rw [if_neg (fun h => absurd (Bool.and_eq_true_iff.mp h).1 (by decide))]
  exact wpAny_pure hQ
theorem for_pairs {prog : Program} {w : World} {A : Around} {s : Shared} {env : Env} {h₀ : Heap} {m : Str → Option Value} {x1 x2 : Str} {body orelse : List Stmt} {Q : Flow → Shared → Prop} {news : List (Addr × Obj)} {iter : PySem.Expr} {p1 p2 pt pos : Pos} {k : Nat} {T : Addr} (cs : List Addr) (vs : List (Value × Value))
    (hh : A.handled = none) (hx1 : env.kindOf x1 = some .local) (hx2 : env.kindOf x2 = some .local) (hp : (env.scope.kind == .class || (env.scope.kind == .module && env.locals != env.globals)) = false)
    (hT : h₀.IsTuple T (cs.map Value.ref).toArray) (hlen : vs.length = cs.length) (hcs : ∀ (j : Nat) c p, cs[j]? = some c → vs[j]? = some p → h₀.IsTuple c #[p.1, p.2])
    (F : Fr h₀ env.locals s.heap m) (N : News h₀ env.locals s.heap news) (he : wpAny (model prog w) A (eval iter env) (fun x s₁ => x = .ref T ∧ s₁ = s) (fun _ _ => False) s)
    (rest : ∀ I, (∀ p ∈ news, p.1 < I) → PRest prog w A h₀ env x1 x2 body orelse Q s I news vs m) (hs : ∀ x, foldedSetIterable iter env x = pure x) :
    wpAny (model prog w) A (exec (.For (.Tuple [.Name x1 p1, .Name x2 p2] k pt) iter body orelse pos) env) Q (fun _ _ => False) s := by
  refine wpAny_For (wpAny_mono he (fun x s₁ h₁ => ?_) fun _ _ e => e) hs
  obtain ⟨rfl, rfl⟩ := h₁
  have hTs : s₁.heap.IsTuple T (cs.map Value.ref).toArray := hT.at fun o e => F.keep T o e
  refine wpAny_pyIter_tuple hTs ?_
  generalize hI : s₁.heap.objs.size = I
  have hlt : ∀ p ∈ news, p.1 < I := fun p hp => hI ▸ Heap.lt_size (N p hp).1
  have hLI : env.locals ≠ I := hI ▸ Nat.ne_of_lt F.ns.lt
  have hold : ∀ b o, h₀.get? b = some o → b ≠ I := fun b o e q => by
    have := Heap.lt_size (F.keep b o e)
    rw [hI, q] at this
    exact Nat.lt_irrefl _ this
  have hnI : h₀.get? I = none := by
    cases hq : h₀.get? I with
    | none => rfl
    | some o => exact absurd rfl (hold I o hq)
  have R0 := rest I hlt
  refine codeAny_forLoop_any (fun n s' => ∃ i m' h' tk', s' = { s₁ with heap := h', toks := tk' } ∧ n = vs.length + 1 - i ∧ i ≤ vs.length ∧ h'.IsTupleIter I T i ∧ Fr h₀ env.locals h' m' ∧ News h₀ env.locals h' news ∧ PRest prog w A h₀ env x1 x2 body orelse Q s₁ I news (vs.drop i) m') ?_ (vs.length + 1) ?_
  · rintro n s' ⟨i, m', h', tk', rfl, rfl, hi, hit, F', N', hR⟩
    have hT' : h'.IsTuple T (cs.map Value.ref).toArray := hT.at fun o e => F'.keep T o e
    have up : ∀ h₁ : Heap, (∀ b o, b ≠ I → h'.get? b = some o → h₁.get? b = some o) → Fr h₀ env.locals h₁ m' ∧ News h₀ env.locals h₁ news := fun h₁ hk =>
      ⟨⟨F'.ns.at' fun o e => hk _ o hLI e, fun b o e => hk b o (hold b o e) (F'.keep b o e), F'.above⟩, fun p hp => ⟨hk _ _ (Nat.ne_of_lt (hlt p hp)) (N' p hp).1, (N' p hp).2⟩⟩
    by_cases hin : i < vs.length
    · have hic : i < cs.length := by omega
      refine wpAny_pyNext_tuple_item hit hT' (x := .ref cs[i]) (by simp [hic]) fun h₁ hit₁ hs₁ => ?_
      dsimp only
      refine letGo_tuple hit₁ ?_
      have hk₁ : ∀ b o, b ≠ I → h'.get? b = some o → h₁.get? b = some o := fun b o hb e => hs₁.extBut b o hb e
      obtain ⟨F₁, N₁⟩ := up h₁ hk₁
      have hc : h₁.IsTuple cs[i] #[vs[i].1, vs[i].2] := (hcs i cs[i] vs[i] (by simp [hic]) (by simp [hin])).at fun o e => F₁.keep _ o e
      refine wpAny_assign_Tuple hh hc rfl rfl fun h₃ hx₃ => ?_
      replace hx₃ : Heap.ExtBut h₁.objs.size h₁ h₃ := hx₃
      have up₃ : ∀ b o, h₁.get? b = some o → h₃.get? b = some o := fun b o x => hx₃ b o (Nat.ne_of_lt (Heap.lt_size x)) x
      obtain ⟨F₃, N₃⟩ := up h₃ fun b o hb e => up₃ b o (hk₁ b o hb e)
      have hit₃ : h₃.IsTupleIter I T (i + 1) := hit₁.at fun o e => up₃ _ o e
      show wpAny _ A (do holding [vs[i].2] (assign (.Name x1 p1) env vs[i].1); do holding [] (assign (.Name x2 p2) env vs[i].2); pure ()) _ _ _
      refine wpAny_bind (wpAny_holding (wpAny_assign_Name (wpAny_storeName_local hx1 F₃.ns (fun h₄ hn₄ hs₄ => ?_) hp)))
      replace hs₄ : Heap.SameBut env.locals h₃ h₄ := hs₄
      have F₄ := F₃.set hn₄ hs₄
      refine wpAny_bind (wpAny_holding (wpAny_assign_Name (wpAny_storeName_local hx2 F₄.ns (fun h₅ hn₅ hs₅ => wpAny_pure ?_) hp)))
      replace hs₅ : Heap.SameBut env.locals h₄ h₅ := hs₅
      have F₅ := F₄.set hn₅ hs₅
      have N₅ : News h₀ env.locals h₅ news := (N₃.set hs₄).set hs₅
      have hit₅ : h₅.IsTupleIter I T (i + 1) := hit₃.at fun o e => hs₅.extBut I o (Ne.symm hLI) (hs₄.extBut I o (Ne.symm hLI) e)
      obtain ⟨oI, hoI, hcI, hdI⟩ := id hit₅
      have hd : vs.drop i = vs[i] :: vs.drop (i + 1) := List.drop_eq_getElem_cons hin
      rw [hd] at hR
      refine wpAny_mono (hR oI h₅ _ F₅ fun p hp => ?_) (fun f s₃ q => ?_) fun _ _ e => e.elim
      · rcases List.mem_cons.mp hp with rfl | hp
        · exact ⟨hoI, Ne.symm hLI, hnI⟩
        · exact N₅ p hp
      · have fin : PEnd h₀ env.locals s₁ I oI news (PRest prog w A h₀ env x1 x2 body orelse Q s₁ I news (vs.drop (i + 1))) s₃ → ∃ n', n' < vs.length + 1 - i ∧ ∃ i m' h' tk', s₃ = { s₁ with heap := h', toks := tk' } ∧ n' = vs.length + 1 - i ∧ i ≤ vs.length ∧ h'.IsTupleIter I T i ∧ Fr h₀ env.locals h' m' ∧ News h₀ env.locals h' news ∧ PRest prog w A h₀ env x1 x2 body orelse Q s₁ I news (vs.drop i) m' := by
          rintro ⟨h6, tk6, m6, news6, rfl, F6, N6, hsub, hI6, hR6⟩
          exact ⟨vs.length + 1 - (i + 1), by omega, i + 1, m6, h6, tk6, rfl, rfl, hin, ⟨oI, (N6 _ hI6).1, hcI, hdI⟩, F6, fun p hp => N6 p (hsub p hp), hR6⟩
        cases f with
        | ret v => exact q
        | brk => exact q
        | next => exact fin q
        | cont => exact fin q
    · have hie : i = vs.length := by omega
      subst hie
      refine wpAny_pyNext_tuple_end hh hit hT' (by simp [hlen]) fun h₁ hx₁ => ?_
      dsimp only
      obtain ⟨F₁, N₁⟩ := up h₁ fun b o hb e => hx₁ b o hb e
      rw [List.drop_length] at hR
      exact wpAny_mono (hR h₁ _ F₁ N₁) (fun _ _ q => q) fun _ _ e => e.elim
  · refine ⟨0, m, _, s₁.toks, rfl, by omega, Nat.zero_le _, ⟨_, hI ▸ Heap.get?_push_size _ rfl, rfl, rfl⟩, F.push _, fun p hp => ⟨Heap.get?_push_of_some _ (N p hp).1, (N p hp).2⟩, ?_⟩
    simpa using R0
end Mine
end

section
open PySem PySem.W PySem.Calls PyProof.Rows
set_option maxRecDepth 100000
namespace Mine
/-- an entry of the table: bit, its token, sign, its token -/
abbrev Ent := Nat × Nat × Nat × Nat
def ent (e : Ent) : Value × Value := (.int (e.1 : Nat) e.2.1, .str ⟨#[e.2.2.1]⟩ e.2.2.2)
def signOf (M : Nat) : List Ent → Str
  | [] => ⟨#[45]⟩
  | e :: r => if M &&& e.1 = e.1 then ⟨#[e.2.2.1]⟩ else signOf M r
def typeOf (T : Nat) : List Ent → Str
  | [] => ⟨#[63]⟩
  | e :: r => if T = e.1 then ⟨#[e.2.2.1]⟩ else typeOf T r
def fmTab : List (Addr × List Addr × List Ent) :=
  [(36, [29, 30, 31, 32, 33, 34, 35], [(40960, 213, 108, 241), (49152, 215, 115, 242), (32768, 209, 45, 243), (24576, 207, 98, 244), (16384, 203, 100, 245), (8192, 205, 99, 246), (4096, 211, 112, 247)]),
   (38, [37], [(256, 223, 114, 248)]), (40, [39], [(128, 225, 119, 249)]), (44, [41, 42, 43], [(2112, 250, 115, 251), (2048, 217, 83, 252), (64, 227, 120, 253)]),
   (46, [45], [(32, 229, 114, 254)]), (48, [47], [(16, 231, 119, 255)]), (52, [49, 50, 51], [(1032, 256, 115, 257), (1024, 219, 83, 258), (8, 233, 120, 259)]),
   (54, [53], [(4, 235, 114, 260)]), (56, [55], [(2, 237, 119, 261)]), (60, [57, 58, 59], [(513, 262, 116, 263), (512, 221, 84, 264), (1, 239, 120, 265)])]
def fmSign (M i : Nat) (es : List Ent) : Str := if i = 0 then typeOf (M &&& 61440) es else signOf M es
def fmAll (M : Nat) : List Str := fmTab.mapIdx fun i e => fmSign M i e.2.2
/-- what stands at a place of the table -/
def RowAt (g : Heap) (T : Addr) (cs : List Addr) (es : List Ent) : Prop :=
  g.IsTuple T (cs.map Value.ref).toArray ∧ es.length = cs.length ∧ ∀ (j : Nat) c p, cs[j]? = some c → (es.map ent)[j]? = some p → g.IsTuple c #[p.1, p.2]
set_option maxHeartbeats 4000000 in
theorem row_at (w : World) (g : Heap) (X : (frag.heap_1 w.params).In g) (_h : lw = lw) : ∀ (i : Nat) e, fmTab[i]? = some e → RowAt g e.1 e.2.1 e.2.2 := by
  revert _h X
  k_fill
  intro X _ i e he
  rcases i with _ | _ | _ | _ | _ | _ | _ | _ | _ | _ | i
  all_goals first
    | (cases he; refine ⟨⟨_, X _ _ (by k_is), rfl, 0, rfl⟩, rfl, ?_⟩; intro j c p hc hv; rcases j with _ | _ | _ | _ | _ | _ | _ | j; all_goals first | (cases hc; cases hv; exact ⟨_, X _ _ (by k_is), rfl, 0, rfl⟩) | (exfalso; revert hc; simp))
    | (exfalso; revert he; simp [fmTab])
end Mine
end

section
open PySem PySem.W PySem.Calls PyProof.Rows
set_option maxRecDepth 100000
namespace Mine
theorem band (M b : Nat) : Builtin.bitAnd (M : Int) (b : Int) = ((M &&& b : Nat) : Int) := by
  unfold Builtin.bitAnd
  simp
theorem frame3 {m : Str → Option Value} {x x' x'' : Str} {a b c : Value} (h1 : m x = some a) (h2 : m x' = some b) (h3 : m x'' = some c) : m = fun y => if y = x then some a else if y = x' then some b else if y = x'' then some c else m y := by
  funext y
  by_cases e1 : y = x
  · rw [if_pos e1, e1, h1]
  · rw [if_neg e1]
    by_cases e2 : y = x'
    · rw [if_pos e2, e2, h2]
    · rw [if_neg e2]
      by_cases e3 : y = x''
      · rw [if_pos e3, e3, h3]
      · rw [if_neg e3]
def FmJ (M : Nat) (tm : Tok) (d : Addr) (i : Nat) (m : Str → Option Value) (o : Obj) : Prop :=
  m (Str.ofString "perm") = some (.ref d) ∧ m (Str.ofString "mode") = some (.int M tm) ∧ ∃ vs n, o = listOf vs.toArray n ∧ StrsAre vs ((fmAll M).take i)
theorem TurnEnd.put {h₀ : Heap} {L : Addr} {s : Shared} {d : Addr} {own news : List (Addr × Obj)} {M : Nat} {tm : Tok} {i : Nat} {h' : Heap} {tk n : Nat} {m' : Str → Option Value} {vs : List Value} {sg : Str} {t : Tok}
    (F : Fr h₀ L h' m') (N : News h₀ L h' news) (hd : (d, listOf (vs.toArray.push (.str sg t)) n) ∈ news) (ho : ∀ p ∈ own, p ∈ news) (h1 : m' (Str.ofString "perm") = some (.ref d)) (h2 : m' (Str.ofString "mode") = some (.int M tm))
    (hs : StrsAre vs ((fmAll M).take i)) (ht : (fmAll M).take (i + 1) = (fmAll M).take i ++ [sg]) : TurnEnd h₀ L s d own (FmJ M tm d (i + 1)) { s with heap := h', toks := tk } := by
  refine ⟨h', tk, m', _, news, rfl, F, N, hd, ho, h1, h2, vs ++ [.str sg t], n, by simp, ?_⟩
  rw [ht]
  exact StrsAre.append' hs (.cons _ _ .nil)
theorem fm_take {M i : Nat} {e : Addr × List Addr × List Ent} (h : fmTab[i]? = some e) : (fmAll M).take (i + 1) = (fmAll M).take i ++ [fmSign M i e.2.2] := by
  rw [List.take_add_one]
  congr 1
  have : (fmAll M)[i]? = some (fmSign M i e.2.2) := by
    unfold fmAll
    rw [List.getElem?_mapIdx, h]
    rfl
  rw [this]
  rfl
theorem sign_len (M : Nat) : ∀ es, (signOf M es).length = 1
  | [] => rfl
  | e :: r => by unfold signOf; split; rfl; exact sign_len M r
theorem type_len (M : Nat) : ∀ es, (typeOf M es).length = 1
  | [] => rfl
  | e :: r => by unfold typeOf; split; rfl; exact type_len M r
theorem fm_len (M i : Nat) (es : List Ent) : (fmSign M i es).length = 1 := by
  unfold fmSign
  split
  · exact type_len _ _
  · exact sign_len _ _
theorem fm_sum (M : Nat) : ((fmAll M).map (·.length)).sum + (fmAll M).length * (Str.ofString "").length ≤ 16777216 := by
  have h : (fmAll M).map (·.length) = [1, 1, 1, 1, 1, 1, 1, 1, 1, 1] := by
    simp only [fmAll, fmTab, List.mapIdx_cons, List.mapIdx_nil, List.map_cons, List.map_nil, fm_len]
  rw [h]
  show _ + 10 * 0 ≤ _
  decide
local macro_rules | `(tactic| walk_at "go") => `(tactic| repeat' ((fail_if_success (with_reducible show TurnEnd _ _ _ _ _ _ _)); (fail_if_success (with_reducible show Fin _ _ _ _ _)); (fail_if_success (with_reducible show PEnd _ _ _ _ _ _ _ _)); (first | (k_unfold; (try dsimp only)) | (dsimp only; walk1) | walk1)))
local macro_rules | `(tactic| walk_at "PPost") => `(tactic| (dsimp only [PPost]))
local macro_rules | `(tactic| walk_at "TurnPost") => `(tactic| (dsimp only [TurnPost]))
local macro_rules | `(tactic| walk_at "call builtin:list.append") => `(tactic| (k_here; (try dsimp only [List.cons_append, List.nil_append]); k_dflt (refine' append_K ?k1 ?k2 ?k3 ?_ ?z; (case k1 => k_asm); (case k2 => k_asm); (case k3 => k_upd); (case z => size_fits); k_whole); intro h' F' N'; (try k_sweep)))
set_option maxHeartbeats 4000000 in
theorem fm_tells (w : World) (M : Nat) (tm : Tok) (hM : M < 65536) : Tells w 68 [.int M tm] (fun _ => True) (fun v own => own = [] ∧ ∃ t, v = .str (Txt.join (Str.ofString "") (fmAll M)) t) := by
  (try (unfold Tells; k_fill; fail ""))
  refine tells_of (binds := [(Str.ofString "mode", .int M tm)]) (by k_is) (by k_is) (fun s => BindsTo.of_eq rfl) (locs rfl) rfl rfl rfl (by decide) ?_
  intro loose mean mg mb env base g L' h₁ tk s F N B X T hke hin
  rw [look1] at F
  w_on
  repeat' ((fail_if_success (with_reducible show wpAny _ _ (call _ _) _ _ _)); (first | (k_unfold; (try dsimp only)) | (dsimp only; walk1) | walk1))
  rename_i d hh0 hl1 hh1 F' N'
  have ht : g.IsTuple 61 (fmTab.map fun e => Value.ref e.1).toArray := ⟨_, X _ _ (by k_is), rfl, 0, rfl⟩
  refine enum_turns rfl ht F' N' (FmJ M tm d) ⟨rfl, rfl, [], 0, rfl, .nil⟩ ?_ ?_
  · intro i v t m₁ o₁ h tk own hv hJ hoff F N
    obtain ⟨j1, j2, vs, n, rfl, hs⟩ := hJ
    clear F' N' ht
    have kMark := kstMark
    obtain ⟨e, he, rfl⟩ : ∃ e, fmTab[i]? = some e ∧ v = .ref e.1 := by
      simp only [List.getElem?_toArray, List.getElem?_map, Option.map_eq_some_iff] at hv
      obtain ⟨e, h1, h2⟩ := hv
      exact ⟨e, h1, h2.symm⟩
    have hi10 : i < 10 := (List.getElem?_eq_some_iff.mp he).1
    have hR := row_at w g X rfl i e he
    have hvl := hs.length
    rw [List.length_take] at hvl
    have htk := fm_take (M := M) he
    obtain ⟨T, cs, es⟩ := e
    obtain ⟨hT, hlen, hcs⟩ := hR
    dsimp only at hT hlen hcs htk
    refine wpAny_execs_cons ?_
    refine for_pairs cs (es.map ent) rfl rfl rfl rfl hT (by simpa using hlen) hcs F N ?he ?_ (fun _ => rfl)
    case he => walk_at "go"; (first | done | exact ⟨rfl, rfl⟩)
    intro I hI
    have hI' : @LT.lt Nat _ d I := hI _ (.head _)
    clear hI F N hcs hT hlen he hv
    generalize hsg : fmSign M i es = sg at htk
    have hm0 : (fun y => if y = Str.ofString "table" then some (Value.ref T) else if y = Str.ofString "index" then some (Value.int (i : Nat) t) else m₁ y) (Str.ofString "index") = some (.int (i : Nat) t) := rfl
    have hm1 : (fun y => if y = Str.ofString "table" then some (Value.ref T) else if y = Str.ofString "index" then some (Value.int (i : Nat) t) else m₁ y) (Str.ofString "perm") = some (.ref d) := j1
    have hm2 : (fun y => if y = Str.ofString "table" then some (Value.ref T) else if y = Str.ofString "index" then some (Value.int (i : Nat) t) else m₁ y) (Str.ofString "mode") = some (.int M tm) := j2
    revert hm0 hm1 hm2
    generalize (fun y => if y = Str.ofString "table" then some (Value.ref T) else if y = Str.ofString "index" then some (Value.int (i : Nat) t) else m₁ y) = m
    clear j1 j2
    have hb0 : Builtin.bitAnd (M : Int) 61440 = ((M &&& 61440 : Nat) : Int) := band M 61440
    induction es generalizing m with
    | nil =>
      intro hm0 hm1 hm2 h tk F N
      rw [frame3 hm0 hm1 hm2] at F
      walk_at "go"
      · refine TurnEnd.put (by assumption) (by assumption) (by k_memK) (fun p hp => .tail _ hp) (by with_unfolding_all rfl) (by with_unfolding_all rfl) hs ?_
        rw [htk, ← hsg, fmSign, if_pos (by omega)]
        rfl
      · refine TurnEnd.put (by assumption) (by assumption) (by k_memK) (fun p hp => .tail _ hp) (by with_unfolding_all rfl) (by with_unfolding_all rfl) hs ?_
        rw [htk, ← hsg, fmSign, if_neg (by omega)]
        rfl
    | cons e r ih =>
      intro hm0 hm1 hm2 oI h tk F N
      have em := frame3 hm0 hm1 hm2
      rw [em] at F
      dsimp only [ent] at F
      have hb := band M e.1
      walk_at "go"
      · refine TurnEnd.put (by assumption) (by assumption) (by k_memK) (fun p hp => .tail _ (.tail _ hp)) (by with_unfolding_all rfl) (by with_unfolding_all rfl) hs ?_
        have hx := ‹Builtin.bitAnd (M : Int) 61440 = _›
        rw [htk, ← hsg, fmSign, if_pos (by omega), typeOf, if_pos (by omega)]
      · have hx := ‹Builtin.bitAnd (M : Int) 61440 ≠ _›
        refine ⟨_, _, _, _, rfl, by assumption, by assumption, fun p hp => .tail _ hp, .head _, ?_⟩
        refine ih ?_ _ (by with_unfolding_all rfl) (by with_unfolding_all rfl) (by with_unfolding_all rfl)
        rw [← hsg, fmSign, fmSign, if_pos (by omega), if_pos (by omega), typeOf, if_neg (by omega)]
      · refine TurnEnd.put (by assumption) (by assumption) (by k_memK) (fun p hp => .tail _ (.tail _ hp)) (by with_unfolding_all rfl) (by with_unfolding_all rfl) hs ?_
        have hx := ‹Builtin.bitAnd (M : Int) _ = _›
        rw [htk, ← hsg, fmSign, if_neg (by omega), signOf, if_pos (by omega)]
      · have hx := ‹Builtin.bitAnd (M : Int) _ ≠ _›
        refine ⟨_, _, _, _, rfl, by assumption, by assumption, fun p hp => .tail _ hp, .head _, ?_⟩
        refine ih ?_ _ (by with_unfolding_all rfl) (by with_unfolding_all rfl) (by with_unfolding_all rfl)
        rw [← hsg, fmSign, fmSign, if_neg (by omega), if_neg (by omega), signOf, if_neg (by omega)]
  · intro h tk m₁ o₁ hJ F N
    obtain ⟨j1, j2, vs, n, rfl, hs⟩ := hJ
    have kMark := kstMark
    have hvl := hs.length
    have e10 : (fmAll M).take (fmTab.map fun e => Value.ref e.1).toArray.size = fmAll M := rfl
    rw [e10] at hs hvl
    rw [frame3 j1 j2 j2] at F
    dsimp only
    walk_at "go"
    refine join_list ⟨_, (N _ (.head _)).1, rfl, n, rfl⟩ hs (fm_sum M) ?_
    intro t' k
    exact Fin.intro (own := []) F N (fun p hp => nomatch hp) ⟨rfl, _, rfl⟩
end Mine
end

section
open PySem PySem.W PySem.Calls PyProof.Rows
set_option maxRecDepth 100000
namespace Mine
/-- what `find` answers, by a fact -/
def FindIs (x y : Str) (v : Nat) : Prop := Txt.find x y = (v : Int)
theorem find_known {prog : Program} {w : World} {A : Around} {E : Value → Shared → Prop} {s : Shared} {x y : Str} {v : Nat} {t u : Tok} {Q : Value → Shared → Prop} (h : FindIs x y v) (hQ : ∀ t' k, Q (.int (v : Int) t') { s with toks := k }) :
    wpAny (model prog w) A (call (.builtin "str.find") [.str x t, .str y u]) Q E s := by
  refine SC.find ?_
  rw [h]
  exact hQ _ _
theorem pow_lit {prog : Program} {w : World} {A : Around} {E : Value → Shared → Prop} {s : Shared} {a n : Int} {t u : Tok} {Q : Value → Shared → Prop} (v : Int) (hn : 0 ≤ n) (hsz : (Builtin.Int.intBits a : Int) * n ≤ 2 ^ 27) (e : a ^ n.toNat = v) (h : Q (.int v s.toks) { s with toks := s.toks + 1 }) :
    wpAny (model prog w) A (binaryOp .Pow (.int a t) (.int n u)) Q E s := by
  subst e
  exact pow_int hn hsz h
local macro_rules | `(tactic| walk_at "binaryOp Pow int int") => `(tactic| first
  | (with_reducible refine pow_lit 64 (by decide) (by decide) (by decide) ?_)
  | (with_reducible refine pow_lit 8 (by decide) (by decide) (by decide) ?_)
  | (with_reducible refine pow_lit 1 (by decide) (by decide) (by decide) ?_)
  | (with_reducible refine pow_lit 2048 (by decide) (by decide) (by decide) ?_)
  | (with_reducible refine pow_lit 1024 (by decide) (by decide) (by decide) ?_)
  | (with_reducible refine pow_lit 512 (by decide) (by decide) (by decide) ?_))
local macro_rules | `(tactic| walk_at "go") => `(tactic| repeat' ((fail_if_success (with_reducible show Fin _ _ _ _ _)); (first | (k_unfold; (try dsimp only)) | (dsimp only; walk1) | walk1)))
local macro_rules | `(tactic| walk_at "call builtin:str.find") => `(tactic| ((try dsimp only [List.cons_append, List.nil_append]); k_dflt (refine find_known (by assumption) ?_); intro t' k'))
def rdNum (r0 w0 l0 r1 w1 l1 r2 w2 l2 : Nat) : Nat := (4 * r0 + 2 * w0 + l0 % 2) * 64 + l0 / 2 * 2048 + (4 * r1 + 2 * w1 + l1 % 2) * 8 + l1 / 2 * 1024 + (4 * r2 + 2 * w2 + l2 % 2) + l2 / 2 * 512
theorem read_eq (r0 w0 l0 r1 w1 l1 r2 w2 l2 : Nat) : (0 + (4 * [(r0 : Int), (w0 : Int), (l0 : Int)].getD (Int.toNat 0) 0 + 2 * [(r0 : Int), (w0 : Int), (l0 : Int)].getD (Int.toNat 1) 0 + (l0 : Int).fmod 2) * 64 + (l0 : Int).fdiv 2 * 2048 +
    (4 * [(r1 : Int), (w1 : Int), (l1 : Int)].getD (Int.toNat 0) 0 + 2 * [(r1 : Int), (w1 : Int), (l1 : Int)].getD (Int.toNat 1) 0 + (l1 : Int).fmod 2) * 8 + (l1 : Int).fdiv 2 * 1024 +
    (4 * [(r2 : Int), (w2 : Int), (l2 : Int)].getD (Int.toNat 0) 0 + 2 * [(r2 : Int), (w2 : Int), (l2 : Int)].getD (Int.toNat 1) 0 + (l2 : Int).fmod 2) * 1 + (l2 : Int).fdiv 2 * 512) = ((rdNum r0 w0 l0 r1 w1 l1 r2 w2 l2 : Nat) : Int) := by
  have g0 : ∀ a b c : Int, [a, b, c].getD (Int.toNat 0) 0 = a := fun _ _ _ => rfl
  have g1 : ∀ a b c : Int, [a, b, c].getD (Int.toNat 1) 0 = b := fun _ _ _ => rfl
  simp only [g0, g1]
  rw [Int.fmod_eq_emod_of_nonneg _ (by decide), Int.fmod_eq_emod_of_nonneg _ (by decide), Int.fmod_eq_emod_of_nonneg _ (by decide), Int.fdiv_eq_ediv_of_nonneg _ (by decide), Int.fdiv_eq_ediv_of_nonneg _ (by decide), Int.fdiv_eq_ediv_of_nonneg _ (by decide)]
  unfold rdNum
  omega
set_option maxHeartbeats 4000000 in
theorem read_tells (w : World) (row : Str) (tr : Tok) (hlen : row.length = 10) (r0 w0 l0 r1 w1 l1 r2 w2 l2 : Nat)
    (hr0 : FindIs (Str.ofString "-r") (Txt.item row 1) r0) (hw0 : FindIs (Str.ofString "-w") (Txt.item row 2) w0) (hl0 : FindIs (Str.ofString "-xSs") (Txt.item row 3) l0)
    (hr1 : FindIs (Str.ofString "-r") (Txt.item row 4) r1) (hw1 : FindIs (Str.ofString "-w") (Txt.item row 5) w1) (hl1 : FindIs (Str.ofString "-xSs") (Txt.item row 6) l1)
    (hr2 : FindIs (Str.ofString "-r") (Txt.item row 7) r2) (hw2 : FindIs (Str.ofString "-w") (Txt.item row 8) w2) (hl2 : FindIs (Str.ofString "-xTt") (Txt.item row 9) l2)
    (b : r0 ≤ 1 ∧ w0 ≤ 1 ∧ l0 ≤ 3 ∧ r1 ≤ 1 ∧ w1 ≤ 1 ∧ l1 ≤ 3 ∧ r2 ≤ 1 ∧ w2 ≤ 1 ∧ l2 ≤ 3) :
    Tells w 120 [.str row tr] (fun _ => True) (fun v own => own = [] ∧ ∃ t, v = .int (rdNum r0 w0 l0 r1 w1 l1 r2 w2 l2 : Nat) t) := by
  (try (unfold Tells; k_fill; fail ""))
  refine tells_of (binds := [(Str.ofString "row", .str row tr)]) (by k_is) (by k_is) (fun s => BindsTo.of_eq rfl) (locs rfl) rfl rfl rfl (by decide) ?_
  intro loose mean mg mb env base g L' h₁ tk s F N B X T hke hin
  rw [look1] at F
  w_on
  walk_at "go"
  (try dsimp only)
  exact Fin.intro (own := []) (by assumption) (by assumption) (fun p hp => nomatch hp) ⟨rfl, _, congrArg (fun z => Value.int z _) (read_eq r0 w0 l0 r1 w1 l1 r2 w2 l2)⟩
end Mine
end

section
open PySem PySem.W PySem.Calls PyProof.Rows
set_option maxRecDepth 100000
namespace Mine
local macro_rules | `(tactic| walk_at "go") => `(tactic| repeat' ((fail_if_success (with_reducible show Fin _ _ _ _ _)); (first | (k_unfold; (try dsimp only)) | (dsimp only; walk1) | walk1)))
def wordOf (ss : List Str) (k : Nat) : Str := if k = 0 then Str.ofString "" else if k = 1 then Str.ofString "x" else if k = 2 then Str.ofString "7" else ss.getD (k - 7) Str.empty
set_option maxHeartbeats 4000000 in
theorem word_tells (w : World) (k : Nat) (tk₀ : Tok) (l : Addr) (vs : List Value) (ss : List Str) (hs : StrsAre vs ss) (hl48 : ss.length = 48) (hk : k < 3 ∨ (6 < k ∧ k < 55)) :
    Tells w 127 [.int k tk₀, .ref l] (fun h => h.IsList l vs.toArray) (fun v own => own = [] ∧ ∃ t, v = .str (wordOf ss k) t) := by
  (try (unfold Tells; k_fill; fail ""))
  refine tells_of (binds := [(Str.ofString "kind", .int k tk₀), (Str.ofString "signs", .ref l)]) (by k_is) (by k_is) (fun s => BindsTo.of_eq rfl) (locs rfl) rfl rfl rfl (by decide) ?_
  intro loose mean mg mb env base g L' h₁ tk s F N B X T hke hin
  w_on
  walk_at "go"
  · exact Fin.intro (own := []) (by assumption) (by assumption) (fun p hp => nomatch hp) ⟨rfl, _, congrArg (fun z => Value.str z _) (by rw [show k = 0 by omega]; rfl)⟩
  · exact Fin.intro (own := []) (by assumption) (by assumption) (fun p hp => nomatch hp) ⟨rfl, _, congrArg (fun z => Value.str z _) (by rw [show k = 1 by omega]; rfl)⟩
  · exact Fin.intro (own := []) (by assumption) (by assumption) (fun p hp => nomatch hp) ⟨rfl, _, congrArg (fun z => Value.str z _) (by rw [show k = 2 by omega]; rfl)⟩
  · (try dsimp only)
    refine Fin.intro (own := []) (by assumption) (by assumption) (fun p hp => nomatch hp) ⟨rfl, _, congrArg (fun z => Value.str z _) ?_⟩
    unfold wordOf
    rw [if_neg (by omega), if_neg (by omega), if_neg (by omega), show ((k : Int) - 7).toNat = k - 7 by omega]
end Mine
end

section
open PySem PySem.W PySem.Calls PyProof.Rows
set_option maxRecDepth 100000
namespace Mine
theorem join10 (c0 c1 c2 c3 c4 c5 c6 c7 c8 c9 : Nat) : Txt.join (Str.ofString "") [⟨#[c0]⟩, ⟨#[c1]⟩, ⟨#[c2]⟩, ⟨#[c3]⟩, ⟨#[c4]⟩, ⟨#[c5]⟩, ⟨#[c6]⟩, ⟨#[c7]⟩, ⟨#[c8]⟩, ⟨#[c9]⟩] = ⟨#[c0, c1, c2, c3, c4, c5, c6, c7, c8, c9]⟩ := rfl
theorem and_low (M b : Nat) (hb : b < 4096) : M &&& b = (M % 4096) &&& b := by
  have h1 : b = b &&& 4095 := by
    have := Nat.and_two_pow_sub_one_eq_mod b 12
    rw [show 2 ^ 12 - 1 = 4095 from rfl] at this
    rw [this, Nat.mod_eq_of_lt hb]
  have h2 : M &&& 4095 = M % 4096 := Nat.and_two_pow_sub_one_eq_mod M 12
  rw [← h2, Nat.and_assoc, Nat.and_comm 4095 b, ← h1]
theorem and_high (q m : Nat) (hq : q < 16) (hm : m < 4096) : (4096 * q + m) &&& 61440 = 4096 * q := by
  have e : (4096 * q + m) &&& 61440 = (((4096 * q + m) / 4096) &&& 15) * 4096 := by
    rw [show (61440 : Nat) = 15 * 2 ^ 12 from rfl, show (4096 : Nat) = 2 ^ 12 from rfl]
    apply Nat.eq_of_testBit_eq
    intro i
    rw [Nat.testBit_and, ← Nat.shiftLeft_eq, ← Nat.shiftLeft_eq, Nat.testBit_shiftLeft, Nat.testBit_shiftLeft, Nat.testBit_and, Nat.testBit_div_two_pow]
    by_cases h : 12 ≤ i
    · simp only [ge_iff_le, h, decide_true, Bool.true_and]
      rw [show i - 12 + 12 = i by omega]
    · simp [h]
  rw [e, show (4096 * q + m) / 4096 = q by omega, show q &&& 15 = q % 16 from Nat.and_two_pow_sub_one_eq_mod q 4, Nat.mod_eq_of_lt hq]
  omega
theorem and_all (q m : Nat) (hm : m < 4096) : (4096 * q + m) &&& 4095 = m := by
  rw [show (4096 * q + m) &&& 4095 = (4096 * q + m) % 4096 from Nat.and_two_pow_sub_one_eq_mod _ 12]
  omega
end Mine
namespace Mine
def fig1 (m b : Nat) : Nat := if m &&& b = b then 1 else 0
def fig3 (m a b c : Nat) : Nat := if m &&& a = a then 3 else if m &&& b = b then 2 else if m &&& c = c then 1 else 0
def rdOf (m : Nat) : Nat := rdNum (fig1 m 256) (fig1 m 128) (fig3 m 2112 2048 64) (fig1 m 32) (fig1 m 16) (fig3 m 1032 1024 8) (fig1 m 4) (fig1 m 2) (fig3 m 513 512 1)
def fb1 (m b : Nat) : Nat := bif Nat.beq (Nat.land m b) b then 1 else 0
def fb3 (m a b c : Nat) : Nat := bif Nat.beq (Nat.land m a) a then 3 else bif Nat.beq (Nat.land m b) b then 2 else bif Nat.beq (Nat.land m c) c then 1 else 0
theorem beq_land (m b : Nat) : Nat.beq (Nat.land m b) b = decide (m &&& b = b) := by
  by_cases h : m &&& b = b
  · rw [decide_eq_true h]; exact Nat.beq_eq.mpr h
  · rw [decide_eq_false h, Bool.eq_false_iff]; exact fun q => h (Nat.eq_of_beq_eq_true q)
theorem fb1_eq (m b : Nat) : fb1 m b = fig1 m b := by
  unfold fb1 fig1
  rw [beq_land]
  by_cases h : m &&& b = b <;> simp [h]
theorem fb3_eq (m a b c : Nat) : fb3 m a b c = fig3 m a b c := by
  unfold fb3 fig3
  rw [beq_land, beq_land, beq_land]
  by_cases h : m &&& a = a
  · simp [h]
  · by_cases h2 : m &&& b = b
    · simp [h, h2]
    · by_cases h3 : m &&& c = c <;> simp [h, h2, h3]
def rdB (m : Nat) : Bool := Nat.beq (rdNum (fb1 m 256) (fb1 m 128) (fb3 m 2112 2048 64) (fb1 m 32) (fb1 m 16) (fb3 m 1032 1024 8) (fb1 m 4) (fb1 m 2) (fb3 m 513 512 1)) m
def upTo (n : Nat) : Bool := Nat.rec true (fun k ih => bif rdB k then ih else false) n
theorem upTo_ok : ∀ n, upTo n = true → ∀ m, m < n → rdB m = true
  | 0, _, m, h => absurd h (Nat.not_lt_zero m)
  | n + 1, h, m, hm => by
    have e : upTo (n + 1) = (bif rdB n then upTo n else false) := rfl
    rw [e] at h
    cases hb : rdB n with
    | false => rw [hb] at h; exact absurd h Bool.false_ne_true
    | true =>
      rw [hb] at h
      rcases Nat.lt_or_eq_of_le (Nat.le_of_lt_succ hm) with q | q
      · exact upTo_ok n h m q
      · rw [q]; exact hb
theorem upTo_all : upTo 4096 = true := by decide +kernel
theorem rd_all (m : Nat) (h : m < 4096) : rdOf m = m := by
  have := Nat.eq_of_beq_eq_true (upTo_ok 4096 upTo_all m h)
  rw [fb1_eq, fb1_eq, fb3_eq, fb1_eq, fb1_eq, fb3_eq, fb1_eq, fb1_eq, fb3_eq] at this
  exact this
def c1 (m b c : Nat) : Nat := if m &&& b = b then c else 45
def c3 (m a b c x y z : Nat) : Nat := if m &&& a = a then x else if m &&& b = b then y else if m &&& c = c then z else 45
def tyC (T : Nat) : Nat := if T = 40960 then 108 else if T = 49152 then 115 else if T = 32768 then 45 else if T = 24576 then 98 else if T = 16384 then 100 else if T = 8192 then 99 else if T = 4096 then 112 else 63
def rowOf (q m : Nat) : Str := ⟨#[tyC (4096 * q), c1 m 256 114, c1 m 128 119, c3 m 2112 2048 64 115 83 120, c1 m 32 114, c1 m 16 119, c3 m 1032 1024 8 115 83 120, c1 m 4 114, c1 m 2 119, c3 m 513 512 1 116 84 120]⟩
theorem sign1 (M q m b tb c tc : Nat) (hM : M = 4096 * q + m) (hm : m < 4096) (hb : b < 4096) : signOf M [(b, tb, c, tc)] = ⟨#[c1 m b c]⟩ := by
  have e : M &&& b = m &&& b := by rw [and_low M b hb, show M % 4096 = m by omega]
  simp only [signOf, c1, e]
  split <;> rfl
theorem sign3 (M q m a ta x tx b tb y ty c tc z tz : Nat) (hM : M = 4096 * q + m) (hm : m < 4096) (ha : a < 4096) (hb : b < 4096) (hc : c < 4096) : signOf M [(a, ta, x, tx), (b, tb, y, ty), (c, tc, z, tz)] = ⟨#[c3 m a b c x y z]⟩ := by
  have e : ∀ b, b < 4096 → M &&& b = m &&& b := fun b hb => by rw [and_low M b hb, show M % 4096 = m by omega]
  simp only [signOf, c3, e a ha, e b hb, e c hc]
  (repeat' split) <;> rfl
theorem row_eq (M q m : Nat) (hM : M = 4096 * q + m) (hq : q < 16) (hm : m < 4096) : Txt.join (Str.ofString "") (fmAll M) = rowOf q m := by
  have h0 : fmSign M 0 [(40960, 213, 108, 241), (49152, 215, 115, 242), (32768, 209, 45, 243), (24576, 207, 98, 244), (16384, 203, 100, 245), (8192, 205, 99, 246), (4096, 211, 112, 247)] = ⟨#[tyC (4096 * q)]⟩ := by
    rw [fmSign, if_pos rfl, hM, and_high q m hq hm]
    simp only [typeOf, tyC]
    (repeat' split) <;> rfl
  have hs : ∀ i es, i ≠ 0 → fmSign M i es = signOf M es := fun i es hi => by rw [fmSign, if_neg hi]
  have e : fmAll M = [⟨#[tyC (4096 * q)]⟩, ⟨#[c1 m 256 114]⟩, ⟨#[c1 m 128 119]⟩, ⟨#[c3 m 2112 2048 64 115 83 120]⟩, ⟨#[c1 m 32 114]⟩, ⟨#[c1 m 16 119]⟩, ⟨#[c3 m 1032 1024 8 115 83 120]⟩, ⟨#[c1 m 4 114]⟩, ⟨#[c1 m 2 119]⟩, ⟨#[c3 m 513 512 1 116 84 120]⟩] := by
    show [fmSign M 0 _, fmSign M 1 _, fmSign M 2 _, fmSign M 3 _, fmSign M 4 _, fmSign M 5 _, fmSign M 6 _, fmSign M 7 _, fmSign M 8 _, fmSign M 9 _] = _
    rw [h0, hs 1 _ (by decide), hs 2 _ (by decide), hs 3 _ (by decide), hs 4 _ (by decide), hs 5 _ (by decide), hs 6 _ (by decide), hs 7 _ (by decide), hs 8 _ (by decide), hs 9 _ (by decide)]
    rw [sign1 M q m _ _ _ _ hM hm (by decide), sign1 M q m _ _ _ _ hM hm (by decide), sign3 M q m _ _ _ _ _ _ _ _ _ _ _ _ hM hm (by decide) (by decide) (by decide), sign1 M q m _ _ _ _ hM hm (by decide), sign1 M q m _ _ _ _ hM hm (by decide), sign3 M q m _ _ _ _ _ _ _ _ _ _ _ _ hM hm (by decide) (by decide) (by decide), sign1 M q m _ _ _ _ hM hm (by decide), sign1 M q m _ _ _ _ hM hm (by decide), sign3 M q m _ _ _ _ _ _ _ _ _ _ _ _ hM hm (by decide) (by decide) (by decide)]
  rw [e, join10]
  rfl
theorem find1 (x : Str) (m b c : Nat) (h0 : FindIs x ⟨#[45]⟩ 0) (h1 : FindIs x ⟨#[c]⟩ 1) : FindIs x ⟨#[c1 m b c]⟩ (fig1 m b) := by
  unfold c1 fig1
  split
  · exact h1
  · exact h0
theorem find3 (x : Str) (m a b c p y z : Nat) (h0 : FindIs x ⟨#[45]⟩ 0) (h1 : FindIs x ⟨#[z]⟩ 1) (h2 : FindIs x ⟨#[y]⟩ 2) (h3 : FindIs x ⟨#[p]⟩ 3) : FindIs x ⟨#[c3 m a b c p y z]⟩ (fig3 m a b c) := by
  unfold c3 fig3
  (repeat' split) <;> assumption
theorem row_finds (q m : Nat) :
    FindIs (Str.ofString "-r") (Txt.item (rowOf q m) 1) (fig1 m 256) ∧ FindIs (Str.ofString "-w") (Txt.item (rowOf q m) 2) (fig1 m 128) ∧ FindIs (Str.ofString "-xSs") (Txt.item (rowOf q m) 3) (fig3 m 2112 2048 64) ∧
    FindIs (Str.ofString "-r") (Txt.item (rowOf q m) 4) (fig1 m 32) ∧ FindIs (Str.ofString "-w") (Txt.item (rowOf q m) 5) (fig1 m 16) ∧ FindIs (Str.ofString "-xSs") (Txt.item (rowOf q m) 6) (fig3 m 1032 1024 8) ∧
    FindIs (Str.ofString "-r") (Txt.item (rowOf q m) 7) (fig1 m 4) ∧ FindIs (Str.ofString "-w") (Txt.item (rowOf q m) 8) (fig1 m 2) ∧ FindIs (Str.ofString "-xTt") (Txt.item (rowOf q m) 9) (fig3 m 513 512 1) := by
  have r0 : FindIs (Str.ofString "-r") ⟨#[45]⟩ 0 := by unfold FindIs; decide +kernel
  have r1 : FindIs (Str.ofString "-r") ⟨#[114]⟩ 1 := by unfold FindIs; decide +kernel
  have w0 : FindIs (Str.ofString "-w") ⟨#[45]⟩ 0 := by unfold FindIs; decide +kernel
  have w1 : FindIs (Str.ofString "-w") ⟨#[119]⟩ 1 := by unfold FindIs; decide +kernel
  have l0 : FindIs (Str.ofString "-xSs") ⟨#[45]⟩ 0 := by unfold FindIs; decide +kernel
  have l1 : FindIs (Str.ofString "-xSs") ⟨#[120]⟩ 1 := by unfold FindIs; decide +kernel
  have l2 : FindIs (Str.ofString "-xSs") ⟨#[83]⟩ 2 := by unfold FindIs; decide +kernel
  have l3 : FindIs (Str.ofString "-xSs") ⟨#[115]⟩ 3 := by unfold FindIs; decide +kernel
  have t0 : FindIs (Str.ofString "-xTt") ⟨#[45]⟩ 0 := by unfold FindIs; decide +kernel
  have t1 : FindIs (Str.ofString "-xTt") ⟨#[120]⟩ 1 := by unfold FindIs; decide +kernel
  have t2 : FindIs (Str.ofString "-xTt") ⟨#[84]⟩ 2 := by unfold FindIs; decide +kernel
  have t3 : FindIs (Str.ofString "-xTt") ⟨#[116]⟩ 3 := by unfold FindIs; decide +kernel
  exact ⟨find1 _ m _ _ r0 r1, find1 _ m _ _ w0 w1, find3 _ m _ _ _ _ _ _ l0 l1 l2 l3, find1 _ m _ _ r0 r1, find1 _ m _ _ w0 w1, find3 _ m _ _ _ _ _ _ l0 l1 l2 l3, find1 _ m _ _ r0 r1, find1 _ m _ _ w0 w1, find3 _ m _ _ _ _ _ _ t0 t1 t2 t3⟩
theorem fig_le (m b : Nat) : fig1 m b ≤ 1 := by unfold fig1; split <;> omega
theorem fig3_le (m a b c : Nat) : fig3 m a b c ≤ 3 := by unfold fig3; (repeat' split) <;> omega
theorem row_type : ∀ q, q < 16 → (⟨#[tyC (4096 * q)]⟩ : Str) = Txt.item (Str.ofString "?pc?d?b?-?l?s???") (q : Nat) := by decide +kernel
theorem row_len (q m : Nat) : (rowOf q m).length = 10 := rfl
theorem row_first (q m : Nat) : Txt.item (rowOf q m) 0 = ⟨#[tyC (4096 * q)]⟩ := rfl
end Mine
end

section
open PySem PySem.W PySem.Calls PyProof.Rows
set_option maxRecDepth 100000
namespace Mine
/-- the 48 signs -/
def SIGNS : List Str := [⟨#[40]⟩, ⟨#[41]⟩, ⟨#[91]⟩, ⟨#[93]⟩, ⟨#[58]⟩, ⟨#[44]⟩, ⟨#[59]⟩, ⟨#[43]⟩, ⟨#[45]⟩, ⟨#[42]⟩, ⟨#[47]⟩, ⟨#[124]⟩, ⟨#[38]⟩, ⟨#[60]⟩, ⟨#[62]⟩, ⟨#[61]⟩, ⟨#[46]⟩, ⟨#[37]⟩, ⟨#[123]⟩, ⟨#[125]⟩, ⟨#[61, 61]⟩, ⟨#[33, 61]⟩, ⟨#[60, 61]⟩, ⟨#[62, 61]⟩, ⟨#[126]⟩, ⟨#[94]⟩, ⟨#[60, 60]⟩, ⟨#[62, 62]⟩, ⟨#[42, 42]⟩, ⟨#[43, 61]⟩, ⟨#[45, 61]⟩, ⟨#[42, 61]⟩, ⟨#[47, 61]⟩, ⟨#[37, 61]⟩, ⟨#[38, 61]⟩, ⟨#[124, 61]⟩, ⟨#[94, 61]⟩, ⟨#[60, 60, 61]⟩, ⟨#[62, 62, 61]⟩, ⟨#[42, 42, 61]⟩, ⟨#[47, 47]⟩, ⟨#[47, 47, 61]⟩, ⟨#[64]⟩, ⟨#[64, 61]⟩, ⟨#[45, 62]⟩, ⟨#[46, 46, 46]⟩, ⟨#[58, 61]⟩, ⟨#[33]⟩]
/-- every piece that the cut can put out is a token, and its kind tells it -/
def okTok (x : Str) : Bool := inTok x && decide (7 ≤ tokOf x ∧ tokOf x < 55) && (SIGNS.getD ((tokOf x).toNat - 7) Str.empty == x)
theorem ok_all : SIGNS.all okTok = true := by decide +kernel
theorem tok_signs : TOK.all (fun p => SIGNS.contains p.1) = true := by decide +kernel
end Mine
namespace Mine
def two (c d : Nat) : Prop := (c = 45 ∧ d = 62) ∨ ((c = 42 ∨ c = 47 ∨ c = 60 ∨ c = 62) ∧ d = c) ∨ ((c = 33 ∨ c = 37 ∨ c = 38 ∨ c = 42 ∨ c = 43 ∨ c = 45 ∨ c = 47 ∨ c = 58 ∨ c = 60 ∨ c = 61 ∨ c = 62 ∨ c = 64 ∨ c = 94 ∨ c = 124) ∧ d = 61)
def thr (c d e : Nat) : Prop := (c = 46 ∧ d = 46 ∧ e = 46) ∨ ((c = 42 ∨ c = 47 ∨ c = 60 ∨ c = 62) ∧ d = c ∧ e = 61)
def pairsOf (D : List (Str × Int)) : List (List Nat) := D.map fun p => p.1.cps.toList
theorem find_in (x : List Nat) : ∀ D : List (Str × Int), (D.find? fun p => p.1 == ⟨x.toArray⟩).isSome = true ↔ x ∈ pairsOf D
  | [] => ⟨(fun h => nomatch h), (fun h => nomatch h)⟩
  | p :: r => by
    rw [List.find?_cons]
    by_cases h : p.1 = ⟨x.toArray⟩
    · rw [beq_iff_eq.mpr h]
      exact ⟨fun _ => by rw [pairsOf, List.map_cons, h]; exact .head _, fun _ => rfl⟩
    · rw [beq_false_of_ne h]
      refine (find_in x r).trans ⟨fun q => .tail _ q, fun q => ?_⟩
      rcases List.mem_cons.mp q with q | q
      · exact absurd (cps_ext (show p.1.cps.toList = x from q.symm)) h
      · exact q
def TABLE : List (List Nat) := [[33], [33, 61], [37], [37, 61], [38], [38, 61], [40], [41], [42], [42, 42], [42, 42, 61], [42, 61], [43], [43, 61], [44], [45], [45, 61], [45, 62], [46], [46, 46, 46], [47], [47, 47], [47, 47, 61], [47, 61], [58], [58, 61], [59], [60], [60, 60], [60, 60, 61], [60, 61], [61], [61, 61], [62], [62, 61], [62, 62], [62, 62, 61], [64], [64, 61], [91], [93], [94], [94, 61], [123], [124], [124, 61], [125], [126]]
theorem table_eq : pairsOf TOK = TABLE := by decide +kernel
def twoB (c d : Nat) : Bool := (c == 45 && d == 62) || ((c == 42 || c == 47 || c == 60 || c == 62) && d == c) || ((c == 33 || c == 37 || c == 38 || c == 42 || c == 43 || c == 45 || c == 47 || c == 58 || c == 60 || c == 61 || c == 62 || c == 64 || c == 94 || c == 124) && d == 61)
def thrB (c d e : Nat) : Bool := (c == 46 && d == 46 && e == 46) || ((c == 42 || c == 47 || c == 60 || c == 62) && d == c && e == 61)
def okRow : List Nat → Bool
  | [c, d] => twoB c d
  | [c, d, e] => thrB c d e
  | _ => true
theorem rows_ok : TABLE.all okRow = true := by decide +kernel
theorem two_iff (c d : Nat) : twoB c d = true ↔ two c d := by
  unfold twoB two
  simp only [Bool.or_eq_true, Bool.and_eq_true, beq_iff_eq, or_assoc]
theorem thr_iff (c d e : Nat) : thrB c d e = true ↔ thr c d e := by
  unfold thrB thr
  simp only [Bool.or_eq_true, Bool.and_eq_true, beq_iff_eq, or_assoc, and_assoc]
theorem tok2 (c d : Nat) : inTok ⟨#[c, d]⟩ = true ↔ two c d := by
  unfold inTok
  rw [find_in [c, d] TOK, table_eq]
  constructor
  · exact fun h => (two_iff c d).mp (List.all_eq_true.mp rows_ok _ h)
  · rintro (⟨rfl, rfl⟩ | ⟨(rfl | rfl | rfl | rfl), rfl⟩ | ⟨(rfl | rfl | rfl | rfl | rfl | rfl | rfl | rfl | rfl | rfl | rfl | rfl | rfl | rfl), rfl⟩) <;> decide
theorem tok3 (c d e : Nat) : inTok ⟨#[c, d, e]⟩ = true ↔ thr c d e := by
  unfold inTok
  rw [find_in [c, d, e] TOK, table_eq]
  constructor
  · exact fun h => (thr_iff c d e).mp (List.all_eq_true.mp rows_ok _ h)
  · rintro (⟨rfl, rfl, rfl⟩ | ⟨(rfl | rfl | rfl | rfl), rfl, rfl⟩) <;> decide
end Mine
namespace Mine
theorem size3 {c d e : Nat} : cutSize c d e = 3 ↔ thr c d e := by
  unfold cutSize thr
  constructor
  · intro h
    split at h
    · rename_i q; exact .inl q
    · split at h
      · exact absurd h (by decide)
      · split at h
        · rename_i q
          split at h
          · rename_i z; exact .inr ⟨q.1, q.2, z⟩
          · exact absurd h (by decide)
        · split at h
          · exact absurd h (by decide)
          · exact absurd h (by decide)
  · rintro (⟨rfl, rfl, rfl⟩ | ⟨(rfl | rfl | rfl | rfl), rfl, rfl⟩) <;> decide
theorem size2 {c d e : Nat} (h : two c d) : 2 ≤ cutSize c d e := by
  unfold cutSize
  split
  · decide
  · split
    · decide
    · rename_i h1
      split
      · split <;> decide
      · rename_i h2
        split
        · decide
        · rename_i h3
          rcases h with q | q | q
          · exact absurd q h1
          · exact absurd q h2
          · exact absurd q h3
theorem size1 {c d e : Nat} (h : ¬ two c d) (h3 : ¬ thr c d e) : cutSize c d e = 1 := by
  unfold two at h
  unfold thr at h3
  unfold cutSize
  rw [if_neg (fun q => h3 (.inl q)), if_neg (fun q => h (.inl q)), if_neg (fun q => h (.inr (.inl q))), if_neg (fun q => h (.inr (.inr q)))]
end Mine
namespace Mine
theorem no_two (c : Nat) : ¬ two c 32 := by
  rintro (⟨_, h⟩ | ⟨h, h'⟩ | ⟨_, h⟩) <;> omega
theorem no_thr (c d : Nat) : ¬ thr c d 32 := by
  rintro (⟨_, _, h⟩ | ⟨_, _, h⟩) <;> omega
theorem piece_cut (c : Nat) (r : List Nat) : kPiece (c :: r) = (c :: r).take (cutSize c (r.getD 0 32) (r.getD 1 32)) := by
  rcases r with _ | ⟨d, _ | ⟨e, t⟩⟩
  · show kPiece [c] = List.take (cutSize c 32 32) [c]
    rw [size1 (no_two c) (no_thr c 32), kPiece, if_neg (fun q => absurd q.1 (by simp)), if_neg (fun q => absurd q.1 (by simp))]
  · show kPiece [c, d] = List.take (cutSize c d 32) [c, d]
    rw [kPiece, if_neg (fun q => absurd q.1 (by simp))]
    by_cases h : two c d
    · rw [if_pos ⟨Nat.le_refl 2, (tok2 c d).mpr h⟩]
      have h1 := size2 (e := 32) h
      have h2 := (cutSize_pos c d 32).2
      have h3 : cutSize c d 32 ≠ 3 := fun q => no_thr c d (size3.mp q)
      rw [show cutSize c d 32 = 2 by omega]
    · rw [if_neg (fun q => h ((tok2 c d).mp q.2)), size1 h (no_thr c d)]
  · show kPiece (c :: d :: e :: t) = List.take (cutSize c d e) (c :: d :: e :: t)
    rw [kPiece]
    by_cases h3 : thr c d e
    · rw [if_pos ⟨by simp only [List.length_cons]; omega, (tok3 c d e).mpr h3⟩, size3.mpr h3]
    · rw [if_neg (fun q => h3 ((tok3 c d e).mp q.2))]
      by_cases h : two c d
      · rw [if_pos ⟨by simp only [List.length_cons]; omega, (tok2 c d).mpr h⟩]
        have h1 := size2 (e := e) h
        have h2 := (cutSize_pos c d e).2
        have h3' : cutSize c d e ≠ 3 := fun q => h3 (size3.mp q)
        rw [show cutSize c d e = 2 by omega]
      · rw [if_neg (fun q => h ((tok2 c d).mp q.2)), size1 h h3]
end Mine
namespace Mine
theorem ok_tok : TOK.all (fun p => okTok p.1) = true := by decide +kernel
theorem tok_word {x : Str} (h : inTok x = true) : 7 ≤ tokOf x ∧ tokOf x < 55 ∧ SIGNS.getD ((tokOf x).toNat - 7) Str.empty = x := by
  unfold inTok at h
  rw [List.find?_isSome] at h
  obtain ⟨p, hp, he⟩ := h
  have := List.all_eq_true.mp ok_tok p hp
  rw [beq_iff_eq.mp he] at this
  unfold okTok at this
  simp only [Bool.and_eq_true, decide_eq_true_eq, beq_iff_eq] at this
  exact ⟨this.1.2.1, this.1.2.2, this.2⟩
end Mine
namespace Mine
/-- a sign that a line can hold -/
def goodC (c : Nat) : Bool := c == 32 || c == 120 || c == 55 || inTok ⟨#[c]⟩
theorem piece_tok {c : Nat} (r : List Nat) (h : inTok ⟨#[c]⟩ = true) : inTok ⟨(kPiece (c :: r)).toArray⟩ = true := by
  unfold kPiece
  split
  · rename_i q; exact q.2
  · split
    · rename_i q; exact q.2
    · exact h
theorem plain_size {c : Nat} (h : c = 32 ∨ c = 120 ∨ c = 55) (a b : Nat) : cutSize c a b = 1 := by
  rcases h with rfl | rfl | rfl
  · exact size1 (by rintro (⟨q, _⟩ | ⟨q, _⟩ | ⟨q, _⟩) <;> exact absurd q (by decide)) (by rintro (⟨q, _⟩ | ⟨q, _⟩) <;> exact absurd q (by decide))
  · exact size1 (by rintro (⟨q, _⟩ | ⟨q, _⟩ | ⟨q, _⟩) <;> exact absurd q (by decide)) (by rintro (⟨q, _⟩ | ⟨q, _⟩) <;> exact absurd q (by decide))
  · exact size1 (by rintro (⟨q, _⟩ | ⟨q, _⟩ | ⟨q, _⟩) <;> exact absurd q (by decide)) (by rintro (⟨q, _⟩ | ⟨q, _⟩) <;> exact absurd q (by decide))
def okKind (k : Int) : Prop := k = 1 ∨ k = 2 ∨ (7 ≤ k ∧ k < 55)
theorem words_L : ∀ (n : Nat) (l : List Nat), (∀ c ∈ l, goodC c = true) → (kindsL n l).map (fun k => wordOf SIGNS k.toNat) = cutL n l ∧ ∀ k ∈ kindsL n l, okKind k := by
  intro n
  induction n with
  | zero => intro l _; exact ⟨rfl, fun k hk => nomatch hk⟩
  | succ n ih =>
    intro l hl
    rcases l with _ | ⟨c, r⟩
    · exact ⟨rfl, fun k hk => nomatch hk⟩
    · have hc := hl c (.head _)
      rw [kindsL_cons, cutL_cons]
      have hpc := piece_cut c r
      have hlen : (kPiece (c :: r)).length = cutSize c (r.getD 0 32) (r.getD 1 32) ∨ (c :: r).drop (kPiece (c :: r)).length = (c :: r).drop (cutSize c (r.getD 0 32) (r.getD 1 32)) := by
        rw [hpc, List.length_take]
        by_cases q : cutSize c (r.getD 0 32) (r.getD 1 32) ≤ (c :: r).length
        · left; omega
        · right
          rw [Nat.min_eq_right (by omega), List.drop_length, List.drop_of_length_le (by omega)]
      have hdrop : (c :: r).drop (kPiece (c :: r)).length = (c :: r).drop (cutSize c (r.getD 0 32) (r.getD 1 32)) := by
        rcases hlen with q | q
        · rw [q]
        · exact q
      obtain ⟨ih1, ih2⟩ := ih ((c :: r).drop (kPiece (c :: r)).length) (fun x hx => hl x (List.mem_of_mem_drop hx))
      rw [List.map_append, ih1, hdrop, ← hpc]
      have key : (kKind c ⟨(kPiece (c :: r)).toArray⟩).map (fun k => wordOf SIGNS k.toNat) = (if c = 32 then [] else [⟨(kPiece (c :: r)).toArray⟩]) ∧ ∀ k ∈ kKind c ⟨(kPiece (c :: r)).toArray⟩, okKind k := by
        by_cases h1 : c = 120
        · subst h1
          rw [hpc, plain_size (.inr (.inl rfl)), show List.take 1 (120 :: r) = [120] from rfl]
          exact ⟨by decide +kernel, fun k hk => by rw [List.mem_singleton.mp hk]; exact .inl rfl⟩
        · by_cases h2 : c = 55
          · subst h2
            rw [hpc, plain_size (.inr (.inr rfl)), show List.take 1 (55 :: r) = [55] from rfl]
            exact ⟨by decide +kernel, fun k hk => by rw [List.mem_singleton.mp hk]; exact .inr (.inl rfl)⟩
          · by_cases h3 : c = 32
            · subst h3
              exact ⟨by rw [kKind, if_neg h1, if_neg h2, if_pos rfl, if_pos rfl]; rfl, fun k hk => by rw [kKind, if_neg h1, if_neg h2, if_pos rfl] at hk; exact nomatch hk⟩
            · have ht : inTok ⟨#[c]⟩ = true := by
                simpa [goodC, h1, h2, h3] using hc
              obtain ⟨a, b, e⟩ := tok_word (piece_tok r ht)
              rw [kKind, if_neg h1, if_neg h2, if_neg h3, if_neg h3]
              refine ⟨?_, fun k hk => by rw [List.mem_singleton.mp hk]; exact .inr (.inr ⟨a, b⟩)⟩
              simp only [List.map_cons, List.map_nil]
              rw [wordOf, if_neg (by omega), if_neg (by omega), if_neg (by omega), e]
      refine ⟨by rw [key.1], fun k hk => ?_⟩
      rcases List.mem_append.mp hk with hk | hk
      · exact key.2 k hk
      · exact ih2 k (by rw [hdrop]; exact hk)
theorem words_all (l : List Nat) (hl : ∀ c ∈ l, goodC c = true) : (kindsAll l).map (fun k => wordOf SIGNS k.toNat) = cutAll l ∧ ∀ k ∈ kindsAll l, okKind k := words_L l.length l hl
end Mine
end

section
open PySem PySem.W PySem.Calls PyProof.Rows
set_option maxRecDepth 100000
namespace Mine
local macro_rules | `(tactic| walk_at "go") => `(tactic| repeat' ((fail_if_success (with_reducible show Fin _ _ _ _ _)); (first | (k_unfold; (try dsimp only)) | (dsimp only; walk1) | walk1)))
theorem split_signs : Txt.split (Str.ofString "( ) [ ] : , ; + - * / | & < > = . % { } == != <= >= ~ ^ << >> ** += -= *= /=" ++ Str.ofString " %= &= |= ^= <<= >>= **= // //= @ @= -> ... := !") (Str.ofString " ") = SIGNS := by decide +kernel
set_option maxHeartbeats 4000000 in
theorem ops_tells (w : World) : Tells w 99 [] (fun _ => True) (fun v own => ∃ (r : Addr) (vs : List Value) (n : Nat), v = .ref r ∧ own = [(r, listOf vs.toArray n)] ∧ StrsAre vs SIGNS) := by
  (try (unfold Tells; k_fill; fail ""))
  refine tells_of (binds := []) (by k_is) (by k_is) (fun s => BindsTo.of_eq rfl) (locs rfl) rfl rfl rfl (by decide) ?_
  intro loose mean mg mb env base g L' h₁ tk s F N B X T hke hin
  w_on
  walk_at "go"
  have ha := ‹StrsAre (strValues _) _›
  rw [‹List.map _ _ = Txt.split _ _›, split_signs] at ha
  exact Fin.intro (by assumption) (by assumption) (fun p hp => hp) ⟨_, _, _, rfl, rfl, ha⟩
end Mine
end

section
open PySem PySem.W PySem.Calls PyProof.Rows
set_option maxRecDepth 100000
namespace Mine
/-! the line: six pieces at most, each a pad and a sign -/
def PADS : List Str := [Str.ofString "", Str.ofString " ", Str.ofString " x ", Str.ofString " 7 "]
def lineEl (k : Int) : Str := PADS.getD ((k.fdiv 48).fmod 4).toNat Str.empty ++ SIGNS.getD (k.fmod 48).toNat Str.empty
def lineOf (nums : List Int) : Str := Txt.join (Str.ofString "") (nums.map lineEl)
def okPart (n : Nat) (x : Str) : Bool := decide (x.length ≤ n) && x.cps.toList.all goodC
theorem pads_ok : PADS.all (okPart 3) = true := by decide +kernel
theorem signs_ok : SIGNS.all (okPart 3) = true := by decide +kernel
theorem part_at {l : List Str} (h : l.all (okPart 3) = true) (i : Nat) : (l.getD i Str.empty).length ≤ 3 ∧ ∀ c ∈ (l.getD i Str.empty).cps.toList, goodC c = true := by
  rw [List.getD_eq_getElem?_getD]
  cases e : l[i]? with
  | none => exact ⟨Nat.zero_le _, fun c hc => nomatch hc⟩
  | some x =>
    have := List.all_eq_true.mp h x (List.mem_of_getElem? e)
    unfold okPart at this
    rw [Bool.and_eq_true, decide_eq_true_eq, List.all_eq_true] at this
    exact this
theorem len_app (a b : Str) : (a ++ b).length = a.length + b.length := by
  show (a.cps ++ b.cps).size = _
  rw [Array.size_append]
  rfl
theorem el_ok (k : Int) : (lineEl k).length ≤ 6 ∧ ∀ c ∈ (lineEl k).cps.toList, goodC c = true := by
  have h1 := part_at pads_ok ((k.fdiv 48).fmod 4).toNat
  have h2 := part_at signs_ok (k.fmod 48).toNat
  unfold lineEl
  refine ⟨by rw [len_app]; omega, fun c hc => ?_⟩
  rw [PySem.Str.cps_append, Array.toList_append] at hc
  rcases List.mem_append.mp hc with hc | hc
  · exact h1.2 c hc
  · exact h2.2 c hc
theorem join_ok : ∀ (l : List Str), (∀ x ∈ l, x.length ≤ 6 ∧ ∀ c ∈ x.cps.toList, goodC c = true) → (Str.join (Str.ofString "") l).length ≤ 6 * l.length ∧ ∀ c ∈ (Str.join (Str.ofString "") l).cps.toList, goodC c = true
  | [], _ => ⟨Nat.zero_le _, fun c hc => nomatch hc⟩
  | [x], h => ⟨(h x (.head _)).1, (h x (.head _)).2⟩
  | x :: y :: r, h => by
    obtain ⟨i1, i2⟩ := join_ok (y :: r) (fun z hz => h z (.tail _ hz))
    obtain ⟨x1, x2⟩ := h x (.head _)
    have e : Str.join (Str.ofString "") (x :: y :: r) = x ++ Str.ofString "" ++ Str.join (Str.ofString "") (y :: r) := rfl
    have z : (Str.ofString "").length = 0 := by decide
    have z' : (Str.ofString "").cps.toList = [] := by decide
    refine ⟨?_, fun c hc => ?_⟩
    · rw [e, len_app, len_app, z]
      simp only [List.length_cons] at i1 ⊢
      omega
    · rw [e, PySem.Str.cps_append, PySem.Str.cps_append, Array.toList_append, Array.toList_append, z', List.append_nil] at hc
      rcases List.mem_append.mp hc with hc | hc
      · exact x2 c hc
      · exact i2 c hc
theorem line_ok (nums : List Int) : (lineOf nums).length ≤ 6 * nums.length ∧ ∀ c ∈ (lineOf nums).cps.toList, goodC c = true := by
  have := join_ok (nums.map lineEl) (fun x hx => by obtain ⟨k, _, rfl⟩ := List.mem_map.mp hx; exact el_ok k)
  rw [List.length_map] at this
  have e : lineOf nums = Str.join (Str.ofString "") (nums.map lineEl) := by
    show Builtin.Str.glued (Str.ofString "") (nums.map lineEl) = _
    rw [PySem.StrLaws.glued_eq_join]
  rw [e]
  exact this
end Mine
end

section
open PySem PySem.W PySem.Calls PyProof.Rows
set_option maxRecDepth 100000
namespace Mine
/-! the kinds with their ends, and their words -/
theorem kinds_len : ∀ (n : Nat) (l : List Nat), (kindsL n l).length ≤ l.length := by
  intro n
  induction n with
  | zero => intro l; exact Nat.zero_le _
  | succ n ih =>
    intro l
    rcases l with _ | ⟨c, r⟩
    · exact Nat.zero_le _
    · rw [kindsL_cons, List.length_append]
      have h1 : (kKind c ⟨(kPiece (c :: r)).toArray⟩).length ≤ 1 := by
        unfold kKind
        (repeat' split) <;> simp
      have h2 := ih ((c :: r).drop (kPiece (c :: r)).length)
      have h3 := kPiece_pos c r
      rw [List.length_drop] at h2
      omega
def endedK (l : List Int) : List Int := l ++ List.take (2 - l.length % 2) [0, 0]
def endedW (l : List Str) : List Str := l ++ List.take (2 - l.length % 2) [Str.ofString "", Str.ofString ""]
theorem take_len {α : Type} (a b : α) (n : Nat) : (List.take (2 - n % 2) [a, b]).length = 2 - n % 2 := by
  rw [List.length_take]
  show min (2 - n % 2) 2 = _
  omega
theorem ended_len (l : List Int) : (endedK l).length = 2 * (l.length / 2 + 1) := by
  unfold endedK
  rw [List.length_append, take_len]
  omega
def anyKind0 (k : Int) : Prop := 0 ≤ k ∧ (k < 3 ∨ (6 < k ∧ k < 55))
theorem ended_ok (line : List Nat) (hl : ∀ c ∈ line, goodC c = true) : (∀ k ∈ endedK (kindsAll line), anyKind0 k) ∧ (endedK (kindsAll line)).map (fun k => wordOf SIGNS k.toNat) = endedW (cutAll line) := by
  obtain ⟨h1, h2⟩ := words_all line hl
  constructor
  · intro k hk
    unfold endedK at hk
    rcases List.mem_append.mp hk with hk | hk
    · rcases h2 k hk with rfl | rfl | ⟨a, b⟩
      · exact ⟨by decide, .inl (by decide)⟩
      · exact ⟨by decide, .inl (by decide)⟩
      · exact ⟨by omega, .inr ⟨by omega, b⟩⟩
    · have := List.mem_of_mem_take hk
      have : k = 0 := by simpa using this
      subst this
      exact ⟨by decide, .inl (by decide)⟩
  · unfold endedK endedW
    rw [List.map_append, h1, List.map_take, ← h1, List.length_map]
    rfl
/-! one pair -/
theorem word_plain {k : Int} (h : anyKind0 k) : (wordOf SIGNS k.toNat = Str.ofString "" ∨ wordOf SIGNS k.toNat = Str.ofString "x" ∨ wordOf SIGNS k.toNat = Str.ofString "7") ↔ k < 3 := by
  have key : ∀ n, n < 55 → (n < 3 ∨ 6 < n) → ((wordOf SIGNS n = Str.ofString "" ∨ wordOf SIGNS n = Str.ofString "x" ∨ wordOf SIGNS n = Str.ofString "7") ↔ n < 3) := by decide +kernel
  obtain ⟨h0, h1⟩ := h
  rw [key k.toNat (by omega) (by omega)]
  omega
theorem word_none {k : Int} (h : anyKind0 k) : wordOf SIGNS k.toNat = Str.ofString "" ↔ k = 0 := by
  have key : ∀ n, n < 55 → (n < 3 ∨ 6 < n) → (wordOf SIGNS n = Str.ofString "" ↔ n = 0) := by decide +kernel
  obtain ⟨h0, h1⟩ := h
  rw [key k.toNat (by omega) (by omega)]
  omega
theorem word_str {k : Int} (h : anyKind0 k) : PyData.strOk (wordOf SIGNS k.toNat) = true := by
  have key : ∀ n, n < 55 → (n < 3 ∨ 6 < n) → PyData.strOk (wordOf SIGNS n) = true := by decide +kernel
  obtain ⟨h0, h1⟩ := h
  exact key k.toNat (by omega) (by omega)
end Mine
end

section
open PySem PySem.W PySem.Calls PyProof.Rows
set_option maxRecDepth 100000
namespace Mine
/-! a range by twos, by an invariant over the turn's number, the frame and the ledger -/
theorem size_two {b : Int} {n : Nat} (e : b = 2 * n) : Builtin.Range.rangeSize 0 b 2 = (n : Int) := by
  unfold Builtin.Range.rangeSize
  rw [if_pos (by decide)]
  split <;> omega
theorem small_two {b : Int} (h0 : 0 ≤ b) (h1 : b ≤ 1000) : Builtin.Range.small 0 b 2 = true := by
  have hs : 0 ≤ Builtin.Range.rangeSize 0 b 2 ∧ Builtin.Range.rangeSize 0 b 2 ≤ 1000 := by
    unfold Builtin.Range.rangeSize
    rw [if_pos (by decide)]
    split <;> omega
  unfold Builtin.Range.small
  generalize Builtin.Range.rangeSize 0 b 2 = z at hs ⊢
  have f : ∀ i : Int, 0 ≤ i → i ≤ 2000 → Builtin.Range.rangeFitsLong i = true := fun i a c => by
    unfold Builtin.Range.rangeFitsLong
    rw [Bool.and_eq_true, decide_eq_true_eq, decide_eq_true_eq]
    omega
  rw [f 0 (by decide) (by decide), f b h0 (by omega), f 2 (by decide) (by decide), f z hs.1 (by omega), if_pos (show (2 : Int) > 0 by decide), f (b + (2 - 1)) (by omega) (by omega)]
  simp
section
variable {prog : Program} {w : World} {A : Around} {E : Value → Shared → Prop} {s : Shared} {env : Env} {h₀ : Heap} {x : Str} {body : List Stmt} {Q : Flow → Shared → Prop}
theorem krs_ind {I : Addr} {a c : Int} {n : Nat} {m : Str → Option Value} {news : List (Addr × Obj)} (J : Nat → (Str → Option Value) → List (Addr × Obj) → Prop) (h0 : J 0 m news)
    (turn : ∀ i m news t h tk, i < n → J i m news → Fr h₀ env.locals h (fun y => if y = x then some (.int (a + (i : Int) * c) t) else m y) →
      News h₀ env.locals h ((I, krsIt (a + ((i + 1 : Nat) : Int) * c) ((n : Int) - ((i + 1 : Nat) : Int)) c) :: news) →
      wpAny (model prog w) A (execs body env) (UnrPost h₀ env.locals { s with heap := h, toks := tk } I (krsIt (a + ((i + 1 : Nat) : Int) * c) ((n : Int) - ((i + 1 : Nat) : Int)) c) (J (i + 1)) Q) E { s with heap := h, toks := tk })
    (done : ∀ m news h tk, J n m news → Fr h₀ env.locals h m → News h₀ env.locals h news → Q .next { s with heap := h, toks := tk }) :
    KrsRest prog w A E h₀ env x body Q s I a c n n 0 m news := by
  have key : ∀ (j i : Nat) (m : Str → Option Value) (news : List (Addr × Obj)), i + j = n → J i m news → KrsRest prog w A E h₀ env x body Q s I a c n j i m news := by
    intro j
    induction j with
    | zero =>
      intro i m news hi hJ
      have e : i = n := by omega
      subst e
      exact KrsRest.zero fun h tk F N => done m news h tk hJ F N
    | succ j ih =>
      intro i m news hi hJ
      refine KrsRest.succ rfl fun t h tk F N => ?_
      refine wpAny_mono (turn i m news t h tk (by omega) hJ F N) (fun f s₂ q => ?_) fun _ _ e => e
      have up : UnrEnd h₀ env.locals { s with heap := h, toks := tk } I (krsIt (a + ((i + 1 : Nat) : Int) * c) ((n : Int) - ((i + 1 : Nat) : Int)) c) (J (i + 1)) s₂ →
          UnrEnd h₀ env.locals { s with heap := h, toks := tk } I (krsIt (a + ((i + 1 : Nat) : Int) * c) ((n : Int) - ((i + 1 : Nat) : Int)) c) (KrsRest prog w A E h₀ env x body Q s I a c n j (i + 1)) s₂ := by
        rintro ⟨h', tk', m', news', e, F', N', ho, r⟩
        exact ⟨h', tk', m', news', e, F', N', ho, ih (i + 1) m' news' (by omega) r⟩
      cases f with
      | ret v => exact q
      | brk => exact q
      | next => exact up q
      | cont => exact up q
  exact key n 0 m news (by omega) h0
end
end Mine
end

section
open PySem PySem.W PySem.Calls PyProof.Rows
set_option maxRecDepth 100000
namespace Mine
/-! the five small defs of stat and token -/
theorem bandN (M b : Nat) : Builtin.bitAnd (M : Int) (b : Int) = ((M &&& b : Nat) : Int) := by
  unfold Builtin.bitAnd
  simp
local macro_rules | `(tactic| walk_at "go") => `(tactic| repeat' ((fail_if_success (with_reducible show Fin _ _ _ _ _)); (first | (k_unfold; (try dsimp only)) | (dsimp only; walk1) | walk1)))
set_option maxHeartbeats 4000000 in
theorem imode_tells (w : World) (M : Nat) (tm : Tok) : Tells w 21 [.int M tm] (fun _ => True) (fun v own => own = [] ∧ ∃ t, v = .int ((M &&& 4095 : Nat) : Int) t) := by
  (try (unfold Tells; k_fill; fail ""))
  refine tells_of (binds := [(Str.ofString "mode", .int M tm)]) (by k_is) (by k_is) (fun s => BindsTo.of_eq rfl) (locs rfl) rfl rfl rfl (by decide) ?_
  intro loose mean mg mb env base g L' h₁ tk s F N B X T hke hin
  rw [look1] at F
  w_on
  walk_at "go"
  exact Fin.intro (own := []) (by assumption) (by assumption) (fun p hp => nomatch hp) ⟨rfl, _, congrArg (fun z => Value.int z _) (bandN M 4095)⟩
set_option maxHeartbeats 4000000 in
theorem ifmt_tells (w : World) (M : Nat) (tm : Tok) : Tells w 28 [.int M tm] (fun _ => True) (fun v own => own = [] ∧ ∃ t, v = .int ((M &&& 61440 : Nat) : Int) t) := by
  (try (unfold Tells; k_fill; fail ""))
  refine tells_of (binds := [(Str.ofString "mode", .int M tm)]) (by k_is) (by k_is) (fun s => BindsTo.of_eq rfl) (locs rfl) rfl rfl rfl (by decide) ?_
  intro loose mean mg mb env base g L' h₁ tk s F N B X T hke hin
  rw [look1] at F
  w_on
  walk_at "go"
  exact Fin.intro (own := []) (by assumption) (by assumption) (fun p hp => nomatch hp) ⟨rfl, _, congrArg (fun z => Value.int z _) (bandN M 61440)⟩
set_option maxHeartbeats 4000000 in
theorem term_tells (w : World) (x : Int) (tm : Tok) : Tells w 78 [.int x tm] (fun _ => True) (fun v own => own = [] ∧ v = .bool (decide (x < 256))) := by
  (try (unfold Tells; k_fill; fail ""))
  refine tells_of (binds := [(Str.ofString "x", .int x tm)]) (by k_is) (by k_is) (fun s => BindsTo.of_eq rfl) (locs rfl) rfl rfl rfl (by decide) ?_
  intro loose mean mg mb env base g L' h₁ tk s F N B X T hke hin
  rw [look1] at F
  w_on
  walk_at "go"
  exact Fin.intro (own := []) (by assumption) (by assumption) (fun p hp => nomatch hp) ⟨rfl, rfl⟩
set_option maxHeartbeats 4000000 in
theorem nonterm_tells (w : World) (x : Int) (tm : Tok) : Tells w 85 [.int x tm] (fun _ => True) (fun v own => own = [] ∧ v = .bool (decide (x ≥ 256))) := by
  (try (unfold Tells; k_fill; fail ""))
  refine tells_of (binds := [(Str.ofString "x", .int x tm)]) (by k_is) (by k_is) (fun s => BindsTo.of_eq rfl) (locs rfl) rfl rfl rfl (by decide) ?_
  intro loose mean mg mb env base g L' h₁ tk s F N B X T hke hin
  rw [look1] at F
  w_on
  walk_at "go"
  exact Fin.intro (own := []) (by assumption) (by assumption) (fun p hp => nomatch hp) ⟨rfl, rfl⟩
set_option maxHeartbeats 4000000 in
theorem eof_tells (w : World) (x : Int) (tm : Tok) : Tells w 92 [.int x tm] (fun _ => True) (fun v own => own = [] ∧ v = .bool (decide (x = 0))) := by
  (try (unfold Tells; k_fill; fail ""))
  refine tells_of (binds := [(Str.ofString "x", .int x tm)]) (by k_is) (by k_is) (fun s => BindsTo.of_eq rfl) (locs rfl) rfl rfl rfl (by decide) ?_
  intro loose mean mg mb env base g L' h₁ tk s F N B X T hke hin
  rw [look1] at F
  w_on
  walk_at "go"
  exact Fin.intro (own := []) (by assumption) (by assumption) (fun p hp => nomatch hp) ⟨rfl, rfl⟩
end Mine
end

section
open PySem PySem.W PySem.Calls PyProof.Rows PyProof.V PySem.Spec PySem.SeqAt
set_option maxRecDepth 100000
namespace Mine
/-! == and != of two lists of texts, of two lists of bools -/
section
variable {α : Type} (f : α → PyData)
theorem flat_lay : ∀ ns : List α, (∀ a ∈ ns, (f a).canLay0 = true) → PyData.canLayAll0 (ns.map f) = true
  | [], _ => by simp [PyData.canLayAll0]
  | n :: r, hf => by simp [PyData.canLayAll0, hf n (.head _), flat_lay r (fun a ha => hf a (.tail _ ha))]
theorem flat_depth (hf : ∀ a, (f a).depth = 0 ∨ (f a).depth = 1) : ∀ ns : List α, PyData.depthAll (ns.map f) ≤ 2
  | [] => by simp [PyData.depthAll]
  | n :: r => by
    have := flat_depth hf r
    have := hf n
    simp only [List.map_cons, PyData.depthAll]
    omega
theorem flat_shaped (hd : ∀ a, (f a).depth = 0 ∨ (f a).depth = 1) (ns : List α) (hf : ∀ a ∈ ns, (f a).canLay0 = true) : shaped (.list (ns.map f)) = true := by
  have h1 := flat_depth f hd ns
  have h2 : PyData.depth (.list (ns.map f)) ≤ 64 := by simp only [PyData.depth]; omega
  show (PyData.canLay0 (.list (ns.map f)) && decide (PyData.depth (.list (ns.map f)) ≤ 64)) = true
  rw [Bool.and_eq_true]
  exact ⟨by simp only [PyData.canLay0]; exact flat_lay f ns hf, decide_eq_true h2⟩
theorem flat_mix (hf : ∀ a b, noMix (f a) (f b) = true) : ∀ ns ms : List α, noMixAll (ns.map f) (ms.map f) = true
  | [], [] => by simp [noMixAll]
  | [], _ :: _ => by simp [noMixAll]
  | _ :: _, [] => by simp [noMixAll]
  | a :: r, b :: q => by simp [noMixAll, hf a b, flat_mix hf r q]
theorem flat_same [DecidableEq α] (hf : ∀ a b, PySem.Spec.same (f a) (f b) = decide (a = b)) : ∀ ns ms : List α, PySem.Spec.sameAll (ns.map f) (ms.map f) = decide (ns = ms)
  | [], [] => by simp [PySem.Spec.sameAll]
  | [], _ :: _ => by simp [PySem.Spec.sameAll]
  | _ :: _, [] => by simp [PySem.Spec.sameAll]
  | a :: r, b :: q => by
    simp only [List.map_cons, PySem.Spec.sameAll, hf a b, flat_same hf r q]
    by_cases h : a = b <;> simp [h]
end
section
variable {prog : Program} {w : World} {A : Around} {E : Value → Shared → Prop} {s : Shared} {a b : Addr} {vs us : List Value} {Q : Value → Shared → Prop}
theorem eq_strs {ss tt : List Str} (hl : s.heap.IsList a vs.toArray) (hi : StrsAre vs ss) (hl' : s.heap.IsList b us.toArray) (hi' : StrsAre us tt) (hu : A.units + 64 < cLine) (o1 : ∀ x ∈ ss, PyData.strOk x = true) (o2 : ∀ x ∈ tt, PyData.strOk x = true)
    (h : Q (.bool (decide (ss = tt))) s) : wpAny (model prog w) A (compareOp .Eq (.ref a) (.ref b)) Q E s :=
  eq_dataH_same (reads_newData hl hi.carried) (reads_newData hl' hi'.carried) (flat_shaped PyData.str (fun _ => by simp [PyData.depth]) ss (fun x hx => by simp only [PyData.canLay0]; exact o1 x hx)) (flat_shaped PyData.str (fun _ => by simp [PyData.depth]) tt (fun x hx => by simp only [PyData.canLay0]; exact o2 x hx)) hu
    (by simp only [noMix]; exact flat_mix PyData.str (fun _ _ => by simp [noMix]) ss tt)
    (by simp only [PySem.Spec.same]; rw [flat_same PyData.str (fun x y => by simp only [PySem.Spec.same]; by_cases e : x = y <;> simp [e])]; exact h)
theorem ne_bools {ss tt : List Bool} (hl : s.heap.IsList a vs.toArray) (hi : CarriedAll vs (ss.map PyData.bool)) (hl' : s.heap.IsList b us.toArray) (hi' : CarriedAll us (tt.map PyData.bool)) (hu : A.units + 64 < cLine)
    (h : Q (.bool (!decide (ss = tt))) s) : wpAny (model prog w) A (compareOp .NotEq (.ref a) (.ref b)) Q E s :=
  ne_dataH_same (reads_newData hl hi) (reads_newData hl' hi') (flat_shaped PyData.bool (fun _ => by simp [PyData.depth]) ss (fun _ _ => by simp [PyData.canLay0])) (flat_shaped PyData.bool (fun _ => by simp [PyData.depth]) tt (fun _ _ => by simp [PyData.canLay0])) hu
    (by simp only [noMix]; exact flat_mix PyData.bool (fun _ _ => by simp [noMix]) ss tt)
    (by simp only [PySem.Spec.same]; rw [flat_same PyData.bool (fun x y => by simp only [PySem.Spec.same]; by_cases e : x = y <;> simp [e])]; exact h)
end
end Mine
end

section
open PySem PySem.W PySem.Calls PyProof.Rows
set_option maxRecDepth 100000
namespace Mine
/-- what holds between the turns of the law's loop -/
def LoopJ (l kr dr D2 : Addr) (rest : List (Addr × Obj)) (ks : List Int) (i : Nat) (m : Str → Option Value) (nw : List (Addr × Obj)) : Prop :=
  m (Str.ofString "words") = some (.ref l) ∧ m (Str.ofString "kinds") = some (.ref kr) ∧ m (Str.ofString "due") = some (.ref dr) ∧ m (Str.ofString "numbers") = some (.ref D2) ∧
    ∃ wvs cn, nw = (l, W.listOf wvs.toArray cn) :: rest ∧ StrsAre wvs ((ks.take (2 * i)).map fun k => wordOf SIGNS k.toNat)
theorem frame4 {m : Str → Option Value} {x1 x2 x3 x4 : Str} {a b c d : Value} (h1 : m x1 = some a) (h2 : m x2 = some b) (h3 : m x3 = some c) (h4 : m x4 = some d) : m = fun y => if y = x1 then some a else if y = x2 then some b else if y = x3 then some c else if y = x4 then some d else m y := by
  funext y
  by_cases e1 : y = x1
  · rw [if_pos e1, e1, h1]
  · rw [if_neg e1]
    by_cases e2 : y = x2
    · rw [if_pos e2, e2, h2]
    · rw [if_neg e2]
      by_cases e3 : y = x3
      · rw [if_pos e3, e3, h3]
      · rw [if_neg e3]
        by_cases e4 : y = x4
        · rw [if_pos e4, e4, h4]
        · rw [if_neg e4]
theorem told_1 {ka kb mm x : Nat} (h : mm = 64 * ka + kb) (hx : x = mm) (hA : (ka : Int) < 3 ∨ (6 < (ka : Int) ∧ (ka : Int) < 55)) (hB : (kb : Int) < 3 ∨ (6 < (kb : Int) ∧ (kb : Int) < 55)) : ((x : Int) < 256) ↔ ka < 3 := by omega
theorem told_2 {ka kb mm x : Nat} (h : mm = 64 * ka + kb) (hx : x = mm) (hA : (ka : Int) < 3 ∨ (6 < (ka : Int) ∧ (ka : Int) < 55)) (hB : (kb : Int) < 3 ∨ (6 < (kb : Int) ∧ (kb : Int) < 55)) : ((x : Int) ≥ 256) ↔ ¬ ka < 3 := by omega
theorem told_3 {ka kb mm x : Nat} (h : mm = 64 * ka + kb) (hx : x = mm) : ((x : Int) = 0) ↔ ((ka : Int) = 0 ∧ (kb : Int) = 0) := by omega
theorem div_64 {ka kb mm : Nat} (h : mm = 64 * ka + kb) (hB : (kb : Int) < 3 ∨ (6 < (kb : Int) ∧ (kb : Int) < 55)) : (mm : Int).fdiv 64 = (ka : Int) := by
  rw [Int.fdiv_eq_ediv_of_nonneg _ (by decide)]; omega
theorem mod_64 {ka kb mm : Nat} (h : mm = 64 * ka + kb) (hB : (kb : Int) < 3 ∨ (6 < (kb : Int) ∧ (kb : Int) < 55)) : (mm : Int).fmod 64 = (kb : Int) := by
  rw [Int.fmod_eq_emod_of_nonneg _ (by decide)]; omega
theorem slice_two (a b : Value) (n : Nat) : slicePick #[a, b] none (some (2 - (n : Int).fmod 2)) none = (List.take (2 - n % 2) [a, b]).toArray := by
  have e : (n : Int).fmod 2 = ((n % 2 : Nat) : Int) := by rw [Int.fmod_eq_emod_of_nonneg _ (by decide)]; omega
  rw [e]
  rcases Nat.mod_two_eq_zero_or_one n with h | h
  · rw [h]; rfl
  · rw [h]; rfl
theorem strs_two (n : Nat) {x y : Str} {t u : Tok} : StrsAre (List.take (2 - n % 2) [.str x t, .str y u]) (List.take (2 - n % 2) [x, y]) := by
  rcases Nat.mod_two_eq_zero_or_one n with h | h
  · rw [h]; exact .cons _ _ (.cons _ _ .nil)
  · rw [h]; exact .cons _ _ .nil
end Mine
end

section
open PySem PySem.W PySem.Calls PyProof.Rows Mine
set_option maxRecDepth 100000 in
set_option maxHeartbeats 16000000 in
theorem Mine.law_holds : lw.Holds := by
  refine hd ?_
  w_on
  k_go0
  have fl : lw = lw ∧ frag.heap_1 = frag.heap_1 := by (k_fill; exact ⟨rfl, rfl⟩)
  clear fl
  rename Frag.In (frK0 _) _ => KX9
  replace KX9 : Frag.In (frag.heap_1 _) _ := KX9
  refine gen_Q ?_
  intro Qz hQz
  repeat' ((fail_if_success (with_reducible show wpAny _ _ (call (Value.ref 99) _) _ _ _)); (first | (k_unfold; (try dsimp only)) | (dsimp only; walk1) | walk1))
  rename Fr _ _ _ _ => F9
  obtain ⟨m0, F7⟩ : ∃ m0 : Str → Option Value, Fr _ _ _ (fun z => if z = Str.ofString "numbers" then _ else m0 z) := ⟨_, F9⟩
  clear F9
  rename List Int => script
  rename_i D1 ws1 h1 F1 nD1 hI1 hC1 hL1 l1 hkl1 hkl2 g1 hI8 hL8 D2 h2 tk2 N2 o2
  obtain ⟨nums, hnums⟩ : ∃ nums, nums = List.map (fun k' => Int.fmod k' 3072) (List.take 6 script) := ⟨_, rfl⟩
  have hN := hI8
  rw [← hnums] at hN
  have hNl := hN.length
  have hN6 : nums.length ≤ 6 := by rw [hnums, List.length_map, List.length_take]; omega
  have hNb : ∀ k ∈ nums, 0 ≤ k ∧ k < 3072 := by
    intro k hk
    rw [hnums] at hk
    obtain ⟨z, _, rfl⟩ := List.mem_map.mp hk
    exact ⟨Int.fmod_nonneg_of_pos z (by decide), Int.fmod_lt_of_pos z (by decide)⟩
  clear hnums hI8 hL8 F1 nD1 hI1 hC1 hL1 hkl1 hkl2
  (rename ¬ _ < _ => hz1; clear hz1)
  refine ops_tells _ _ _ _ _ _ _ _ _ _ _ _ _ (below_caller _) F7 ‹Frag.In _ _› N2 ‹Top _ _ _ _ _ _› rfl rfl trivial ?_
  rintro v own h' tk' ⟨r, vs, n, rfl, rfl, hss⟩ F8 N8 hoff hkeep
  dsimp only [List.cons_append, List.nil_append] at N8 hoff
  clear hkeep
  repeat' ((fail_if_success (with_reducible show wpAny _ _ (eval (.ListComp _ _ _ _) _) _ _ _)); (first | (k_unfold; (try dsimp only)) | (dsimp only; walk1) | walk1))
  refine LCg.ListComp_U (F₀ := by k_asm) (by with_unfolding_all rfl) (by decide) (by rfl) (by decide) (by rfl) ?_
  repeat' ((fail_if_success (with_reducible show LCg.CompSrc _ _ _ _ _ _ _ _ _ _ _ _ _ _)); (first | (k_unfold; (try dsimp only)) | (dsimp only; walk1) | walk1))
  rename Fr _ _ _ _ => F9
  rename News _ _ _ _ => N9
  rename_i h9 o9 ho9
  dsimp only [List.cons_append, List.nil_append] at N9
  clear F7 N2
  refine LCg.CompSrc.ledger rfl F9 N9 (by k_mem) (by size_fits) ?_
  intro g
  refine kct_rest (ks := nums) lineEl ?len ?P ?turn ?fin
  case len => rw [List.size_toArray]; exact hN.length.symm
  case P =>
    intro i v _ hv
    obtain ⟨k, t, e, hk⟩ := IntsAre.at hN i v (by simpa using hv)
    exact ⟨k, t, hk, e⟩
  case turn =>
    intro k t I oI C oC D m₂ ys h tk E' hk hC hx F N off ne mark
    clear F9 N9
    have off0 := off
    simp only [LCg.Off3, and_true] at off
    repeat' ((fail_if_success (with_reducible show wpAny _ _ (subscriptTail _ _ _ _) _ _ _)); (fail_if_success (with_reducible show LCg.CompEnd _ _ _ _ _ _ _ _ _ _ _ _ _ _)); (first | (k_unfold; (try dsimp only)) | (dsimp only; walk1) | walk1))
    rename Fr _ _ _ _ => F9
    rename News _ _ _ _ => N9
    have i0 : 0 ≤ (k.fdiv 48).fmod 4 := Int.fmod_nonneg_of_pos _ (by decide)
    have i1 : (k.fdiv 48).fmod 4 < 4 := Int.fmod_lt_of_pos _ (by decide)
    refine KTb.item_tup (ws := PADS) (vs := [_, _, _, _]) (News.isTup N9 (by k_mem)) (.cons _ _ (.cons _ _ (.cons _ _ (.cons _ _ .nil)))) i0 i1 (by omega) ?_
    intro t1 _
    repeat' ((fail_if_success (with_reducible show wpAny _ _ (subscriptTail _ _ _ _) _ _ _)); (fail_if_success (with_reducible show LCg.CompEnd _ _ _ _ _ _ _ _ _ _ _ _ _ _)); (first | (k_unfold; (try dsimp only)) | (dsimp only; walk1) | walk1))
    have j0 : 0 ≤ k.fmod 48 := Int.fmod_nonneg_of_pos _ (by decide)
    have j1 : k.fmod 48 < 48 := Int.fmod_lt_of_pos _ (by decide)
    refine KTb.item_list (ws := SIGNS) (vs := vs) (News.isList N9 (by k_mem)) hss j0 j1 (by omega) ?_
    intro t2 _
    have e1 := (part_at pads_ok ((k.fdiv 48).fmod 4).toNat).1
    have e2 := (part_at signs_ok (k.fmod 48).toNat).1
    repeat' ((fail_if_success (with_reducible show LCg.CompEnd _ _ _ _ _ _ _ _ _ _ _ _ _ _)); (first | (k_unfold; (try dsimp only)) | (dsimp only; walk1) | walk1))
    refine LCg.CompEnd.intro F9 N9 _ ?_ off0 (.inr ⟨_, .tail _ (.head _), rfl, _, rfl⟩) ⟨rfl, _, rfl⟩
    exact fun p hp => .tail _ hp
  case fin =>
    intro ys8 hys8 hl8 D8 h8 tk8 F8 N8 off8
    clear F9 N9
    simp only [LCg.Off1, and_true] at off8
    repeat' ((fail_if_success (with_reducible show wpAny _ _ (call (.builtin "str.join") _) _ _ _)); (first | (k_unfold; (try dsimp only)) | (dsimp only; walk1) | walk1))
    rename Fr _ _ _ _ => F9
    rename News _ _ _ _ => N9
    refine KT.join_B 6 (News.isList N9 (by k_mem)) hys8 (fun a _ => (el_ok a).1) (by omega) (by decide) ?_
    intro t9 k9
    have hl1 := (line_ok nums).1
    have hl2 := (line_ok nums).2
    obtain ⟨line, hline⟩ : ∃ line, line = lineOf nums := ⟨_, rfl⟩
    have hlj : Txt.join (Str.ofString "") (nums.map lineEl) = line := hline.symm
    rw [hlj]
    rw [← hline] at hl1 hl2
    have hl100 : line.length ≤ 100 := by omega
    clear hline hlj hys8 hl8
    repeat' ((fail_if_success (with_reducible show wpAny _ _ (call (Value.ref 106) _) _ _ _)); (first | (k_unfold; (try dsimp only)) | (dsimp only; walk1) | walk1))
    refine cut_tells _ line _ hl100 _ _ _ _ _ _ _ _ _ _ _ _ (below_caller _) (by assumption) ‹Frag.In _ _› (by assumption) ‹Top _ _ _ _ _ _› rfl rfl trivial ?_
    rintro v own h' tk' ⟨dr, dvs, dn, rfl, rfl, hdue⟩ F8 N8 hoff1 hkeep1
    dsimp only [List.cons_append, List.nil_append] at N8 hoff1
    clear hkeep1
    repeat' ((fail_if_success (with_reducible show wpAny _ _ (call (Value.ref 113) _) _ _ _)); (first | (k_unfold; (try dsimp only)) | (dsimp only; walk1) | walk1))
    refine kinds_tells _ line _ hl100 _ _ _ _ _ _ _ _ _ _ _ _ (below_caller _) (by assumption) ‹Frag.In _ _› (by assumption) ‹Top _ _ _ _ _ _› rfl rfl trivial ?_
    rintro v own h' tk' ⟨kr, kvs, kn, rfl, rfl, hkinds⟩ F8 N8 hoff2 hkeep2
    dsimp only [List.cons_append, List.nil_append] at N8 hoff2
    clear hkeep2 hoff hoff1 hoff2
    obtain ⟨ks, hks⟩ : ∃ ks, ks = endedK (kindsAll line.cps.toList) := ⟨_, rfl⟩
    obtain ⟨cs, hcs⟩ : ∃ cs, cs = cutAll line.cps.toList := ⟨_, rfl⟩
    rw [show (kindsAll line.cps.toList ++ List.take (2 - (kindsAll line.cps.toList).length % 2) [0, 0]) = ks from hks.symm] at hkinds
    rw [← hcs] at hdue
    have hkW := (ended_ok line.cps.toList hl2).2
    have hkB := (ended_ok line.cps.toList hl2).1
    rw [← hks] at hkW hkB
    rw [← hcs] at hkW
    obtain ⟨np, hk2, hnp⟩ : ∃ np : Nat, ks.length = 2 * np ∧ np ≤ 51 := by
      refine ⟨_, by rw [hks]; exact ended_len _, ?_⟩
      have h1 := kinds_len line.cps.toList.length line.cps.toList
      have h2 : line.length = line.cps.toList.length := by simp [PySem.Str.length]
      show (kindsL line.cps.toList.length line.cps.toList).length / 2 + 1 ≤ 51
      omega
    clear hks hcs
    have hkl := hkinds.length
    have hkl2 : (ks.length : Int) ≤ 102 := by omega
    repeat' ((fail_if_success (with_reducible show wpAny _ _ (pyIter _) _ _ _)); (first | (k_unfold; (try dsimp only)) | (dsimp only; walk1) | walk1))
    rename IsRange _ _ _ _ _ _ _ _ => hr9
    rename Fr _ _ _ _ => F9
    rename News _ _ _ _ => N9
    rename _ ∧ _ ∧ _ ∧ _ ∧ _ ∧ _ ∧ _ => l9
    obtain ⟨l, N5, F5, hl5⟩ : ∃ (l : Nat), News _ _ _ [(l, W.listOf #[] 0), (kr, W.listOf kvs.toArray kn), (dr, W.listOf dvs.toArray dn), (r, W.listOf vs.toArray n), (D2, LCg.lst ys), (_, o9)] ∧ Fr _ _ _ (fun y => if y = Str.ofString "words" then some (Value.ref l) else if y = Str.ofString "kinds" then some (Value.ref kr) else if y = Str.ofString "due" then some (Value.ref dr) else if y = Str.ofString "line" then some (Value.str line t9) else if y = Str.ofString "numbers" then some (Value.ref D2) else m0 y) ∧ (@LT.lt Nat _ kr l ∧ @LT.lt Nat _ dr l ∧ @LT.lt Nat _ D8 l ∧ @LT.lt Nat _ r l ∧ @LT.lt Nat _ D2 l ∧ @LT.lt Nat _ D1 l ∧ @LT.lt Nat _ _ l) :=
      ⟨_, fun p hp => N9 p ((by k_allIn : ∀ p ∈ [(_, W.listOf #[] 0), (kr, W.listOf kvs.toArray kn), (dr, W.listOf dvs.toArray dn), (r, W.listOf vs.toArray n), (D2, LCg.lst ys), (_, o9)], p ∈ [(_, _), (kr, _), (dr, _), (D8, _), (r, _), (D2, _), (D1, _), (_, o9)]) p hp), F9, l9⟩
    clear F9 N9 l9 l1 o2 off8 hl1 hl2 hl100 hNl
    refine krs_iter (n := np) rfl hr9 (small_two (by omega) (by omega)) (size_two (by omega)) F5 N5 ?_
    intro I hI
    refine krs_ind (LoopJ l kr dr D2 [(kr, W.listOf kvs.toArray kn), (dr, W.listOf dvs.toArray dn), (r, W.listOf vs.toArray n), (D2, LCg.lst ys), (_, o9)] ks) ⟨rfl, rfl, rfl, rfl, [], 0, rfl, .nil⟩ ?turn ?done
    case turn =>
      intro i m nw t h tk hi hJ F N
      obtain ⟨j1, j2, j3, j4, wvs, cn, rfl, hwv⟩ := hJ
      rw [frame4 j1 j2 j3 j4] at F
      clear F5 N5 hr9
      rw [show (0 + (i : Int) * 2) = ((2 * i : Nat) : Int) by omega] at F
      replace F := (show Fr _ _ h (fun y => if y = Str.ofString "k" then some (.int ((2 * i : Nat) : Int) t) else if y = Str.ofString "words" then some (Value.ref l) else if y = Str.ofString "kinds" then some (Value.ref kr) else if y = Str.ofString "due" then some (Value.ref dr) else if y = Str.ofString "numbers" then some (Value.ref D2) else m y) from F)
      refine gen_QE ?_
      intro Qt Et hQt
      generalize krsIt (0 + ((i + 1 : Nat) : Int) * 2) ((np : Int) - ((i + 1 : Nat) : Int)) 2 = oI at N hQt ⊢
      obtain ⟨a, ha⟩ : ∃ a, ks[2 * i]? = some a := ⟨_, List.getElem?_eq_getElem (by omega)⟩
      obtain ⟨b, hb⟩ : ∃ b, ks[2 * i + 1]? = some b := ⟨_, List.getElem?_eq_getElem (by omega)⟩
      have hA := hkB a (List.mem_of_getElem? ha)
      have hB := hkB b (List.mem_of_getElem? hb)
      obtain ⟨q, hq16, hq⟩ : ∃ q : Nat, q < 16 ∧ (nums.sum.fdiv 192 + ((2 * i : Nat) : Int).fdiv 2).fmod 16 = (q : Int) := by
        have h0 := Int.fmod_nonneg_of_pos (nums.sum.fdiv 192 + ((2 * i : Nat) : Int).fdiv 2) (show (0 : Int) < 16 by decide)
        have h1 := Int.fmod_lt_of_pos (nums.sum.fdiv 192 + ((2 * i : Nat) : Int).fdiv 2) (show (0 : Int) < 16 by decide)
        exact ⟨Int.toNat _, by omega, (Int.toNat_of_nonneg h0).symm⟩
      obtain ⟨ka, rfl⟩ : ∃ ka : Nat, a = (ka : Int) := ⟨a.toNat, (Int.toNat_of_nonneg hA.1).symm⟩
      obtain ⟨kb, rfl⟩ : ∃ kb : Nat, b = (kb : Int) := ⟨b.toNat, (Int.toNat_of_nonneg hB.1).symm⟩
      have hga : ks.getD ((2 * i : Nat) : Int).toNat 0 = (ka : Int) := by rw [show ((2 * i : Nat) : Int).toNat = 2 * i by omega, List.getD_eq_getElem?_getD, ha]; rfl
      have hgb : ks.getD (((2 * i : Nat) : Int) + 1).toNat 0 = (kb : Int) := by rw [show (((2 * i : Nat) : Int) + 1).toNat = 2 * i + 1 by omega, List.getD_eq_getElem?_getD, hb]; rfl
      obtain ⟨mm, hmm⟩ : ∃ mm, mm = 64 * ka + kb := ⟨_, rfl⟩
      obtain ⟨M, hM⟩ : ∃ M, M = 4096 * q + mm := ⟨_, rfl⟩
      have hA2 := hA.2
      have hB2 := hB.2
      have hmm4 : mm < 4096 := by omega
      repeat' ((fail_if_success (with_reducible show wpAny _ _ (call (Value.ref 68) _) _ _ _)); (first | (k_unfold; (try dsimp only)) | (dsimp only; walk1) | walk1))
      rename Fr _ _ _ _ => F9
      rename News _ _ _ _ => N9
      have hMe : 4096 * (nums.sum.fdiv 192 + ((2 * i : Nat) : Int).fdiv 2).fmod 16 + 64 * ks.getD ((2 * i : Nat) : Int).toNat 0 + ks.getD (((2 * i : Nat) : Int) + 1).toNat 0 = (M : Int) := by
        rw [hq, hga, hgb]
        omega
      rw [hMe]
      rw [hMe, hq] at F9
      (try dsimp only at F9)
      refine fm_tells _ M _ (by omega) _ _ _ _ _ _ _ _ _ _ _ _ (below_caller _) F9 ‹Frag.In _ _› N9 ‹Top _ _ _ _ _ _› rfl rfl trivial ?_
      rintro v own h' tk' ⟨rfl, tr, rfl⟩ F8 N8 x8 y8
      clear x8 y8
      dsimp only [List.cons_append, List.nil_append] at N8
      clear F9 N9
      rw [row_eq M q mm hM hq16 hmm4]
      have hrl := row_len q mm
      have hr0 : Txt.item (rowOf q mm) 0 = Txt.item (Str.ofString "?pc?d?b?-?l?s???") (q : Int) := (row_first q mm).trans (row_type q hq16)
      have hrf := row_finds q mm
      generalize rowOf q mm = row at *
      repeat' ((fail_if_success (with_reducible show wpAny _ _ (call (Value.ref 120) _) _ _ _)); (first | (k_unfold; (try dsimp only)) | (dsimp only; walk1) | walk1))
      · exfalso
        omega
      · exfalso
        have hx := ‹(Txt.item row 0 != _) = true›
        rw [hr0, bne_self_eq_false] at hx
        exact absurd hx (by decide)
      rename Fr _ _ _ _ => F9
      rename News _ _ _ _ => N9
      obtain ⟨f1, f2, f3, f4, f5, f6, f7, f8, f9⟩ := hrf
      refine read_tells _ row _ hrl _ _ _ _ _ _ _ _ _ f1 f2 f3 f4 f5 f6 f7 f8 f9 ⟨fig_le _ _, fig_le _ _, fig3_le _ _ _ _, fig_le _ _, fig_le _ _, fig3_le _ _ _ _, fig_le _ _, fig_le _ _, fig3_le _ _ _ _⟩ _ _ _ _ _ _ _ _ _ _ _ _ (below_caller _) F9 ‹Frag.In _ _› N9 ‹Top _ _ _ _ _ _› rfl rfl trivial ?_
      rintro v own h' tk' ⟨rfl, tb, rfl⟩ F8 N8 x8 y8
      clear x8 y8
      dsimp only [List.cons_append, List.nil_append] at N8
      clear F9 N9 f1 f2 f3 f4 f5 f6 f7 f8 f9 hr0
      rw [show rdNum (fig1 mm 256) (fig1 mm 128) (fig3 mm 2112 2048 64) (fig1 mm 32) (fig1 mm 16) (fig3 mm 1032 1024 8) (fig1 mm 4) (fig1 mm 2) (fig3 mm 513 512 1) = mm from rd_all mm hmm4]
      repeat' ((fail_if_success (with_reducible show wpAny _ _ (call (Value.ref 127) _) _ _ _)); (first | (k_unfold; (try dsimp only)) | (dsimp only; walk1) | walk1))
      rename Fr _ _ _ _ => F9
      rename News _ _ _ _ => N9
      have hd64 : (mm : Int).fdiv 64 = (ka : Int) := by exact div_64 hmm hB2
      have hm64 : (mm : Int).fmod 64 = (kb : Int) := by exact mod_64 hmm hB2
      rw [hd64]
      refine word_tells _ ka _ r vs SIGNS hss rfl (by omega) _ _ _ _ _ _ _ _ _ _ _ _ (below_caller _) F9 ‹Frag.In _ _› N9 ‹Top _ _ _ _ _ _› rfl rfl (News.isList N9 (by k_mem)) ?_
      rintro v own h' tk' ⟨rfl, ta, rfl⟩ F8 N8 x8 y8
      clear x8 y8
      dsimp only [List.cons_append, List.nil_append] at N8
      clear F9 N9
      repeat' ((fail_if_success (with_reducible show wpAny _ _ (call (Value.ref 127) _) _ _ _)); (first | (k_unfold; (try dsimp only)) | (dsimp only; walk1) | walk1))
      rename Fr _ _ _ _ => F9
      rename News _ _ _ _ => N9
      rw [hm64]
      refine word_tells _ kb _ r vs SIGNS hss rfl (by omega) _ _ _ _ _ _ _ _ _ _ _ _ (below_caller _) F9 ‹Frag.In _ _› N9 ‹Top _ _ _ _ _ _› rfl rfl (News.isList N9 (by k_mem)) ?_
      rintro v own h' tk' ⟨rfl, tb', rfl⟩ F8 N8 x8 y8
      clear x8 y8
      dsimp only [List.cons_append, List.nil_append] at N8
      clear F9 N9
      have hpA := word_plain hA
      have hnA := word_none hA
      have hnB := word_none hB
      have hsA := word_str hA
      have hsB := word_str hB
      rw [Int.toNat_natCast] at hpA hnA hnB hsA hsB
      generalize hwa : wordOf SIGNS ka = wa at *
      generalize hwb : wordOf SIGNS kb = wb at *
      have hvl := hwv.length
      rw [List.length_map, List.length_take] at hvl
      repeat' ((fail_if_success (with_reducible show wpAny _ _ (call (.builtin "list.extend") _) _ _ _)); (first | (k_unfold; (try dsimp only)) | (dsimp only; walk1) | walk1))
      rename Fr _ _ _ _ => F9
      rename News _ _ _ _ => N9
      rename _ ∧ _ ∧ _ ∧ _ ∧ _ ∧ _ ∧ _ => l9
      (try dsimp only [List.cons_append, List.nil_append])
      have hIl : @LT.lt Nat _ l I := hI _ (.head _)
      refine extend_in (ys := wvs) (own := [(_, _), (I, oI)]) (rest := [(kr, _), (dr, _), (r, _), (D2, _), (_, o9)]) F9 N9
        (List.forall_mem_cons.mpr ⟨show @Ne Nat _ _ by omega, List.forall_mem_cons.mpr ⟨show @Ne Nat _ _ by omega, List.forall_mem_nil _⟩⟩)
        (List.forall_mem_cons.mpr ⟨show @Ne Nat _ _ by omega, List.forall_mem_cons.mpr ⟨show @Ne Nat _ _ by omega, List.forall_mem_cons.mpr ⟨show @Ne Nat _ _ by omega, List.forall_mem_cons.mpr ⟨show @Ne Nat _ _ by omega, List.forall_mem_cons.mpr ⟨show @Ne Nat _ _ by omega, List.forall_mem_nil _⟩⟩⟩⟩⟩)
        (N9 _ (.head _)).1 ?_ (by rw [PySem.sizeLine_eq]; show wvs.length + 2 ≤ _; omega)
      intro h' n' F' N'
      replace N' := (show News _ _ _ [(_, W.listOf #[_, _] 0), (I, oI), (l, W.listOf (wvs ++ [_, _]).toArray n'), (kr, _), (dr, _), (r, _), (D2, _), (_, o9)] from N')
      clear F9 N9
      repeat' ((fail_if_success (with_reducible show wpAny _ _ (compareOp .In _ _) _ _ _)); (first | (k_unfold; (try dsimp only)) | (dsimp only; walk1) | walk1))
      rename Fr _ _ _ _ => F9
      rename News _ _ _ _ => N9
      refine in_list_strs (ys := [Str.ofString "", Str.ofString "x", Str.ofString "7"]) (vs := [_, _, _]) (News.isList N9 (.head _)) (.cons _ _ (.cons _ _ (.cons _ _ .nil))) ?_
      have hpl : ([Str.ofString "", Str.ofString "x", Str.ofString "7"].any fun x => x == wa) = decide (ka < 3) := by
        rw [Bool.eq_iff_iff, decide_eq_true_eq, List.any_eq_true]
        constructor
        · rintro ⟨x, hx, e⟩
          have e' := beq_iff_eq.mp e
          have : wa = Str.ofString "" ∨ wa = Str.ofString "x" ∨ wa = Str.ofString "7" := by
            rw [← e']
            simpa using hx
          have := hpA.mp this
          omega
        · intro h3
          have := hpA.mpr (by omega)
          exact ⟨wa, by simpa using this, beq_self_eq_true _⟩
      rw [hpl]
      have hS : M &&& 4095 = mm := by rw [hM, and_all q mm hmm4]
      have hT : M &&& 61440 = 4096 * q := by rw [hM, and_high q mm hq16 hmm4]
      (try dsimp only at N9)
      repeat' ((fail_if_success (with_reducible show wpAny _ _ (call (Value.ref 21) _) _ _ _)); (first | (k_unfold; (try dsimp only)) | (dsimp only; walk1) | walk1))
      rename Fr _ _ _ _ => F9
      rename News _ _ _ _ => N9
      refine imode_tells _ _ _ _ _ _ _ _ _ _ _ _ _ _ _ (below_caller _) F9 ‹Frag.In _ _› N9 ‹Top _ _ _ _ _ _› rfl rfl trivial ?_
      rintro v' own' h' tk' ⟨rfl, t9, rfl⟩ F8 N8 x8 y8
      clear x8 y8
      dsimp only [List.nil_append] at N8
      clear F9 N9
      repeat' ((fail_if_success (with_reducible show wpAny _ _ (call (Value.ref 78) _) _ _ _)); (first | (k_unfold; (try dsimp only)) | (dsimp only; walk1) | walk1))
      rename Fr _ _ _ _ => F9
      rename News _ _ _ _ => N9
      refine term_tells _ _ _ _ _ _ _ _ _ _ _ _ _ _ _ (below_caller _) F9 ‹Frag.In _ _› N9 ‹Top _ _ _ _ _ _› rfl rfl trivial ?_
      rintro v' own' h' tk' ⟨rfl, rfl⟩ F8 N8 x8 y8
      clear x8 y8
      dsimp only [List.nil_append] at N8
      clear F9 N9
      repeat' ((fail_if_success (with_reducible show wpAny _ _ (call (Value.ref 21) _) _ _ _)); (first | (k_unfold; (try dsimp only)) | (dsimp only; walk1) | walk1))
      rename Fr _ _ _ _ => F9
      rename News _ _ _ _ => N9
      refine imode_tells _ _ _ _ _ _ _ _ _ _ _ _ _ _ _ (below_caller _) F9 ‹Frag.In _ _› N9 ‹Top _ _ _ _ _ _› rfl rfl trivial ?_
      rintro v' own' h' tk' ⟨rfl, t9, rfl⟩ F8 N8 x8 y8
      clear x8 y8
      dsimp only [List.nil_append] at N8
      clear F9 N9
      repeat' ((fail_if_success (with_reducible show wpAny _ _ (call (Value.ref 85) _) _ _ _)); (first | (k_unfold; (try dsimp only)) | (dsimp only; walk1) | walk1))
      rename Fr _ _ _ _ => F9
      rename News _ _ _ _ => N9
      refine nonterm_tells _ _ _ _ _ _ _ _ _ _ _ _ _ _ _ (below_caller _) F9 ‹Frag.In _ _› N9 ‹Top _ _ _ _ _ _› rfl rfl trivial ?_
      rintro v' own' h' tk' ⟨rfl, rfl⟩ F8 N8 x8 y8
      clear x8 y8
      dsimp only [List.nil_append] at N8
      clear F9 N9
      repeat' ((fail_if_success (with_reducible show wpAny _ _ (call (Value.ref 21) _) _ _ _)); (first | (k_unfold; (try dsimp only)) | (dsimp only; walk1) | walk1))
      rename Fr _ _ _ _ => F9
      rename News _ _ _ _ => N9
      refine imode_tells _ _ _ _ _ _ _ _ _ _ _ _ _ _ _ (below_caller _) F9 ‹Frag.In _ _› N9 ‹Top _ _ _ _ _ _› rfl rfl trivial ?_
      rintro v' own' h' tk' ⟨rfl, t9, rfl⟩ F8 N8 x8 y8
      clear x8 y8
      dsimp only [List.nil_append] at N8
      clear F9 N9
      repeat' ((fail_if_success (with_reducible show wpAny _ _ (call (Value.ref 92) _) _ _ _)); (first | (k_unfold; (try dsimp only)) | (dsimp only; walk1) | walk1))
      rename Fr _ _ _ _ => F9
      rename News _ _ _ _ => N9
      refine eof_tells _ _ _ _ _ _ _ _ _ _ _ _ _ _ _ (below_caller _) F9 ‹Frag.In _ _› N9 ‹Top _ _ _ _ _ _› rfl rfl trivial ?_
      rintro v' own' h' tk' ⟨rfl, rfl⟩ F8 N8 x8 y8
      clear x8 y8
      dsimp only [List.nil_append] at N8
      clear F9 N9
      repeat' ((fail_if_success (with_reducible show wpAny _ _ (compareOp _ (.ref _) (.ref _)) _ _ _)); (first | (k_unfold; (try dsimp only)) | (dsimp only; walk1) | walk1))
      rename News _ _ _ _ => N9
      refine eq_strs (vs := [_, _]) (us := [_, _]) (ss := [wa, wb]) (tt := [Str.ofString "", Str.ofString ""]) (News.isList N9 (by k_mem)) (.cons _ _ (.cons _ _ .nil)) (News.isList N9 (.head _)) (.cons _ _ (.cons _ _ .nil)) (by units_room)
        (List.forall_mem_cons.mpr ⟨hsA, List.forall_mem_cons.mpr ⟨hsB, List.forall_mem_nil _⟩⟩) (by decide +kernel) ?_
      repeat' ((fail_if_success (with_reducible show wpAny _ _ (compareOp _ (.ref _) (.ref _)) _ _ _)); (first | (k_unfold; (try dsimp only)) | (dsimp only; walk1) | walk1))
      rename News _ _ _ _ => N9
      refine ne_bools (vs := [_, _, _]) (us := [_, _, _]) (ss := [_, _, _]) (tt := [_, _, _]) (News.isList N9 (by k_mem)) (.cons (.bool _) (.cons (.bool _) (.cons (.bool _) .nil))) (News.isList N9 (.head _)) (.cons (.bool _) (.cons (.bool _) (.cons (.bool _) .nil))) (by units_room) ?_
      have hbb : [decide (((M &&& 4095 : Nat) : Int) < 256), decide (((M &&& 4095 : Nat) : Int) ≥ 256), decide (((M &&& 4095 : Nat) : Int) = 0)] = [decide (ka < 3), !decide (ka < 3), decide ([wa, wb] = [Str.ofString "", Str.ofString ""])] := by
        have e1 := told_1 hmm hS hA2 hB2
        have e2 := told_2 hmm hS hA2 hB2
        have e3 : (((M &&& 4095 : Nat) : Int) = 0) ↔ [wa, wb] = [Str.ofString "", Str.ofString ""] := by
          rw [List.cons.injEq, List.cons.injEq, hnA, hnB]
          simp only [and_true]
          exact told_3 hmm hS
        rw [decide_eq_decide.mpr e1, decide_eq_decide.mpr e2, decide_eq_decide.mpr e3, decide_not]
      rw [decide_eq_true hbb]
      repeat' ((fail_if_success (with_reducible show wpAny _ _ (call (Value.ref 28) _) _ _ _)); (first | (k_unfold; (try dsimp only)) | (dsimp only; walk1) | walk1))
      rename Fr _ _ _ _ => F9
      rename News _ _ _ _ => N9
      refine ifmt_tells _ _ _ _ _ _ _ _ _ _ _ _ _ _ _ (below_caller _) F9 ‹Frag.In _ _› N9 ‹Top _ _ _ _ _ _› rfl rfl trivial ?_
      rintro v' own' h' tk' ⟨rfl, t9, rfl⟩ F8 N8 x8 y8
      clear x8 y8
      dsimp only [List.nil_append] at N8
      clear F9 N9
      repeat' ((fail_if_success (with_reducible show wpAny _ _ (call (Value.ref 21) _) _ _ _)); (first | (k_unfold; (try dsimp only)) | (dsimp only; walk1) | walk1))
      · exfalso
        omega
      rename Fr _ _ _ _ => F9
      rename News _ _ _ _ => N9
      refine imode_tells _ _ _ _ _ _ _ _ _ _ _ _ _ _ _ (below_caller _) F9 ‹Frag.In _ _› N9 ‹Top _ _ _ _ _ _› rfl rfl trivial ?_
      rintro v' own' h' tk' ⟨rfl, t9, rfl⟩ F8 N8 x8 y8
      clear x8 y8
      dsimp only [List.nil_append] at N8
      clear F9 N9
      repeat' ((fail_if_success (with_reducible show Qt _ _)); (first | (k_unfold; (try dsimp only)) | (dsimp only; walk1) | walk1))
      · exfalso
        omega
      refine hQt _ _ ?_
      dsimp only [UnrPost]
      have htk : (ks.take (2 * (i + 1))).map (fun k => wordOf SIGNS k.toNat) = (ks.take (2 * i)).map (fun k => wordOf SIGNS k.toNat) ++ [wa, wb] := by
        rw [show 2 * (i + 1) = 2 * i + 1 + 1 by omega, List.take_add_one, List.take_add_one, ha, hb]
        simp [hwa, hwb]
      refine UnrEnd.intro F8 N8 ((l, _) :: [(kr, _), (dr, _), (r, _), (D2, _), (_, o9)]) (fun p hp => .tail _ (.tail _ (.tail _ (.tail _ (.tail _ hp))))) (List.forall_mem_cons.mpr ⟨Nat.ne_of_lt hIl, fun p hp => Nat.ne_of_lt (hI p (.tail _ hp))⟩) ?_
      refine ⟨by with_unfolding_all rfl, by with_unfolding_all rfl, by with_unfolding_all rfl, by with_unfolding_all rfl, _, _, rfl, ?_⟩
      rw [htk]
      exact StrsAre.append' hwv (.cons _ _ (.cons _ _ .nil))
    case done =>
      intro m nw h tk hJ F N
      obtain ⟨j1, j2, j3, j4, wvs, cn, rfl, hwv⟩ := hJ
      rw [frame4 j1 j2 j3 j4] at F
      clear F5 N5 hr9
      rw [← hk2, List.take_length, hkW] at hwv
      have hcl : cs.length ≤ 102 := by
        have := congrArg List.length hkW
        rw [List.length_map] at this
        unfold endedW at this
        rw [List.length_append] at this
        omega
      have hdl := hdue.length
      have hwl := hwv.length
      (try dsimp only)
      repeat' ((fail_if_success (with_reducible show wpAny _ _ (binaryOp .Add _ _) _ _ _)); (first | (k_unfold; (try dsimp only)) | walk1 | (dsimp only; walk1)))
      rename Fr _ _ _ _ => F9
      rename News _ _ _ _ => N9
      (try dsimp only at F9 N9 ⊢)
      rw [slice_two] at N9
      have hok : ∀ x ∈ endedW cs, PyData.strOk x = true := by
        intro x hx
        rw [← hkW] at hx
        obtain ⟨k, hk, rfl⟩ := List.mem_map.mp hx
        exact word_str (hkB k hk)
      refine add_lists (vs := dvs) (ws := List.take (2 - cs.length % 2) [_, _]) F9 N9 (News.isList N9 (by k_mem)) (News.isList N9 (.head _)) ?_ (by rw [PySem.sizeLine_eq, List.length_take]; show dvs.length + min _ 2 ≤ _; omega)
      intro h' F' N'
      refine eq_strs (vs := wvs) (us := dvs ++ List.take (2 - cs.length % 2) [_, _]) (ss := endedW cs) (tt := endedW cs) (News.isList N' (by k_mem)) ‹StrsAre wvs (endedW cs)› (News.isList N' (.head _)) (StrsAre.append' ‹StrsAre dvs cs› (strs_two _)) (by units_room) hok hok ?_
      rw [decide_eq_true rfl]
      (try dsimp only)
      clear F9 N9
      refine hQz _ _ ?_
      (try dsimp only)
      k_end
      kc_close
theorem PySem.Challenge.cw_mg0045_01_holds : PySem.Challenge.rw_mg0045_01.Holds := by
  rw [Mine.lw_eq]
  exact Mine.law_holds
end
