import PyProof.Rows.All
import PyProof.DictCompW
import PyProof.Draws
import PyProof.EnumMake
import PyProof.GenObj
import KE.KSlice
import Wide.FinOn
import OpenK.AllK
import Wide.All
import PySem.Challenge.RW_il0171_01
set_option maxRecDepth 100000
set_option Elab.async false
set_option linter.all false
set_option maxHeartbeats 0
namespace Mine.Internal
open PySem PySem.Calls PyProof.Rows PySem.W
theorem zS {α:Type} {a b:α} (h:a∈[b]):a=b:=List.mem_singleton.mp h
theorem zC {α:Type} {a b:α} {l:List α} (h:a∈b::l):a=b\/a∈l:=List.mem_cons.mp h
theorem zT {α:Type} {a b:α} {l:List α} (h:a∈l):a∈b::l:=List.mem_cons_of_mem _ h
theorem zH {α:Type} {a:α} {l:List α}:a∈a::l:=List.mem_cons_self
theorem byC0 {p:Prop} (h:¬p→False):p:=Classical.byContradiction h
theorem q0_2 {P Q:Prop} {G:Prop} (h:P/\Q) (k:P→Q→G):G:=k h.1 h.2
theorem q0_3 {P Q R:Prop} {G:Prop} (h:P/\Q/\R) (k:P→Q→R→G):G:=k h.1 h.2.1 h.2.2
theorem q0_4 {P Q R S:Prop} {G:Prop} (h:P/\Q/\R/\S) (k:P→Q→R→S→G):G:=k h.1 h.2.1 h.2.2.1 h.2.2.2
theorem q0_5 {P Q R S T:Prop} {G:Prop} (h:P/\Q/\R/\S/\T) (k:P→Q→R→S→T→G):G:=k h.1 h.2.1 h.2.2.1 h.2.2.2.1 h.2.2.2.2
theorem q0_6 {P Q R S T U:Prop} {G:Prop} (h:P/\Q/\R/\S/\T/\U) (k:P→Q→R→S→T→U→G):G:=k h.1 h.2.1 h.2.2.1 h.2.2.2.1 h.2.2.2.2.1 h.2.2.2.2.2
theorem q0_7 {P Q R S T U V:Prop} {G:Prop} (h:P/\Q/\R/\S/\T/\U/\V) (k:P→Q→R→S→T→U→V→G):G:=k h.1 h.2.1 h.2.2.1 h.2.2.2.1 h.2.2.2.2.1 h.2.2.2.2.2.1 h.2.2.2.2.2.2
theorem q0_8 {P Q R S T U V W:Prop} {G:Prop} (h:P/\Q/\R/\S/\T/\U/\V/\W) (k:P→Q→R→S→T→U→V→W→G):G:=k h.1 h.2.1 h.2.2.1 h.2.2.2.1 h.2.2.2.2.1 h.2.2.2.2.2.1 h.2.2.2.2.2.2.1 h.2.2.2.2.2.2.2
theorem q0_9 {P Q R S T U V W X:Prop} {G:Prop} (h:P/\Q/\R/\S/\T/\U/\V/\W/\X) (k:P→Q→R→S→T→U→V→W→X→G):G:=k h.1 h.2.1 h.2.2.1 h.2.2.2.1 h.2.2.2.2.1 h.2.2.2.2.2.1 h.2.2.2.2.2.2.1 h.2.2.2.2.2.2.2.1 h.2.2.2.2.2.2.2.2
theorem q1_1 {A:Sort _} {P:A→Prop} {G:Prop} (h:∃ a,P a) (k:∀ a,P a→G):G:=h.elim λa h=>k a h
theorem q1_2 {A:Sort _} {P Q:A→Prop} {G:Prop} (h:∃ a,P a/\Q a) (k:∀ a,P a→Q a→G):G:=h.elim λa h=>k a h.1 h.2
theorem q1_3 {A:Sort _} {P Q R:A→Prop} {G:Prop} (h:∃ a,P a/\Q a/\R a) (k:∀ a,P a→Q a→R a→G):G:=h.elim λa h=>k a h.1 h.2.1 h.2.2
theorem q1_4 {A:Sort _} {P Q R S:A→Prop} {G:Prop} (h:∃ a,P a/\Q a/\R a/\S a) (k:∀ a,P a→Q a→R a→S a→G):G:=h.elim λa h=>k a h.1 h.2.1 h.2.2.1 h.2.2.2
theorem q1_5 {A:Sort _} {P Q R S T:A→Prop} {G:Prop} (h:∃ a,P a/\Q a/\R a/\S a/\T a) (k:∀ a,P a→Q a→R a→S a→T a→G):G:=h.elim λa h=>k a h.1 h.2.1 h.2.2.1 h.2.2.2.1 h.2.2.2.2
theorem q1_6 {A:Sort _} {P Q R S T U:A→Prop} {G:Prop} (h:∃ a,P a/\Q a/\R a/\S a/\T a/\U a) (k:∀ a,P a→Q a→R a→S a→T a→U a→G):G:=h.elim λa h=>k a h.1 h.2.1 h.2.2.1 h.2.2.2.1 h.2.2.2.2.1 h.2.2.2.2.2
theorem q1_7 {A:Sort _} {P Q R S T U V:A→Prop} {G:Prop} (h:∃ a,P a/\Q a/\R a/\S a/\T a/\U a/\V a) (k:∀ a,P a→Q a→R a→S a→T a→U a→V a→G):G:=h.elim λa h=>k a h.1 h.2.1 h.2.2.1 h.2.2.2.1 h.2.2.2.2.1 h.2.2.2.2.2.1 h.2.2.2.2.2.2
theorem q2_1 {A B:Sort _} {P:A→B→Prop} {G:Prop} (h:∃ a b,P a b) (k:∀ a b,P a b→G):G:=h.elim λa h=>h.elim λb h=>k a b h
theorem q2_2 {A B:Sort _} {P Q:A→B→Prop} {G:Prop} (h:∃ a b,P a b/\Q a b) (k:∀ a b,P a b→Q a b→G):G:=h.elim λa h=>h.elim λb h=>k a b h.1 h.2
theorem q2_3 {A B:Sort _} {P Q R:A→B→Prop} {G:Prop} (h:∃ a b,P a b/\Q a b/\R a b) (k:∀ a b,P a b→Q a b→R a b→G):G:=h.elim λa h=>h.elim λb h=>k a b h.1 h.2.1 h.2.2
theorem q2_4 {A B:Sort _} {P Q R S:A→B→Prop} {G:Prop} (h:∃ a b,P a b/\Q a b/\R a b/\S a b) (k:∀ a b,P a b→Q a b→R a b→S a b→G):G:=h.elim λa h=>h.elim λb h=>k a b h.1 h.2.1 h.2.2.1 h.2.2.2
theorem q2_5 {A B:Sort _} {P Q R S T:A→B→Prop} {G:Prop} (h:∃ a b,P a b/\Q a b/\R a b/\S a b/\T a b) (k:∀ a b,P a b→Q a b→R a b→S a b→T a b→G):G:=h.elim λa h=>h.elim λb h=>k a b h.1 h.2.1 h.2.2.1 h.2.2.2.1 h.2.2.2.2
theorem q2_6 {A B:Sort _} {P Q R S T U:A→B→Prop} {G:Prop} (h:∃ a b,P a b/\Q a b/\R a b/\S a b/\T a b/\U a b) (k:∀ a b,P a b→Q a b→R a b→S a b→T a b→U a b→G):G:=h.elim λa h=>h.elim λb h=>k a b h.1 h.2.1 h.2.2.1 h.2.2.2.1 h.2.2.2.2.1 h.2.2.2.2.2
theorem q3_1 {A B C:Sort _} {P:A→B→C→Prop} {G:Prop} (h:∃ a b c,P a b c) (k:∀ a b c,P a b c→G):G:=h.elim λa h=>h.elim λb h=>h.elim λc h=>k a b c h
theorem q3_2 {A B C:Sort _} {P Q:A→B→C→Prop} {G:Prop} (h:∃ a b c,P a b c/\Q a b c) (k:∀ a b c,P a b c→Q a b c→G):G:=h.elim λa h=>h.elim λb h=>h.elim λc h=>k a b c h.1 h.2
theorem q3_3 {A B C:Sort _} {P Q R:A→B→C→Prop} {G:Prop} (h:∃ a b c,P a b c/\Q a b c/\R a b c) (k:∀ a b c,P a b c→Q a b c→R a b c→G):G:=h.elim λa h=>h.elim λb h=>h.elim λc h=>k a b c h.1 h.2.1 h.2.2
theorem q3_4 {A B C:Sort _} {P Q R S:A→B→C→Prop} {G:Prop} (h:∃ a b c,P a b c/\Q a b c/\R a b c/\S a b c) (k:∀ a b c,P a b c→Q a b c→R a b c→S a b c→G):G:=h.elim λa h=>h.elim λb h=>h.elim λc h=>k a b c h.1 h.2.1 h.2.2.1 h.2.2.2
theorem q3_5 {A B C:Sort _} {P Q R S T:A→B→C→Prop} {G:Prop} (h:∃ a b c,P a b c/\Q a b c/\R a b c/\S a b c/\T a b c) (k:∀ a b c,P a b c→Q a b c→R a b c→S a b c→T a b c→G):G:=h.elim λa h=>h.elim λb h=>h.elim λc h=>k a b c h.1 h.2.1 h.2.2.1 h.2.2.2.1 h.2.2.2.2
theorem q3_6 {A B C:Sort _} {P Q R S T U:A→B→C→Prop} {G:Prop} (h:∃ a b c,P a b c/\Q a b c/\R a b c/\S a b c/\T a b c/\U a b c) (k:∀ a b c,P a b c→Q a b c→R a b c→S a b c→T a b c→U a b c→G):G:=h.elim λa h=>h.elim λb h=>h.elim λc h=>k a b c h.1 h.2.1 h.2.2.1 h.2.2.2.1 h.2.2.2.2.1 h.2.2.2.2.2
theorem q3_8 {A B C:Sort _} {P Q R S T U V W:A→B→C→Prop} {G:Prop} (h:∃ a b c,P a b c/\Q a b c/\R a b c/\S a b c/\T a b c/\U a b c/\V a b c/\W a b c) (k:∀ a b c,P a b c→Q a b c→R a b c→S a b c→T a b c→U a b c→V a b c→W a b c→G):G:=h.elim λa h=>h.elim λb h=>h.elim λc h=>k a b c h.1 h.2.1 h.2.2.1 h.2.2.2.1 h.2.2.2.2.1 h.2.2.2.2.2.1 h.2.2.2.2.2.2.1 h.2.2.2.2.2.2.2
theorem q4_2 {A B C D:Sort _} {P Q:A→B→C→D→Prop} {G:Prop} (h:∃ a b c d,P a b c d/\Q a b c d) (k:∀ a b c d,P a b c d→Q a b c d→G):G:=h.elim λa h=>h.elim λb h=>h.elim λc h=>h.elim λd h=>k a b c d h.1 h.2
theorem q4_3 {A B C D:Sort _} {P Q R:A→B→C→D→Prop} {G:Prop} (h:∃ a b c d,P a b c d/\Q a b c d/\R a b c d) (k:∀ a b c d,P a b c d→Q a b c d→R a b c d→G):G:=h.elim λa h=>h.elim λb h=>h.elim λc h=>h.elim λd h=>k a b c d h.1 h.2.1 h.2.2
theorem q4_5 {A B C D:Sort _} {P Q R S T:A→B→C→D→Prop} {G:Prop} (h:∃ a b c d,P a b c d/\Q a b c d/\R a b c d/\S a b c d/\T a b c d) (k:∀ a b c d,P a b c d→Q a b c d→R a b c d→S a b c d→T a b c d→G):G:=h.elim λa h=>h.elim λb h=>h.elim λc h=>h.elim λd h=>k a b c d h.1 h.2.1 h.2.2.1 h.2.2.2.1 h.2.2.2.2
theorem q4_6 {A B C D:Sort _} {P Q R S T U:A→B→C→D→Prop} {G:Prop} (h:∃ a b c d,P a b c d/\Q a b c d/\R a b c d/\S a b c d/\T a b c d/\U a b c d) (k:∀ a b c d,P a b c d→Q a b c d→R a b c d→S a b c d→T a b c d→U a b c d→G):G:=h.elim λa h=>h.elim λb h=>h.elim λc h=>h.elim λd h=>k a b c d h.1 h.2.1 h.2.2.1 h.2.2.2.1 h.2.2.2.2.1 h.2.2.2.2.2
theorem q5_8 {A B C D E:Sort _} {P Q R S T U V W:A→B→C→D→E→Prop} {G:Prop} (h:∃ a b c d e,P a b c d e/\Q a b c d e/\R a b c d e/\S a b c d e/\T a b c d e/\U a b c d e/\V a b c d e/\W a b c d e) (k:∀ a b c d e,P a b c d e→Q a b c d e→R a b c d e→S a b c d e→T a b c d e→U a b c d e→V a b c d e→W a b c d e→G):G:=h.elim λa h=>h.elim λb h=>h.elim λc h=>h.elim λd h=>h.elim λe h=>k a b c d e h.1 h.2.1 h.2.2.1 h.2.2.2.1 h.2.2.2.2.1 h.2.2.2.2.2.1 h.2.2.2.2.2.2.1 h.2.2.2.2.2.2.2
theorem q5_9 {A B C D E:Sort _} {P Q R S T U V W X:A→B→C→D→E→Prop} {G:Prop} (h:∃ a b c d e,P a b c d e/\Q a b c d e/\R a b c d e/\S a b c d e/\T a b c d e/\U a b c d e/\V a b c d e/\W a b c d e/\X a b c d e) (k:∀ a b c d e,P a b c d e→Q a b c d e→R a b c d e→S a b c d e→T a b c d e→U a b c d e→V a b c d e→W a b c d e→X a b c d e→G):G:=h.elim λa h=>h.elim λb h=>h.elim λc h=>h.elim λd h=>h.elim λe h=>k a b c d e h.1 h.2.1 h.2.2.1 h.2.2.2.1 h.2.2.2.2.1 h.2.2.2.2.2.1 h.2.2.2.2.2.2.1 h.2.2.2.2.2.2.2.1 h.2.2.2.2.2.2.2.2
theorem q6_1 {A B C D E H:Sort _} {P:A→B→C→D→E→H→Prop} {G:Prop} (h:∃ a b c d e f,P a b c d e f) (k:∀ a b c d e f,P a b c d e f→G):G:=h.elim λa h=>h.elim λb h=>h.elim λc h=>h.elim λd h=>h.elim λe h=>h.elim λf h=>k a b c d e f h
theorem q6_5 {A B C D E H:Sort _} {P Q R S T:A→B→C→D→E→H→Prop} {G:Prop} (h:∃ a b c d e f,P a b c d e f/\Q a b c d e f/\R a b c d e f/\S a b c d e f/\T a b c d e f) (k:∀ a b c d e f,P a b c d e f→Q a b c d e f→R a b c d e f→S a b c d e f→T a b c d e f→G):G:=h.elim λa h=>h.elim λb h=>h.elim λc h=>h.elim λd h=>h.elim λe h=>h.elim λf h=>k a b c d e f h.1 h.2.1 h.2.2.1 h.2.2.2.1 h.2.2.2.2
theorem s2_3 {F G:Prop} {A B:Sort _} {P Q R:A→B→Prop} (h:F/\∃ a b,P a b/\Q a b/\R a b) (k:F→∀ a b,P a b→Q a b→R a b→G):G:=q2_3 h.2 (k h.1)
theorem s2_4 {F G:Prop} {A B:Sort _} {P Q R S:A→B→Prop} (h:F/\∃ a b,P a b/\Q a b/\R a b/\S a b) (k:F→∀ a b,P a b→Q a b→R a b→S a b→G):G:=q2_4 h.2 (k h.1)
theorem s1_1 {F G:Prop} {A:Sort _} {P:A→Prop} (h:F/\∃ a,P a) (k:F→∀ a,P a→G):G:=q1_1 h.2 (k h.1)
theorem s1_2 {F G:Prop} {A:Sort _} {P Q:A→Prop} (h:F/\∃ a,P a/\Q a) (k:F→∀ a,P a→Q a→G):G:=q1_2 h.2 (k h.1)
theorem s2_2 {F G:Prop} {A B:Sort _} {P Q:A→B→Prop} (h:F/\∃ a b,P a b/\Q a b) (k:F→∀ a b,P a b→Q a b→G):G:=q2_2 h.2 (k h.1)
theorem s3_4 {F G:Prop} {A B C:Sort _} {P Q R S:A→B→C→Prop} (h:F/\∃ a b c,P a b c/\Q a b c/\R a b c/\S a b c) (k:F→∀ a b c,P a b c→Q a b c→R a b c→S a b c→G):G:=q3_4 h.2 (k h.1)
theorem e0_2 {P Q:Prop} (p:P) (q:Q):P/\Q:=⟨p,q⟩
theorem e0_3 {P Q R:Prop} (p:P) (q:Q) (r:R):P/\Q/\R:=⟨p,q,r⟩
theorem e0_4 {P Q R S:Prop} (p:P) (q:Q) (r:R) (s:S):P/\Q/\R/\S:=⟨p,q,r,s⟩
theorem e1_1 {A:Sort _} {P:A→Prop} (a) (p:P a):∃ a,P a:=⟨a,p⟩
theorem e1_2 {A:Sort _} {P Q:A→Prop} (a) (p:P a) (q:Q a):∃ a,P a/\Q a:=⟨a,p,q⟩
theorem e1_3 {A:Sort _} {P Q R:A→Prop} (a) (p:P a) (q:Q a) (r:R a):∃ a,P a/\Q a/\R a:=⟨a,p,q,r⟩
theorem e1_4 {A:Sort _} {P Q R S:A→Prop} (a) (p:P a) (q:Q a) (r:R a) (s:S a):∃ a,P a/\Q a/\R a/\S a:=⟨a,p,q,r,s⟩
theorem e1_5 {A:Sort _} {P Q R S T:A→Prop} (a) (p:P a) (q:Q a) (r:R a) (s:S a) (t:T a):∃ a,P a/\Q a/\R a/\S a/\T a:=⟨a,p,q,r,s,t⟩
theorem e1_6 {A:Sort _} {P Q R S T U:A→Prop} (a) (p:P a) (q:Q a) (r:R a) (s:S a) (t:T a) (u:U a):∃ a,P a/\Q a/\R a/\S a/\T a/\U a:=⟨a,p,q,r,s,t,u⟩
theorem e2_1 {A B:Sort _} {P:A→B→Prop} (a b) (p:P a b):∃ a b,P a b:=⟨a,b,p⟩
theorem e2_2 {A B:Sort _} {P Q:A→B→Prop} (a b) (p:P a b) (q:Q a b):∃ a b,P a b/\Q a b:=⟨a,b,p,q⟩
theorem e2_3 {A B:Sort _} {P Q R:A→B→Prop} (a b) (p:P a b) (q:Q a b) (r:R a b):∃ a b,P a b/\Q a b/\R a b:=⟨a,b,p,q,r⟩
theorem e2_4 {A B:Sort _} {P Q R S:A→B→Prop} (a b) (p:P a b) (q:Q a b) (r:R a b) (s:S a b):∃ a b,P a b/\Q a b/\R a b/\S a b:=⟨a,b,p,q,r,s⟩
theorem e2_5 {A B:Sort _} {P Q R S T:A→B→Prop} (a b) (p:P a b) (q:Q a b) (r:R a b) (s:S a b) (t:T a b):∃ a b,P a b/\Q a b/\R a b/\S a b/\T a b:=⟨a,b,p,q,r,s,t⟩
theorem e2_6 {A B:Sort _} {P Q R S T U:A→B→Prop} (a b) (p:P a b) (q:Q a b) (r:R a b) (s:S a b) (t:T a b) (u:U a b):∃ a b,P a b/\Q a b/\R a b/\S a b/\T a b/\U a b:=⟨a,b,p,q,r,s,t,u⟩
theorem e2_8 {A B:Sort _} {P Q R S T U V W:A→B→Prop} (a b) (p:P a b) (q:Q a b) (r:R a b) (s:S a b) (t:T a b) (u:U a b) (v:V a b) (w:W a b):∃ a b,P a b/\Q a b/\R a b/\S a b/\T a b/\U a b/\V a b/\W a b:=⟨a,b,p,q,r,s,t,u,v,w⟩
theorem e3_1 {A B C:Sort _} {P:A→B→C→Prop} (a b c) (p:P a b c):∃ a b c,P a b c:=⟨a,b,c,p⟩
theorem e3_2 {A B C:Sort _} {P Q:A→B→C→Prop} (a b c) (p:P a b c) (q:Q a b c):∃ a b c,P a b c/\Q a b c:=⟨a,b,c,p,q⟩
theorem e3_3 {A B C:Sort _} {P Q R:A→B→C→Prop} (a b c) (p:P a b c) (q:Q a b c) (r:R a b c):∃ a b c,P a b c/\Q a b c/\R a b c:=⟨a,b,c,p,q,r⟩
theorem e3_4 {A B C:Sort _} {P Q R S:A→B→C→Prop} (a b c) (p:P a b c) (q:Q a b c) (r:R a b c) (s:S a b c):∃ a b c,P a b c/\Q a b c/\R a b c/\S a b c:=⟨a,b,c,p,q,r,s⟩
theorem e3_6 {A B C:Sort _} {P Q R S T U:A→B→C→Prop} (a b c) (p:P a b c) (q:Q a b c) (r:R a b c) (s:S a b c) (t:T a b c) (u:U a b c):∃ a b c,P a b c/\Q a b c/\R a b c/\S a b c/\T a b c/\U a b c:=⟨a,b,c,p,q,r,s,t,u⟩
theorem e3_7 {A B C:Sort _} {P Q R S T U V:A→B→C→Prop} (a b c) (p:P a b c) (q:Q a b c) (r:R a b c) (s:S a b c) (t:T a b c) (u:U a b c) (v:V a b c):∃ a b c,P a b c/\Q a b c/\R a b c/\S a b c/\T a b c/\U a b c/\V a b c:=⟨a,b,c,p,q,r,s,t,u,v⟩
theorem e3_8 {A B C:Sort _} {P Q R S T U V W:A→B→C→Prop} (a b c) (p:P a b c) (q:Q a b c) (r:R a b c) (s:S a b c) (t:T a b c) (u:U a b c) (v:V a b c) (w:W a b c):∃ a b c,P a b c/\Q a b c/\R a b c/\S a b c/\T a b c/\U a b c/\V a b c/\W a b c:=⟨a,b,c,p,q,r,s,t,u,v,w⟩
theorem e3_9 {A B C:Sort _} {P Q R S T U V W X:A→B→C→Prop} (a b c) (p:P a b c) (q:Q a b c) (r:R a b c) (s:S a b c) (t:T a b c) (u:U a b c) (v:V a b c) (w:W a b c) (x:X a b c):∃ a b c,P a b c/\Q a b c/\R a b c/\S a b c/\T a b c/\U a b c/\V a b c/\W a b c/\X a b c:=⟨a,b,c,p,q,r,s,t,u,v,w,x⟩
theorem e3_10 {A B C:Sort _} {P Q R S T U V W X Y:A→B→C→Prop} (a b c) (p:P a b c) (q:Q a b c) (r:R a b c) (s:S a b c) (t:T a b c) (u:U a b c) (v:V a b c) (w:W a b c) (x:X a b c) (y:Y a b c):∃ a b c,P a b c/\Q a b c/\R a b c/\S a b c/\T a b c/\U a b c/\V a b c/\W a b c/\X a b c/\Y a b c:=⟨a,b,c,p,q,r,s,t,u,v,w,x,y⟩
theorem e4_1 {A B C D:Sort _} {P:A→B→C→D→Prop} (a b c d) (p:P a b c d):∃ a b c d,P a b c d:=⟨a,b,c,d,p⟩
theorem e4_2 {A B C D:Sort _} {P Q:A→B→C→D→Prop} (a b c d) (p:P a b c d) (q:Q a b c d):∃ a b c d,P a b c d/\Q a b c d:=⟨a,b,c,d,p,q⟩
theorem e4_4 {A B C D:Sort _} {P Q R S:A→B→C→D→Prop} (a b c d) (p:P a b c d) (q:Q a b c d) (r:R a b c d) (s:S a b c d):∃ a b c d,P a b c d/\Q a b c d/\R a b c d/\S a b c d:=⟨a,b,c,d,p,q,r,s⟩
theorem e4_5 {A B C D:Sort _} {P Q R S T:A→B→C→D→Prop} (a b c d) (p:P a b c d) (q:Q a b c d) (r:R a b c d) (s:S a b c d) (t:T a b c d):∃ a b c d,P a b c d/\Q a b c d/\R a b c d/\S a b c d/\T a b c d:=⟨a,b,c,d,p,q,r,s,t⟩
theorem e4_6 {A B C D:Sort _} {P Q R S T U:A→B→C→D→Prop} (a b c d) (p:P a b c d) (q:Q a b c d) (r:R a b c d) (s:S a b c d) (t:T a b c d) (u:U a b c d):∃ a b c d,P a b c d/\Q a b c d/\R a b c d/\S a b c d/\T a b c d/\U a b c d:=⟨a,b,c,d,p,q,r,s,t,u⟩
theorem e4_7 {A B C D:Sort _} {P Q R S T U V:A→B→C→D→Prop} (a b c d) (p:P a b c d) (q:Q a b c d) (r:R a b c d) (s:S a b c d) (t:T a b c d) (u:U a b c d) (v:V a b c d):∃ a b c d,P a b c d/\Q a b c d/\R a b c d/\S a b c d/\T a b c d/\U a b c d/\V a b c d:=⟨a,b,c,d,p,q,r,s,t,u,v⟩
theorem e4_8 {A B C D:Sort _} {P Q R S T U V W:A→B→C→D→Prop} (a b c d) (p:P a b c d) (q:Q a b c d) (r:R a b c d) (s:S a b c d) (t:T a b c d) (u:U a b c d) (v:V a b c d) (w:W a b c d):∃ a b c d,P a b c d/\Q a b c d/\R a b c d/\S a b c d/\T a b c d/\U a b c d/\V a b c d/\W a b c d:=⟨a,b,c,d,p,q,r,s,t,u,v,w⟩
theorem e4_14 {A B C D:Sort _} {P Q R S T U V W X Y Z P1 Q1 R1:A→B→C→D→Prop} (a b c d) (p:P a b c d) (q:Q a b c d) (r:R a b c d) (s:S a b c d) (t:T a b c d) (u:U a b c d) (v:V a b c d) (w:W a b c d) (x:X a b c d) (y:Y a b c d) (z:Z a b c d) (p1:P1 a b c d) (q1:Q1 a b c d) (r1:R1 a b c d):∃ a b c d,P a b c d/\Q a b c d/\R a b c d/\S a b c d/\T a b c d/\U a b c d/\V a b c d/\W a b c d/\X a b c d/\Y a b c d/\Z a b c d/\P1 a b c d/\Q1 a b c d/\R1 a b c d:=⟨a,b,c,d,p,q,r,s,t,u,v,w,x,y,z,p1,q1,r1⟩
theorem e5_8 {A B C D E:Sort _} {P Q R S T U V W:A→B→C→D→E→Prop} (a b c d e) (p:P a b c d e) (q:Q a b c d e) (r:R a b c d e) (s:S a b c d e) (t:T a b c d e) (u:U a b c d e) (v:V a b c d e) (w:W a b c d e):∃ a b c d e,P a b c d e/\Q a b c d e/\R a b c d e/\S a b c d e/\T a b c d e/\U a b c d e/\V a b c d e/\W a b c d e:=⟨a,b,c,d,e,p,q,r,s,t,u,v,w⟩
theorem e5_9 {A B C D E:Sort _} {P Q R S T U V W X:A→B→C→D→E→Prop} (a b c d e) (p:P a b c d e) (q:Q a b c d e) (r:R a b c d e) (s:S a b c d e) (t:T a b c d e) (u:U a b c d e) (v:V a b c d e) (w:W a b c d e) (x:X a b c d e):∃ a b c d e,P a b c d e/\Q a b c d e/\R a b c d e/\S a b c d e/\T a b c d e/\U a b c d e/\V a b c d e/\W a b c d e/\X a b c d e:=⟨a,b,c,d,e,p,q,r,s,t,u,v,w,x⟩
theorem e5_10 {A B C D E:Sort _} {P Q R S T U V W X Y:A→B→C→D→E→Prop} (a b c d e) (p:P a b c d e) (q:Q a b c d e) (r:R a b c d e) (s:S a b c d e) (t:T a b c d e) (u:U a b c d e) (v:V a b c d e) (w:W a b c d e) (x:X a b c d e) (y:Y a b c d e):∃ a b c d e,P a b c d e/\Q a b c d e/\R a b c d e/\S a b c d e/\T a b c d e/\U a b c d e/\V a b c d e/\W a b c d e/\X a b c d e/\Y a b c d e:=⟨a,b,c,d,e,p,q,r,s,t,u,v,w,x,y⟩
theorem e6_5 {A B C D E H:Sort _} {P Q R S T:A→B→C→D→E→H→Prop} (a b c d e f) (p:P a b c d e f) (q:Q a b c d e f) (r:R a b c d e f) (s:S a b c d e f) (t:T a b c d e f):∃ a b c d e f,P a b c d e f/\Q a b c d e f/\R a b c d e f/\S a b c d e f/\T a b c d e f:=⟨a,b,c,d,e,f,p,q,r,s,t⟩
theorem e6_9 {A B C D E H:Sort _} {P Q R S T U V W X:A→B→C→D→E→H→Prop} (a b c d e f) (p:P a b c d e f) (q:Q a b c d e f) (r:R a b c d e f) (s:S a b c d e f) (t:T a b c d e f) (u:U a b c d e f) (v:V a b c d e f) (w:W a b c d e f) (x:X a b c d e f):∃ a b c d e f,P a b c d e f/\Q a b c d e f/\R a b c d e f/\S a b c d e f/\T a b c d e f/\U a b c d e f/\V a b c d e f/\W a b c d e f/\X a b c d e f:=⟨a,b,c,d,e,f,p,q,r,s,t,u,v,w,x⟩
theorem e7_7 {A B C D E H I:Sort _} {P Q R S T U V:A→B→C→D→E→H→I→Prop} (a b c d e f g) (p:P a b c d e f g) (q:Q a b c d e f g) (r:R a b c d e f g) (s:S a b c d e f g) (t:T a b c d e f g) (u:U a b c d e f g) (v:V a b c d e f g):∃ a b c d e f g,P a b c d e f g/\Q a b c d e f g/\R a b c d e f g/\S a b c d e f g/\T a b c d e f g/\U a b c d e f g/\V a b c d e f g:=⟨a,b,c,d,e,f,g,p,q,r,s,t,u,v⟩
theorem e7_12 {A B C D E H I:Sort _} {P Q R S T U V W X Y Z P1:A→B→C→D→E→H→I→Prop} (a b c d e f g) (p:P a b c d e f g) (q:Q a b c d e f g) (r:R a b c d e f g) (s:S a b c d e f g) (t:T a b c d e f g) (u:U a b c d e f g) (v:V a b c d e f g) (w:W a b c d e f g) (x:X a b c d e f g) (y:Y a b c d e f g) (z:Z a b c d e f g) (p1:P1 a b c d e f g):∃ a b c d e f g,P a b c d e f g/\Q a b c d e f g/\R a b c d e f g/\S a b c d e f g/\T a b c d e f g/\U a b c d e f g/\V a b c d e f g/\W a b c d e f g/\X a b c d e f g/\Y a b c d e f g/\Z a b c d e f g/\P1 a b c d e f g:=⟨a,b,c,d,e,f,g,p,q,r,s,t,u,v,w,x,y,z,p1⟩
theorem e8_9 {A B C D E H I J:Sort _} {P Q R S T U V W X:A→B→C→D→E→H→I→J→Prop} (a b c d e f g i) (p:P a b c d e f g i) (q:Q a b c d e f g i) (r:R a b c d e f g i) (s:S a b c d e f g i) (t:T a b c d e f g i) (u:U a b c d e f g i) (v:V a b c d e f g i) (w:W a b c d e f g i) (x:X a b c d e f g i):∃ a b c d e f g i,P a b c d e f g i/\Q a b c d e f g i/\R a b c d e f g i/\S a b c d e f g i/\T a b c d e f g i/\U a b c d e f g i/\V a b c d e f g i/\W a b c d e f g i/\X a b c d e f g i:=⟨a,b,c,d,e,f,g,i,p,q,r,s,t,u,v,w,x⟩
theorem e9_3 {A B C D E H I J K:Sort _} {P Q R:A→B→C→D→E→H→I→J→K→Prop} (a b c d e f g i j) (p:P a b c d e f g i j) (q:Q a b c d e f g i j) (r:R a b c d e f g i j):∃ a b c d e f g i j,P a b c d e f g i j/\Q a b c d e f g i j/\R a b c d e f g i j:=⟨a,b,c,d,e,f,g,i,j,p,q,r⟩
theorem e10_1 {A B C D E H I J K L:Sort _} {P:A→B→C→D→E→H→I→J→K→L→Prop} (a b c d e f g i j l) (p:P a b c d e f g i j l):∃ a b c d e f g i j l,P a b c d e f g i j l:=⟨a,b,c,d,e,f,g,i,j,l,p⟩
theorem e12_1 {A B C D E H I J K L M N:Sort _} {P:A→B→C→D→E→H→I→J→K→L→M→N→Prop} (a b c d e f g i j l m n) (p:P a b c d e f g i j l m n):∃ a b c d e f g i j l m n,P a b c d e f g i j l m n:=⟨a,b,c,d,e,f,g,i,j,l,m,n,p⟩
def syN (k:Lean.Name) (a:Array Lean.Syntax):Lean.Syntax:=.node .none k a
def syA (s:String):Lean.Syntax:=.atom .none s
def syT (a:Array Lean.Syntax):Lean.Syntax:=syN `Lean.Parser.Tactic.tacticSeq #[syN `Lean.Parser.Tactic.tacticSeq1Indented #[syN `null a]]
def syR:Lean.Syntax:=syN `Lean.Parser.Tactic.tacticRfl #[syA "rfl"]
def syI (n:Nat):Lean.Syntax:=syN `Lean.Parser.Tactic.intro #[syA "intro",syN `null (Array.replicate n (syN `Lean.Parser.Term.hole #[syA "_"]))]
def auR:Lean.Syntax:=syT #[syR]
def auD:Lean.Syntax:=syT #[syN `Lean.Parser.Tactic.decide #[syA "decide",syN `Lean.Parser.Tactic.optConfig #[syN `null #[]]]]
def auK:Lean.Syntax:=syT #[syN `tacticKernel_rfl #[syA "kernel_rfl"]]
def auI1:Lean.Syntax:=syT #[syI 1,syA ";",syR]
def auI2:Lean.Syntax:=syT #[syI 2,syA ";",syR]
def auI3:Lean.Syntax:=syT #[syI 3,syA ";",syR]
theorem hnN:(none:Option PySem.Value)≠some PySem.byPass:=by simp
def auN:Lean.Syntax:=syT #[syN `Lean.Parser.Tactic.exact #[syA "exact",.ident .none "hnN".toRawSubstring `Mine.Internal.hnN []]]
noncomputable abbrev sO:=PySem.Str.ofString
noncomputable abbrev SoV:=PySem.Str→Option PySem.Value
theorem neW:Nonempty PySem.World:=⟨⟨λ_ _=>0,{ strHash:=λ_=>0,shareClass:=λ_=>0,mergeTok:=λt=>t,idOf:=λ_=>0,idOfShared:=λ_ _=>0,followText:=λ_=>false,idOfImm:=λ_=>0 }⟩⟩
theorem neA:Nonempty PySem.Around:=⟨{}⟩
theorem neS:Nonempty PySem.Shared:=⟨{}⟩
theorem neD:Nonempty PySem.Drawn:=⟨{}⟩
theorem neI {α:Type} [i:Nonempty α]:Nonempty α:=i
theorem neP {α β:Type} (a:Nonempty α) (b:Nonempty β):Nonempty (α×β):=a.elim λa=>b.elim λb=>⟨(a,b)⟩
noncomputable def eps1 {α:Type} (ne:Nonempty α) (P:α→Prop):α:=@Classical.epsilon α ne λa=>¬ P a
theorem all1 {α:Type} {ne:Nonempty α} {P:α→Prop} (h:P (eps1 ne P)) (a:α):P a:=Classical.byContradiction λhn=>Classical.epsilon_spec (p:=λa=>¬ P a) ⟨a,hn⟩ h
theorem zD {α:Type} {a b:α} {l:List α} (h:a∈b::l):b=a\/a∈l:=(List.mem_cons.mp h).imp Eq.symm id
theorem mem2 {α:Type} {x a b:α} (h:x∈[a,b]):x=a\/x=b:=by simpa using h
theorem mem3 {α:Type} {x a b c:α} (h:x∈[a,b,c]):x=a\/x=b\/x=c:=by simpa using h
theorem mem4 {α:Type} {x a b c d:α} (h:x∈[a,b,c,d]):x=a\/x=b\/x=c\/x=d:=by simpa using h
theorem v0 {α β:Type} {F:α→β→Prop} {x:α} {l:List α} {ys:List β} (h:PySem.Paired F (x::l) ys):∃ y k,ys=y::k/\F x y/\PySem.Paired F l k:=by
 cases h with
 | cons a r=>exact⟨_,_,rfl,a,r⟩
theorem v00 {α β:Type} {F:α→β→Prop} {ys:List β} (h:PySem.Paired F [] ys):ys=[]:=by cases h;rfl
theorem v1 {α β:Type} {F:α→β→Prop} {x:α} {ys:List β} {G:Prop} (h:PySem.Paired F [x] ys) (k:∀ y,ys=[y]→F x y→G):G:=
 q2_3 (v0 h) λy z e a r=>k y (by rw [e,v00 r]) a
theorem v2 {α β:Type} {F:α→β→Prop} {x x':α} {ys:List β} {G:Prop} (h:PySem.Paired F [x,x'] ys) (k:∀ y y',ys=[y,y']→F x y→F x' y'→G):G:=
 q2_3 (v0 h) λy z e a r=>v1 r λy' e' b=>k y y' (by rw [e,e']) a b
theorem v3 {α β:Type} {F:α→β→Prop} {x x' x'':α} {ys:List β} {G:Prop} (h:PySem.Paired F [x,x',x''] ys) (k:∀ y y' y'',ys=[y,y',y'']→F x y→F x' y'→F x'' y''→G):G:=
 q2_3 (v0 h) λy z e a r=>v2 r λy' y'' e' b c=>k y y' y'' (by rw [e,e']) a b c
local macro_rules
 | `(tactic| cases $x:ident)=>`(tactic| first | (exfalso;injection $x;done) | cases ($x))
local macro_rules
 | `(tactic| omega)=>`(tactic| first | lia | omega +splitDisjunctions)
noncomputable abbrev Pg:Program:=PySem.Challenge.pw_il0171_01
noncomputable def Bot:Value->Shared->Prop:=λ_ _=>False
noncomputable abbrev Wp (w:World) (A:Around) {α:Type} (t:Sem α) (Φ:α->Shared->Prop) (s:Shared):Prop:=wpAny (model Pg w) A t Φ Bot s
theorem Wp.to {w:World} {A:Around} {α:Type} {t:Sem α} {Φ Q:α->Shared->Prop} {E:Value->Shared->Prop} {s:Shared} (h:Wp w A t Φ s) (hq:∀ a s',Φ a s'->Q a s'):wpAny (model Pg w) A t Q E s:=
 wpAny_mono h hq λ_ _ x=>x.elim
section
variable {w:World} {A:Around} {R:Result->Shared->Prop} {s:Shared}
theorem compLoop_at {elt:Expr} {gens:List Comprehension} {sc:Scope} {pos:Pos} {d:Nat} {it acc:Value} {env:Env} {g:Comprehension} (hg:gens[d]?=some g) (ha:g.is_async=0) (I:Nat->Shared->Prop)
  (turn:∀ n s,I n s->Wp w A (pyNext it) (λr s1=>match r with
   | none=>R (.ok .next) s1
   | some v=>Wp w A (letOwnedTupleGo g.target it v) (λ_ s1'=>Wp w A (assign g.target env v) (λ_ s2=>
     Wp w A (forIn g.ifs true λc r=>if r=true then do let ok ← isTrue c env (eval c env);pure (ForInStep.yield ok) else pure (ForInStep.yield r)) (λok s3=>
      if ok=true then (match gens[d+1]? with
       | some g'=>Wp w A (eval g'.iter env) (λx s4=>Wp w A (foldedSetIterable g'.iter env x) (λx s5=>Wp w A (pyIter x) (λit' s6=>
         codeAny (model Pg w) A (.compStart (.ListComp elt gens sc pos) (d+1) it' acc env) (λr s7=>∃ f,r=.ok f/\∃ m,m<n/\I m s7) s6) s5) s4) s3
       | none=>Wp w A (eval elt env) (λx s4=>
         Wp w A (call (.builtin "list.append") [acc,x]) (λ_ s5=>∃ m,m<n/\I m s5) s4) s3)
      else ∃ m,m<n/\I m s3) s2) s1') s1) s)
  (n:Nat) (h:I n s) (hga:∀ g',gens[d+1]?=some g'->g'.is_async=0) :
  codeAny (model Pg w) A (.compLoop (.ListComp elt gens sc pos) d it acc env) R s:=by
 refine codeAny_loop rfl I (λn s hI=>?_) n h
 show wpAny _ A ((compTurn (.ListComp elt gens sc pos) d it acc env).onRaise (λx=>do noteFrame x env;theTreesLotGoes x)) _ _ s
 refine wpAny_noted ?_
 unfold compTurn
 simp only [hg,ha]
 simp only [bne_self_eq_false,Bool.false_eq_true,if_false]
 refine wpAny_bind (wpAny_standAt (wpAny_bind (Wp.to (turn n s hI) (λr s1 h1=>?_))))
 cases r with
 | none=>exact wpAny_pure h1
 | some v=>
  refine wpAny_bind (Wp.to h1 (λ_ s1' h1'=>?_))
  refine wpAny_bind (Wp.to h1' (λ_ s2 h2=>?_))
  refine wpAny_bind (Wp.to h2 (λok s3 h3=>?_))
  cases ok with
  | false=>exact wpAny_pure ⟨rfl,h3⟩
  | true=>
   simp only [if_true] at h3 ⊢
   cases hn:gens[d+1]? with
   | none=>
    rw [hn] at h3
    simp only at h3 ⊢
    refine wpAny_bind (wpAny_bind (Wp.to h3 (λx s4 h4=>?_)))
    refine wpAny_bind (Wp.to h4 (λx s5 h5=>?_))
    exact wpAny_pure (wpAny_pure ⟨rfl,h5⟩)
   | some g'=>
    rw [hn] at h3
    simp only [hga g' hn,bne_self_eq_false,Bool.false_eq_true,if_false] at h3 ⊢
    refine wpAny_bind (Wp.to h3 (λx s4 h4=>wpAny_bind (wpAny_standAt ?_)))
    refine wpAny_bind (Wp.to h4 (λx s5 h5=>?_))
    refine wpAny_bind (wpAny_holding (Wp.to h5 (λit' s6 h6=>?_)))
    refine wpAny_bind (wpAny_runOwn (codeAny_mono h6 λr s7 h7=>?_))
    refine byC0 λzn=>?_;refine q1_2 h7 λf z1 z2=>?_;clear h7;subst z1;revert z2;intro h7;refine zn ?_;clear zn
    exact wpAny_pure ⟨rfl,h7⟩
end
structure Le (h h':Heap):Prop where
 get:∀ b o,h.get? b=some o->h'.get? b=some o
theorem Le.refl (h:Heap):Le h h:=⟨λ_ _ e=>e⟩
theorem Le.trans {h1 h2 h3:Heap} (x:Le h1 h2) (y:Le h2 h3):Le h1 h3:=⟨λb o e=>y.get b o (x.get b o e)⟩
theorem Le.push (h:Heap) (o:Obj):Le h (h.push o):=⟨λ_ _ e=>Heap.get?_push_of_some _ e⟩
structure Kp (s s':Shared):Prop where
 same:∃ h' tk,s'={ s with heap:=h',toks:=tk }
 le:Le s.heap s'.heap
theorem Kp.refl (s:Shared):Kp s s:=⟨e2_1 s.heap s.toks rfl,Le.refl _⟩
theorem Kp.mk' {s:Shared} {h':Heap} {tk:Nat} (k:Le s.heap h'):Kp s { s with heap:=h',toks:=tk }:=⟨e2_1 _ _ rfl,k⟩
theorem Kp.tok (s:Shared) (t:Nat):Kp s { s with toks:=t }:=⟨e2_1 s.heap t rfl,Le.refl _⟩
theorem Kp.trans {s1 s2 s3:Shared} (x:Kp s1 s2) (y:Kp s2 s3):Kp s1 s3:=by
 refine byC0 λzn=>?_
 rcases x with ⟨⟨h,t,rfl⟩,k⟩
 rcases y with ⟨⟨h',t',rfl⟩,k'⟩
 refine zn ?_;clear zn
 exact⟨e2_1 h' t' rfl,k.trans k'⟩
theorem Kp.push (s:Shared) (o:Obj):Kp s { s with heap:=s.heap.push o }:=⟨e2_1 _ _ rfl,Le.push _ _⟩
structure Nw (s s':Shared) (g:Heap):Prop where
 get:∀ b o,s.heap.get? b=none->s'.heap.get? b=some o->g.get? b=some o
theorem Nw.self (s s':Shared):Nw s s' s'.heap:=⟨λ_ _ _ e=>e⟩
theorem Le.none {h h':Heap} (l:Le h h') {b:Addr} (e:h'.get? b=none):h.get? b=none:=by
 cases q:h.get? b with
 | none=>rfl
 | some o=>rw [l.get b o q] at e;cases e
theorem Nw.left {s1 s2 s3:Shared} {g:Heap} (n:Nw s1 s3 g) (k:Le s2.heap s3.heap):Nw s1 s2 g:=⟨λb o e e'=>n.get b o e (k.get b o e')⟩
theorem Nw.right {s1 s2 s3:Shared} {g:Heap} (n:Nw s1 s3 g) (k:Le s1.heap s2.heap):Nw s2 s3 g:=⟨λb o e e'=>n.get b o (k.none e) e'⟩
structure Ok (n:Nat) (A:Around):Prop where
 hd:A.handled=none
 dp:A.depth+n<recursionLimit
 un:A.units+8 * n+8<cLine
theorem Ok.deeper {n:Nat} {A:Around} {env:Env} (h:Ok (n+1) A):Ok n (A.deeper env):=⟨h.hd,by have:=h.dp;show A.depth+1+n<_;omega,by have:=h.un;show A.units+3+8 * n+8<_;omega⟩
theorem Ok.units {n:Nat} {A:Around} (h:Ok n A):A.units<cLine:=by have:=h.un;omega
theorem Ok.depth {n:Nat} {A:Around} (h:Ok n A):A.depth<recursionLimit:=by have:=h.dp;omega
section
variable {w:World} {A:Around} {b h:Heap} {env:Env}
noncomputable def Yd (w:World) (A:Around) (b h:Heap) (env:Env) (e:Expr) (P:Value->Heap->Prop):Prop:=
 ∀ s,Le b s.heap->Le h s.heap->Wp w A (eval e env) (λv s'=>Kp s s'/\∀ g,Le b g->Nw s s' g->P v g) s
noncomputable def Td (w:World) (A:Around) (b h:Heap) (env:Env) (e:Expr) (c:Bool):Prop:=
 ∀ s,Le b s.heap->Le h s.heap->Wp w A (isTrue e env (eval e env)) (λr s'=>r=c/\Kp s s') s
noncomputable def IsI (i:Int):Value->Heap->Prop:=λv _=>∃ t,v=.int i t
noncomputable def IsS (x:Str):Value->Heap->Prop:=λv _=>∃ t,v=.str x t
noncomputable def IsB (b:Bool):Value->Heap->Prop:=λv _=>v=.bool b
noncomputable def IsV (u:Value):Value->Heap->Prop:=λv _=>v=u
theorem Yd.mono {e:Expr} {P P':Value->Heap->Prop} (x:Yd w A b h env e P) (hp:∀ v g,Le b g->P v g->P' v g):Yd w A b h env e P':=
 λs hb hs=>(x s hb hs).to λv s' q=>⟨q.1,λg hg n=>hp v g hg (q.2 g hg n)⟩
theorem Yd.up {e:Expr} {P:Value->Heap->Prop} {h':Heap} (x:Yd w A b h env e P) (hl:Le h h'):Yd w A b h' env e P:=λs hb hs=>x s hb (hl.trans hs)
noncomputable def Var (h:Heap) (env:Env) (x:Str) (v:Value):Prop:=
 ∀ (w:World) (A:Around) (s:Shared) (Q:Value->Shared->Prop) (E:Value->Shared->Prop),Le h s.heap->Q v s->wpAny (model Pg w) A (loadName env x) Q E s
theorem Var.up {x:Str} {v:Value} {h':Heap} (k:Var h env x v) (hl:Le h h'):Var h' env x v:=λw A s Q E hs q=>k w A s Q E (hl.trans hs) q
theorem Var.loc {x:Str} {v:Value} {m:SoV} (hk:env.scope.kind=.function) (hl:env.kindOf x=some .local) (hn:h.Ns env.locals m) (hv:m x=some v):Var h env x v:=
 λ_ _ _ _ _ hs q=>wpAny_loadName_local hk hl (hn.keeps hs.get) hv q
theorem Var.cel {x:Str} {v:Value} {c:Addr} (hk:env.scope.kind=.function) (hl:env.kindOf x=some .cell) (hc:env.cells.lookup x=some c) (hv:h.IsCell c (some v)):Var h env x v:=
 λ_ _ _ _ _ hs q=>wpAny_loadName_cell hk hl hc (hv.keeps hs.get) q
theorem Var.fre {x:Str} {v:Value} {c:Addr} (hk:env.scope.kind=.function) (hl:env.kindOf x=some .free) (hc:env.cells.lookup x=some c) (hv:h.IsCell c (some v)) (hn:(x == ("__classdict__" : Str))=false):Var h env x v:=
 λ_ _ _ _ _ hs q=>wpAny_loadName_free hk hl hc (hv.keeps hs.get) q hn
theorem loadName_glob {M:Model} {s:Shared} {E:Value->Shared->Prop} {x:Str} {Q:Value->Shared->Prop} (hk:env.scope.kind=.function) (hx:env.kindOf x=some .globalImplicit)
  (h:wpAny M A (loadGlobal env x) Q E s):wpAny M A (loadName env x) Q E s:=by
 unfold loadName
 simp only [Env.blockKind,hk,hx,ScopeKind.isAnnotationScope,Bool.false_and,Bool.false_eq_true,if_false]
 exact h
theorem Var.glo {x:Str} {v:Value} {mg:SoV} (hk:env.scope.kind=.function) (hl:env.kindOf x=some .globalImplicit) (hg:h.Ns env.globals mg) (hv:mg x=some v):Var h env x v:=
 λ_ _ _ _ _ hs q=>loadName_glob hk hl (loadGlobal_global (hg.keeps hs.get) hv q)
theorem Var.blt {x:Str} {v:Value} {mg mb:SoV} (hk:env.scope.kind=.function) (hl:env.kindOf x=some .globalImplicit) (hg:h.Ns env.globals mg) (hm:mg x=none) (hb:h.Ns env.builtins mb) (hv:mb x=some v):Var h env x v:=
 λ_ _ _ _ _ hs q=>loadName_glob hk hl (loadGlobal_builtin (hg.keeps hs.get) hm (hb.keeps hs.get) hv q)
theorem Yd.nam {x:Str} {p:Pos} {v:Value} {P:Value->Heap->Prop} (k:Var h env x v) (hp:∀ g,Le b g->P v g) (hd:autoParam ((x == ("__debug__" : Str))=false) auD):Yd w A b h env (.Name x p) P:=
 λs _ hs=>wpAny_Name (k w A s _ _ hs ⟨Kp.refl s,λg hg _=>hp _ hg⟩) hd
theorem Yd.namI {x:Str} {p:Pos} {i:Int} {t:Tok} (k:Var h env x (.int i t)) (hd:autoParam ((x == ("__debug__" : Str))=false) auD):Yd w A b h env (.Name x p) (IsI i):=Yd.nam k (λ_ _=>⟨t,rfl⟩) hd
theorem Yd.namV {x:Str} {p:Pos} {v:Value} (k:Var h env x v) (hd:autoParam ((x == ("__debug__" : Str))=false) auD):Yd w A b h env (.Name x p) (IsV v):=Yd.nam k (λ_ _=>rfl) hd
theorem Yd.int {i:Int} {k:Nat} {p:Pos}:Yd w A b h env (.Constant (.int i) k p) (IsI i):=λs _ _=>wpAny_Constant_int ⟨Kp.tok s _,λ_ _ _=>⟨_,rfl⟩⟩
theorem Yd.str {x:Str} {k:Nat} {p:Pos}:Yd w A b h env (.Constant (.str x) k p) (IsS x):=λs _ _=>Calls.Constant_str ⟨Kp.tok s _,λ_ _ _=>⟨_,rfl⟩⟩
theorem Yd.bool {c:Bool} {k:Nat} {p:Pos}:Yd w A b h env (.Constant (.bool c) k p) (IsB c):=λs _ _=>wpAny_Constant_bool ⟨Kp.refl s,λ_ _ _=>rfl⟩
theorem Yd.none {k:Nat} {p:Pos}:Yd w A b h env (.Constant .none k p) (IsV .none):=λs _ _=>wpAny_Constant_none ⟨Kp.refl s,λ_ _ _=>rfl⟩
theorem Yd.bin {l r:Expr} {op:Operator} {p:Pos} {P₁ P₂ P:Value->Heap->Prop} (x:Yd w A b h env l P₁) (y:Yd w A b h env r P₂)
  (ho:∀ u v s,Le b s.heap->Le h s.heap->P₁ u s.heap->P₂ v s.heap->Wp w A (binaryOp op u v) (λz s'=>Kp s s'/\∀ g,Le b g->Nw s s' g->P z g) s):Yd w A b h env (.BinOp l op r p) P:=
 λs hb hs=>wpAny_BinOp ((x s hb hs).to λu s1 q1=>(y s1 (hb.trans q1.1.le) (hs.trans q1.1.le)).to λv s2 q2=>
  have l2:=q1.1.le.trans q2.1.le
  (ho u v s2 (hb.trans l2) (hs.trans l2) (q1.2 _ (hb.trans l2) ((Nw.self s s2).left q2.1.le)) (q2.2 _ (hb.trans l2) (Nw.self _ _))).to
   λz s3 q3=>⟨(q1.1.trans q2.1).trans q3.1,λg hg n=>q3.2 g hg (n.right l2)⟩)
theorem Yd.cmp {l r:Expr} {op:CmpOp} {p:Pos} {P₁ P₂:Value->Heap->Prop} {c:Bool} (x:Yd w A b h env l P₁) (y:Yd w A b h env r P₂)
  (ho:∀ u v s,Le b s.heap->Le h s.heap->P₁ u s.heap->P₂ v s.heap->Wp w A (compareOp op u v) (λz s'=>Kp s s'/\z=.bool c) s) (hm:autoParam (behindInMarks op r=false) auR):Yd w A b h env (.Compare l [op] [r] p) (IsB c):=
 λs hb hs=>wpAny_Compare1 ((x s hb hs).to λu s1 q1=>(y s1 (hb.trans q1.1.le) (hs.trans q1.1.le)).to λv s2 q2=>
  have l2:=q1.1.le.trans q2.1.le
  (ho u v s2 (hb.trans l2) (hs.trans l2) (q1.2 _ (hb.trans l2) ((Nw.self s s2).left q2.1.le)) (q2.2 _ (hb.trans l2) (Nw.self _ _))).to
   λz s3 q3=>⟨(q1.1.trans q2.1).trans q3.1,λg hg n=>q3.2⟩) hm
theorem Td.cmp {l r:Expr} {op:CmpOp} {p:Pos} {P₁ P₂:Value->Heap->Prop} {c:Bool} (x:Yd w A b h env l P₁) (y:Yd w A b h env r P₂)
  (ho:∀ u v s,Le b s.heap->Le h s.heap->P₁ u s.heap->P₂ v s.heap->Wp w A (compareOp op u v) (λz s'=>Kp s s'/\z=.bool c) s) (hm:autoParam (behindInMarks op r=false) auR):Td w A b h env (.Compare l [op] [r] p) c:=
 λs hb hs=>wpAny_isTrue_Compare1 ((x s hb hs).to λu s1 q1=>(y s1 (hb.trans q1.1.le) (hs.trans q1.1.le)).to λv s2 q2=>
  have l2:=q1.1.le.trans q2.1.le
  (ho u v s2 (hb.trans l2) (hs.trans l2) (q1.2 _ (hb.trans l2) ((Nw.self s s2).left q2.1.le)) (q2.2 _ (hb.trans l2) (Nw.self _ _))).to
   λz s3 q3=>by
   refine q0_2 q3 λk3 z1=>?_;clear q3;subst z1
   exact wpAny_truthy_bool ⟨rfl,(q1.1.trans q2.1).trans k3⟩) hm
theorem Yd.add {l r:Expr} {p:Pos} {i j:Int} (x:Yd w A b h env l (IsI i)) (y:Yd w A b h env r (IsI j)):Yd w A b h env (.BinOp l .Add r p) (IsI (i+j)):=
 x.bin y λu v s _ _ hu hv=>by refine q1_1 hu λt z1=>?_;clear hu;subst z1;refine byC0 λzn=>?_;refine q1_1 hv λt' z1=>?_;clear hv;subst z1;refine zn ?_;clear zn;exact add_int ⟨Kp.tok s _,λ_ _ _=>⟨_,rfl⟩⟩
theorem Yd.sub {l r:Expr} {p:Pos} {i j:Int} (x:Yd w A b h env l (IsI i)) (y:Yd w A b h env r (IsI j)):Yd w A b h env (.BinOp l .Sub r p) (IsI (i-j)):=
 x.bin y λu v s _ _ hu hv=>by refine q1_1 hu λt z1=>?_;clear hu;subst z1;refine byC0 λzn=>?_;refine q1_1 hv λt' z1=>?_;clear hv;subst z1;refine zn ?_;clear zn;exact sub_int ⟨Kp.tok s _,λ_ _ _=>⟨_,rfl⟩⟩
theorem Yd.mod {l r:Expr} {p:Pos} {i j:Int} (x:Yd w A b h env l (IsI i)) (y:Yd w A b h env r (IsI j)) (hj:j≠0):Yd w A b h env (.BinOp l .Mod r p) (IsI (i.fmod j)):=
 x.bin y λu v s _ _ hu hv=>by refine q1_1 hu λt z1=>?_;clear hu;subst z1;refine q1_1 hv λt' z1=>?_;clear hv;subst z1;exact mod_int hj ⟨Kp.tok s _,λ_ _ _=>⟨_,rfl⟩⟩
theorem Yd.fdiv {l r:Expr} {p:Pos} {i j:Int} (x:Yd w A b h env l (IsI i)) (y:Yd w A b h env r (IsI j)) (hj:j≠0) (hj':j.natAbs<1073741824):Yd w A b h env (.BinOp l .FloorDiv r p) (IsI (i.fdiv j)):=
 x.bin y λu v s _ _ hu hv=>by refine q1_1 hu λt z1=>?_;clear hu;subst z1;refine q1_1 hv λt' z1=>?_;clear hv;subst z1;exact floordiv_int hj ⟨Kp.tok s _,λ_ _ _=>⟨_,rfl⟩⟩ (Or.inl (PyProof.noPylong_small hj'))
theorem Td.lt {l r:Expr} {p:Pos} {i j:Int} (x:Yd w A b h env l (IsI i)) (y:Yd w A b h env r (IsI j)) (hm:autoParam (behindInMarks .Lt r=false) auR):Td w A b h env (.Compare l [.Lt] [r] p) (decide (i<j)):=
 Td.cmp x y (λu v s _ _ hu hv=>by refine q1_1 hu λt z1=>?_;clear hu;subst z1;refine q1_1 hv λt' z1=>?_;clear hv;subst z1;exact lt_int ⟨Kp.refl s,rfl⟩) hm
theorem Td.eq {l r:Expr} {p:Pos} {i j:Int} (x:Yd w A b h env l (IsI i)) (y:Yd w A b h env r (IsI j)) (hm:autoParam (behindInMarks .Eq r=false) auR):Td w A b h env (.Compare l [.Eq] [r] p) (i == j):=
 Td.cmp x y (λu v s _ _ hu hv=>by refine q1_1 hu λt z1=>?_;clear hu;subst z1;refine q1_1 hv λt' z1=>?_;clear hv;subst z1;exact eq_int ⟨Kp.refl s,rfl⟩) hm
theorem Td.ne {l r:Expr} {p:Pos} {i j:Int} (x:Yd w A b h env l (IsI i)) (y:Yd w A b h env r (IsI j)) (hm:autoParam (behindInMarks .NotEq r=false) auR):Td w A b h env (.Compare l [.NotEq] [r] p) (i != j):=
 Td.cmp x y (λu v s _ _ hu hv=>by refine q1_1 hu λt z1=>?_;clear hu;subst z1;refine q1_1 hv λt' z1=>?_;clear hv;subst z1;exact ne_int ⟨Kp.refl s,rfl⟩) hm
end
structure Ev (X:List Addr) (s s':Shared):Prop where
 same:∃ h' tk,s'={ s with heap:=h',toks:=tk }
 get:∀ b o,b∉X->s.heap.get? b=some o->s'.heap.get? b=some o
theorem Ev.refl (X:List Addr) (s:Shared):Ev X s s:=⟨e2_1 s.heap s.toks rfl,λ_ _ _ e=>e⟩
theorem Ev.trans {X:List Addr} {s1 s2 s3:Shared} (x:Ev X s1 s2) (y:Ev X s2 s3):Ev X s1 s3:=by
 refine byC0 λzn=>?_
 rcases x with ⟨⟨h,t,rfl⟩,k⟩
 rcases y with ⟨⟨h',t',rfl⟩,k'⟩
 refine zn ?_;clear zn
 exact⟨e2_1 h' t' rfl,λb o n e=>k' b o n (k b o n e)⟩
theorem Ev.mono {X Y:List Addr} {s1 s2:Shared} (x:Ev X s1 s2) (hs:∀ a∈X,a∈Y):Ev Y s1 s2:=⟨x.same,λb o n e=>x.get b o (λm=>n (hs b m)) e⟩
theorem Kp.ev {X:List Addr} {s s':Shared} (k:Kp s s'):Ev X s s':=⟨k.same,λb o _ e=>k.le.get b o e⟩
theorem Ev.le {X:List Addr} {s s':Shared} (x:Ev X s s') {h:Heap} (hs:Le h s.heap) (off:∀ a∈X,h.get? a=none):Le h s'.heap:=
 ⟨λb o e=>x.get b o (λm=>by rw [off b m] at e;cases e) (hs.get b o e)⟩
theorem Nw.leftE {X:List Addr} {s1 s2 s3:Shared} {g:Heap} (n:Nw s1 s3 g) (k:Ev X s2 s3) (live:∀ a∈X,∃ o,s1.heap.get? a=some o):Nw s1 s2 g:=
 ⟨λb o e e'=>n.get b o e (k.get b o (λm=>by refine q1_1 (live b m) λo' q=>?_;rw [e] at q;cases q) e')⟩
structure Fs (h:Heap) (env:Env) (own:List (Str×Addr)) (m cm:SoV):Prop where
 ns:h.Ns env.locals m
 cell:∀ n c,(n,c)∈own->h.IsCell c (cm n)
 look:∀ n c,(n,c)∈own->env.cells.lookup n=some c
 apart:own.Pairwise λx y=>x.2≠y.2
 off:∀ n c,(n,c)∈own->c≠env.locals
noncomputable abbrev ft (env:Env) (own:List (Str×Addr)):List Addr:=env.locals::own.map (·.2)
theorem mem_ft {env:Env} {own:List (Str×Addr)} {n:Str} {c:Addr} (h:(n,c)∈own):c∈ft env own:=zT (List.mem_map.mpr (e1_2 _ h rfl))
theorem Fs.get {h h':Heap} {env:Env} {own:List (Str×Addr)} {m cm:SoV} (F:Fs h env own m cm) (k:∀ b∈ft env own,∀ o,h.get? b=some o->h'.get? b=some o):Fs h' env own m cm:=
 ⟨F.ns.at' λo e=>k _ (zH ..) o e,λn c hc=>by
  refine q1_2 (F.cell n c hc) λo ho hd=>?_
  exact e1_2 o (k c (mem_ft hc) o ho) hd,F.look,F.apart,F.off⟩
theorem Fs.le {h h':Heap} {env:Env} {own:List (Str×Addr)} {m cm:SoV} (F:Fs h env own m cm) (k:Le h h'):Fs h' env own m cm:=F.get λb _ o e=>k.get b o e
theorem Fs.live {h:Heap} {env:Env} {own:List (Str×Addr)} {m cm:SoV} (F:Fs h env own m cm):∀ a∈ft env own,∃ o,h.get? a=some o:=by
 intro a ha
 (rcases zC ha with rfl | ha)
 ·refine q3_2 (F.ns) λo _ _ ho _=>?_;exact⟨o,ho⟩
 ·rcases List.mem_map.mp ha with ⟨⟨n,c⟩,hc,rfl⟩
  refine q1_2 (F.cell n c hc) λo ho _=>?_;exact⟨o,ho⟩
theorem Fs.var {h:Heap} {env:Env} {own:List (Str×Addr)} {m cm:SoV} {x:Str} {v:Value} (F:Fs h env own m cm) (hk:env.scope.kind=.function) (hl:env.kindOf x=some .local) (hv:m x=some v):Var h env x v:=Var.loc hk hl F.ns hv
theorem Fs.varC {h:Heap} {env:Env} {own:List (Str×Addr)} {m cm:SoV} {x:Str} {c:Addr} {v:Value} (F:Fs h env own m cm) (hk:env.scope.kind=.function) (hl:env.kindOf x=some .cell) (hc:(x,c)∈own) (hv:cm x=some v):Var h env x v:=
 Var.cel hk hl (F.look _ _ hc) (hv▸F.cell _ _ hc)
theorem Fs.cel {h:Heap} {env:Env} {own:List (Str×Addr)} {m cm:SoV} {x:Str} {c:Addr} {v:Value} (_F:Fs h env own m cm) (hv:h.IsCell c (some v)) (hk:env.scope.kind=.function) (hl:env.kindOf x=some .cell) (hc:env.cells.lookup x=some c):Var h env x v:=Var.cel hk hl hc hv
theorem Fs.fre {h:Heap} {env:Env} {own:List (Str×Addr)} {m cm:SoV} {x:Str} {c:Addr} {v:Value} (_F:Fs h env own m cm) (hv:h.IsCell c (some v)) (hk:env.scope.kind=.function) (hl:env.kindOf x=some .free) (hc:env.cells.lookup x=some c) (hn:autoParam ((x == ("__classdict__" : Str))=false) auD):Var h env x v:=Var.fre hk hl hc hv hn
theorem Fs.glo {h:Heap} {env:Env} {own:List (Str×Addr)} {m cm:SoV} {x:Str} {v:Value} {mg:SoV} (_F:Fs h env own m cm) (hg:h.Ns mainGlobals mg) (hv:mg x=some v) (hk:env.scope.kind=.function) (hl:env.kindOf x=some .globalImplicit) (e:env.globals=mainGlobals):Var h env x v:=Var.glo hk hl (e▸hg) hv
theorem Fs.blt {h:Heap} {env:Env} {own:List (Str×Addr)} {m cm:SoV} {x:Str} {v:Value} {mg mb:SoV} (_F:Fs h env own m cm) (hg:h.Ns mainGlobals mg) (hm:mg x=none) (hb:h.Ns builtinsNs mb) (hv:mb x=some v) (hk:env.scope.kind=.function) (hl:env.kindOf x=some .globalImplicit) (e:env.globals=mainGlobals) (e':env.builtins=builtinsNs):Var h env x v:=
 Var.blt hk hl (e▸hg) hm (e'▸hb) hv
noncomputable abbrev up (m:SoV) (x:Str) (v:Value):SoV:=λy=>if y=x then some v else m y
section
variable {w:World} {A:Around} {s:Shared} {env:Env} {own:List (Str×Addr)} {m cm:SoV}
theorem sto_loc {x:Str} {v:Value} (F:Fs s.heap env own m cm) (hk:env.scope.kind=.function) (hl:env.kindOf x=some .local) :
  Wp w A (storeName env x v) (λ_ s'=>Ev (ft env own) s s'/\Fs s'.heap env own (up m x v) cm) s:=by
 refine wpAny_storeName_local hl F.ns (λh' hn' hs'=>⟨⟨e2_1 _ _ rfl,λb o nb e=>hs'.extBut b o (λq=>nb (q▸zH ..)) e⟩,hn',λn c hc=>?_,F.look,F.apart,F.off⟩) (by rw [hk];rfl)
 exact (F.cell n c hc).sameBut hs' (F.off n c hc)
theorem sto_cell {x:Str} {c:Addr} {v:Value} (F:Fs s.heap env own m cm) (hk:env.scope.kind=.function) (hl:env.kindOf x=some .cell) (hc:(x,c)∈own) (hn1:∀ n c',(n,c')∈own->n=x->c'=c) :
  Wp w A (storeName env x v) (λ_ s'=>Ev (ft env own) s s'/\Fs s'.heap env own m (up cm x v)) s:=by
 refine wpAny_storeName_cell hk hl (F.look _ _ hc) (F.cell _ _ hc) (λh' hn' hs'=>⟨⟨e2_1 _ _ rfl,λb o nb e=>hs'.extBut b o (λq=>nb (q▸mem_ft hc)) e⟩,F.ns.sameBut hs' (λq=>F.off _ _ hc q.symm),λn c' hc'=>?_,F.look,F.apart,F.off⟩)
 by_cases hn:n=x
 ·subst hn
  have:=hn1 _ _ hc' rfl
  subst this
  simpa [up] using hn'
 ·simp only [up,if_neg hn]
  refine (F.cell n c' hc').sameBut hs' λe=>?_
  subst e
  exact hn (name_of_addr F.apart hc' hc)
theorem asg_loc {x:Str} {p:Pos} {v:Value} (F:Fs s.heap env own m cm) (hk:env.scope.kind=.function) (hl:env.kindOf x=some .local) :
  Wp w A (assign (.Name x p) env v) (λ_ s'=>Ev (ft env own) s s'/\Fs s'.heap env own (up m x v) cm) s:=wpAny_assign_Name (sto_loc F hk hl)
theorem asg_cell {x:Str} {p:Pos} {c:Addr} {v:Value} (F:Fs s.heap env own m cm) (hk:env.scope.kind=.function) (hl:env.kindOf x=some .cell) (hc:(x,c)∈own) (hn1:∀ n c',(n,c')∈own->n=x->c'=c) :
  Wp w A (assign (.Name x p) env v) (λ_ s'=>Ev (ft env own) s s'/\Fs s'.heap env own m (up cm x v)) s:=wpAny_assign_Name (sto_cell F hk hl hc hn1)
theorem asg_tup2 {x y:Str} {p q r:Pos} {k:Nat} {t:Addr} {v u:Value} (hA:A.handled=none) (F:Fs s.heap env own m cm) (hk:env.scope.kind=.function) (hx:env.kindOf x=some .local) (hy:env.kindOf y=some .local)
  (ht:s.heap.IsTuple t #[v,u]) :
  Wp w A (assign (.Tuple [.Name x p,.Name y q] k r) env (.ref t)) (λ_ s'=>Ev (ft env own) s s'/\Fs s'.heap env own (up (up m x v) y u) cm) s:=by
 refine wpAny_assign_Tuple hA ht rfl rfl λh' hx'=>?_
 have l:Le s.heap h':=⟨λb o e=>hx' b o (Nat.ne_of_lt (Heap.lt_size e)) e⟩
 show wpAny _ A (assignInOrder [assign (.Name x p) env,assign (.Name y q) env] [v,u]) _ _ _
 unfold assignInOrder
 refine wpAny_bind (wpAny_holding ((asg_loc (s:={ s with heap:=h' }) (F.le l) hk hx).to λ_ s1 q1=>?_))
 unfold assignInOrder
 refine wpAny_bind (wpAny_holding ((asg_loc q1.2 hk hy).to λ_ s2 q2=>?_))
 unfold assignInOrder
 refine wpAny_pure ⟨?_,q2.2⟩
 exact ((Kp.mk' (s:=s) (tk:=s.toks) l).ev.trans q1.1).trans q2.1
end
noncomputable def compE (sc:Scope) (C:Addr) (cells:List (Str×Addr)) (env:Env):Env:=
 { scope:=relabel sc env,locals:=C,globals:=env.globals,cells:=cells,qual:=env.qual,func:=none,code:=env.code,frame:=env.frame,builtins:=env.builtins }
noncomputable def ownCells (n:Nat):List (Str×NameKind)->List (Str×Addr)->List (Str×Addr)
 | [],acc=>acc
 | (name,kind)::r,acc=>if kind == .cell then ownCells (n+1) r ((name,n)::acc) else ownCells n r acc
theorem ownCells_from (names:List (Str×NameKind)):∀ (n:Nat) (acc cl:List (Str×Addr)),cellsFrom n names (acc++cl)=ownCells n names acc++cl:=by
 induction names with
 | nil=>intro n acc cl;rfl
 | cons x r ih=>
  intro n acc cl
  refine byC0 λzn=>?_;rcases x with ⟨a,k⟩;refine zn ?_;clear zn
  unfold cellsFrom ownCells
  split
  ·exact ih (n+1) ((a,n)::acc) cl
  ·exact ih n acc cl
section
variable {w:World} {A:Around} {s:Shared} {env:Env}
theorem newEnv_comp {scope:Scope} {cl:List (Str×Addr)} {Q:Env->Shared->Prop} {E:Value->Shared->Prop}
  (hQ:∀ (C:Nat) h',s.heap.get? C=none->Le s.heap h'->h'.Ns C (λ_=>none)->CellsOk h' (C+1) (ownCells (C+1) scope.names [])->s.heap.objs.size<=C->
   Q (newEnv scope C env.globals (ownCells (C+1) scope.names []++cl) env.qual none .none (some env) builtinsNs) { s with heap:=h' }) :
  wpAny (model Pg w) A (newFunctionEnv scope env.globals cl [] env.qual none .none (some env)) Q E s:=by
 simp only [newFunctionEnv,Option.isSome_some,if_true]
 refine wpAny_bind (wpAny_alloc ?_)
 refine wpAny_bind (wpAny_layCells _ (λname kind cells=>by cases hkc:kind == NameKind.cell<;>simp [hkc]) _ _ _ _ ?_)
 have ok:=cellsFrom_ok scope.names (s.heap.push { cls:=.type "dict",data:=.dict #[] }) (s.heap.objs.size+1) [] ⟨λ_ _ hm=>(nomatch hm),List.Pairwise.nil⟩ (by rw [Heap.size_push];exact Nat.le_refl _)
 rw [Heap.size_push] at ok
 rw [show ({ s with heap:=s.heap.push { cls:=.type "dict",data:=.dict #[] } }:Shared).heap.objs.size=s.heap.objs.size+1 from Heap.size_push ..]
 refine wpAny_bind (wpAny_pure (wpAny_pure ?_))
 have e1:cellsFrom (s.heap.objs.size+1) scope.names []=ownCells (s.heap.objs.size+1) scope.names []:=by
  have:=ownCells_from scope.names (s.heap.objs.size+1) [] []
  simpa using this
 rw [e1] at ok
 have e2:cellsFrom (s.heap.objs.size+1) scope.names cl=ownCells (s.heap.objs.size+1) scope.names []++cl:=by
  have:=ownCells_from scope.names (s.heap.objs.size+1) [] cl
  simpa using this
 rw [e2]
 refine hQ s.heap.objs.size _ ?_ ⟨λb o e=>pushCells_keeps _ _ b o (Heap.get?_push_of_some _ e)⟩ ((Heap.Ns.new s.heap (.type "dict")).keeps (pushCells_keeps _ _)) ok (Nat.le_refl _)
 cases q:s.heap.get? s.heap.objs.size with
 | none=>rfl
 | some o=>exact absurd (Heap.lt_size q) (Nat.lt_irrefl _)
end
section
variable {w:World} {A:Around} {s:Shared} {R:Result->Shared->Prop}
theorem compStart_at {elt:Expr} {gens:List Comprehension} {sc:Scope} {pos:Pos} {d:Nat} {I:Addr} {acc:Value} {env:Env} {g:Comprehension} (hg:gens[d]?=some g) (ha:g.is_async=0)
  (hself:∀ (Q:Value->Shared->Prop) (E:Value->Shared->Prop),Q (.ref I) s->wpAny (model Pg w) A (pyIter (.ref I)) Q E s)
  (h:codeAny (model Pg w) A (.compLoop (.ListComp elt gens sc pos) d (.ref I) acc env) R s) :
  codeAny (model Pg w) A (.compStart (.ListComp elt gens sc pos) d (.ref I) acc env) R s:=by
 refine codeAny_of_tree ?_
 show wpAny _ _ ((compStart (.ListComp elt gens sc pos) d (.ref I) acc env).onRaise (λx=>do noteFrame x env;standAt theWindowsPlace)) _ _ s
 refine wpAny_notedAt ?_
 unfold compStart
 have e1:(clausesOf (.ListComp elt gens sc pos))[d]?=some g:=hg
 rw [e1]
 simp only [Option.elim,ha,bne_self_eq_false,Bool.false_eq_true,if_false]
 refine wpAny_bind (wpAny_askSetting (wpAny_ite ?_))
 split
 ·first
   | exact wpAny_bind (wpAny_pure (wpAny_pure (And.intro rfl h)))
   | exact wpAny_pure (And.intro rfl h)
 ·refine wpAny_bind (wpAny_rule (wpAny_bind (wpAny_standAt (wpAny_bind (hself _ _ ?_)))))
  exact wpAny_pure (And.intro rfl h)
end
noncomputable def Itr (w:World) (A:Around) (h:Heap) (x:Value) (n:Nat) (P:Nat->Value->Prop) (s:Shared):Prop:=
 Wp w A (pyIter x) (λit s'=>∃ I fp St,it=.ref I/\Walks Pg w A I fp [I] n P St/\St 0 s'.heap/\Kp s s'/\s.heap.get? I=none/\
  (∀ i h',St i h'->∃ o,h'.get? I=some o)/\(∀ b∈fp,b≠I->∃ o,h.get? b=some o)/\
  (∀ i v target s',P i v->St (i+1) s'.heap->Wp w A (letOwnedTupleGo target (.ref I) v) (λ_ s''=>s''=s') s')) s
noncomputable def Src (w:World) (A:Around) (b h:Heap) (env:Env) (e:Expr) {β:Type} (xs:List β) (B:β->Value->Prop):Prop:=
 (∀ x,foldedSetIterable e env x=pure x)/\
 ∀ s,Le b s.heap->Le h s.heap->Wp w A (eval e env) (λx s1=>Kp s s1/\Itr w A b x xs.length (λj v=>∃ b,xs[j]?=some b/\B b v) s1) s
noncomputable abbrev tests (ifs:List Expr) (env:Env):Sem Bool:=forIn ifs true λc r=>if r=true then do let ok ← isTrue c env (eval c env);pure (ForInStep.yield ok) else pure (ForInStep.yield r)
noncomputable def Ts (w:World) (A:Around) (b h:Heap) (env:Env) (ifs:List Expr) (c:Bool):Prop:=∀ s,Le b s.heap->Le h s.heap->Wp w A (tests ifs env) (λr s'=>r=c/\Kp s s') s
section
variable {w:World} {A:Around} {b h:Heap} {env:Env}
theorem Ts.nil:Ts w A b h env [] true:=λs _ _=>wpAny_tests_nil ⟨rfl,Kp.refl s⟩
theorem Ts.one {c:Expr} {r:Bool} (x:Td w A b h env c r):Ts w A b h env [c] r:=λs hb hs=>wpAny_tests_one (x s hb hs)
end
noncomputable def Tail (w:World) (A:Around) (elt:Expr) (gens:List Comprehension) (sc:Scope) (pos:Pos) (d:Nat) (acc:Value) (env:Env) (Post:Shared->Prop) (s3:Shared):Prop:=
 match gens[d+1]? with
 | some g'=>Wp w A (eval g'.iter env) (λx s4=>Wp w A (foldedSetIterable g'.iter env x) (λx s5=>Wp w A (pyIter x) (λit' s6=>
   codeAny (model Pg w) A (.compStart (.ListComp elt gens sc pos) (d+1) it' acc env) (λr s7=>∃ f,r=.ok f/\Post s7) s6) s5) s4) s3
 | none=>Wp w A (eval elt env) (λx s4=>Wp w A (call (.builtin "list.append") [acc,x]) (λ_ s5=>Post s5) s4) s3
noncomputable def Emits (w:World) (A:Around) (b r:Heap) (elt:Expr) (gens:List Comprehension) (sc:Scope) (pos:Pos) (d:Nat) (env:Env) (own:List (Str×Addr)) (D:Addr) (K:SoV->SoV->Prop)
  {α:Type} (l:List α) (R:α->Value->Heap->Prop):Prop:=
 ∀ s ys m cm,Le r s.heap->Fs s.heap env own m cm->K m cm->s.heap.PlainList D ys->ys.size+l.length<=sizeLine->
  Tail w A elt gens sc pos d (.ref D) env (λs'=>Ev (D::ft env own) s s'/\∃ m' cm' zs,Fs s'.heap env own m' cm'/\K m' cm'/\s'.heap.PlainList D (ys++zs)/\
   ∀ g,Le b g->Nw s s' g->Paired (λa v=>R a v g) l zs.toList) s
structure Off (h:Heap) (D:Addr) (env:Env) (own:List (Str×Addr)):Prop where
 none:∀ a∈D::ft env own,h.get? a=none
 ne:D∉ft env own
theorem live3 {h:Heap} {D:Addr} {ys:Array Value} {env:Env} {own:List (Str×Addr)} {m cm:SoV} (F:Fs h env own m cm) (p:h.PlainList D ys):∀ a∈D::ft env own,∃ o,h.get? a=some o:=by
 intro a ha
 (rcases zD ha with rfl | ha)
 ·refine q1_1 p λo ho=>?_;clear p;exact⟨_,ho⟩
 ·exact F.live a ha
section
variable {w:World} {A:Around} {b r:Heap} {elt:Expr} {gens:List Comprehension} {sc:Scope} {pos:Pos} {d:Nat} {env:Env} {own:List (Str×Addr)} {D:Addr} {K:SoV->SoV->Prop} {α:Type} {R:α->Value->Heap->Prop}
theorem emit_leaf {a:α} (hn:gens[d+1]?=none) (hbr:Le b r) (O:Off r D env own) (he:∀ hh m cm,Le r hh->Fs hh env own m cm->K m cm->Yd w A b hh env elt (R a)):Emits w A b r elt gens sc pos d env own D K [a] R:=by
 intro s ys m cm hs F hK hp hsz
 unfold Tail
 rw [hn]
 refine (he s.heap m cm hs F hK s (hbr.trans hs) (Le.refl _)).to λx s1 q=>?_
 refine wpAny_list_append_plain (hsz:=by simp at hsz;omega) (hp.at λo e=>q.1.le.get _ o e) λh' hl hs'=>?_
 have E1:Ev (D::ft env own) s s1:=q.1.ev
 have E2:Ev (D::ft env own) s1 { s1 with heap:=h' }:=⟨e2_1 _ _ rfl,λb o nb e=>hs'.extBut b o (λz=>nb (z▸zH ..)) e⟩
 refine e0_2 (E1.trans E2) (e3_4 m cm (#[x]) (F.get λb hb o e=>hs'.extBut b o (λz=>O.ne (z▸hb)) (q.1.le.get b o e)) hK (by simpa using hl) (λg hg n=>?_))
 have n1:Nw s s1 g:=n.leftE E2 (live3 F hp)
 exact .cons (q.2 g hg n1) .nil
theorem Tail.mono {Post Post':Shared->Prop} {acc:Value} {s:Shared} (x:Tail w A elt gens sc pos d acc env Post s) (hp:∀ s',Post s'->Post' s'):Tail w A elt gens sc pos d acc env Post' s:=by
 unfold Tail at x ⊢
 split at x
 ·exact Wp.to x λv s1 q=>Wp.to q λv s2 q=>Wp.to q λv s3 q=>codeAny_mono q λr s4 ⟨f,e,q⟩=>e1_2 f e (hp _ q)
 ·exact Wp.to x λv s1 q=>Wp.to q λv s2 q=>hp _ q
theorem flat_take {β:Type} (p:β->Bool) (f:β->List α) (xs:List β) (i:Nat) (b:β) (hb:xs[i]?=some b) :
  ((xs.take (i+1)).filter p).flatMap f=((xs.take i).filter p).flatMap f++(if p b=true then f b else []):=by
 rw [List.take_add_one,hb,List.filter_append,List.flatMap_append]
 cases hp:p b<;>simp [hp]
theorem flat_len {β:Type} (p:β->Bool) (f:β->List α) (xs:List β) (i:Nat):(((xs.take i).filter p).flatMap f).length<=((xs.filter p).flatMap f).length:=by
 have e:(xs.filter p).flatMap f=((xs.take i).filter p).flatMap f++((xs.drop i).filter p).flatMap f:=by
  rw [← List.flatMap_append,← List.filter_append,List.take_append_drop]
 rw [e,List.length_append];omega
theorem Paired.app {β γ:Type} {F:β->γ->Prop}:∀ {l1:List β} {k1:List γ} {l2:List β} {k2:List γ},Paired F l1 k1->Paired F l2 k2->Paired F (l1++l2) (k1++k2):=by
 intro _ _ _ _ h h'
 induction h with
 | nil=>exact h'
 | cons a t ih=>exact .cons a ih
end
namespace Z40
noncomputable section
def zQ (w:World) (A:Around) (b r:Heap) (elt:PySem.Expr) (gens:List Comprehension) (sc:Scope) (pos:Pos) (d:Nat) (env:Env) (own:List (Str×Addr)) (D:Addr) (K:SoV->SoV->Prop) (g':Comprehension) (I:Addr) (fp:List Addr) (St:Nat->Heap->Prop) (s:Shared) (ys:Array Value) (m cm:SoV):Prop:=∀ {α:Type} {R:α->Value->Heap->Prop} {β:Type} {xs:List β} {B:β->Value->Prop} {p:β->Bool} {f:β->List α} {K₁:β->SoV->SoV->Prop} (hn:gens[d]?=some g') (ha:g'.is_async=0) (hga:∀ g'',gens[d+1]?=some g''->g''.is_async=0) (hbr:Le b r) (O:Off r D env own) (W:Walks Pg w A I fp [I] xs.length (λj v=>∃ b,xs[j]?=some b/\B b v) St) (st0:St 0 s.heap) (lv:∀ i h',St i h'->∃ o,h'.get? I=some o) (hf:∀ b∈fp,b≠I->∃ o,r.get? b=some o) (go:∀ i v target s',(∃ b,xs[i]?=some b/\B b v)->St (i+1) s'.heap->Wp w A (letOwnedTupleGo target (.ref I) v) (λ_ s''=>s''=s') s') (hIr:r.get? I=none) (hIX:I∉D::ft env own) (hs:Le r s.heap) (F:Fs s.heap env own m cm) (hKm:K m cm) (hp:s.heap.PlainList D ys) (hsz:ys.size+((xs.filter p).flatMap f).length<=sizeLine) (hasg:∀ x v s m cm,x∈xs->B x v->Le r s.heap->Fs s.heap env own m cm->K m cm->Wp w A (assign g'.target env v) (λ_ s'=>Ev (ft env own) s s'/\∃ m' cm',Fs s'.heap env own m' cm'/\K₁ x m' cm') s) (htest:∀ x hh m cm,x∈xs->Le r hh->Fs hh env own m cm->K₁ x m cm->Ts w A b hh env g'.ifs (p x)) (hK:∀ x m cm,K₁ x m cm->K m cm) (hin:∀ x,x∈xs->p x=true->Emits w A b r elt gens sc pos d env own D (K₁ x) (f x) R),codeAny (model Pg w) A (.compLoop (.ListComp elt gens sc pos) d (.ref I) (.ref D) env) (λrr s'=>rr=.ok .next/\Ev (I::D::ft env own) s s'/\∃ m' cm' zs,Fs s'.heap env own m' cm'/\K m' cm'/\s'.heap.PlainList D (ys++zs)/\∀ g,Le b g->Nw s s' g->Paired (λa v=>R a v g) ((xs.filter p).flatMap f) zs.toList) s
abbrev zY:=((((World×Around)×(Heap×(Heap×PySem.Expr)))×(((List Comprehension)×Scope)×(Pos×(Nat×Env))))×((((List (Str×Addr))×Addr)×((SoV->SoV->Prop)×(Comprehension×Addr)))×(((List Addr)×((Nat->Heap->Prop)×Shared))×((Array Value)×(SoV×SoV)))))
def zR (p:zY):=zQ p.1.1.1.1 p.1.1.1.2 p.1.1.2.1 p.1.1.2.2.1 p.1.1.2.2.2 p.1.2.1.1 p.1.2.1.2 p.1.2.2.1 p.1.2.2.2.1 p.1.2.2.2.2 p.2.1.1.1 p.2.1.1.2 p.2.1.2.1 p.2.1.2.2.1 p.2.1.2.2.2 p.2.2.1.1 p.2.2.1.2.1 p.2.2.1.2.2 p.2.2.2.1 p.2.2.2.2.1 p.2.2.2.2.2
def zc:zY:=eps1 (neP (neP (neP (neP neW neA) neI) neI) (neP neI (neP (neP neI (neP neI neS)) neI))) zR
def w:=zc.1.1.1.1
def A:=zc.1.1.1.2
def b:=zc.1.1.2.1
def r:=zc.1.1.2.2.1
def elt:=zc.1.1.2.2.2
def gens:=zc.1.2.1.1
def sc:=zc.1.2.1.2
def pos:=zc.1.2.2.1
def d:=zc.1.2.2.2.1
def env:=zc.1.2.2.2.2
def own:=zc.2.1.1.1
def D:=zc.2.1.1.2
def K:=zc.2.1.2.1
def g':=zc.2.1.2.2.1
def I:=zc.2.1.2.2.2
def fp:=zc.2.2.1.1
def St:=zc.2.2.1.2.1
def s:=zc.2.2.1.2.2
def ys:=zc.2.2.2.1
def m:=zc.2.2.2.2.1
def cm:=zc.2.2.2.2.2
theorem zaux:zQ w A b r elt gens sc pos d env own D K g' I fp St s ys m cm:=by
 intro α R β xs B p f K₁ hn ha hga hbr O W st0 lv hf go hIr hIX hs F hKm hp hsz hasg htest hK hin
 have liveX:=live3 F hp
 have offX:∀ a∈I::D::ft env own,r.get? a=none:=λa ha=>by
  (rcases zC ha with rfl | ha)
  ·exact hIr
  ·exact O.none a ha
 have fpX:∀ b∈fp,b∉D::ft env own:=λb hb hm=>by
  by_cases e:b=I
  ·subst e;exact hIX hm
  ·refine q1_1 (hf b hb e) λo ho=>?_
   rw [O.none b hm] at ho;cases ho
 have live2:∀ a∈I::D::ft env own,∃ o,s.heap.get? a=some o:=λa ha=>by
  (rcases zC ha with rfl | ha)
  ·exact lv 0 _ st0
  ·exact liveX a ha
 refine compLoop_at hn ha
  (λk s'=>∃ i m' cm' zs,k=xs.length+1-i/\i<=xs.length/\St i s'.heap/\Ev (I::D::ft env own) s s'/\Fs s'.heap env own m' cm'/\K m' cm'/\s'.heap.PlainList D (ys++zs)/\
   ∀ g,Le b g->Nw s s' g->Paired (λa v=>R a v g) (((xs.take i).filter p).flatMap f) zs.toList) ?turn (xs.length+1)
  (e4_8 0 m cm (#[]) (by omega) (Nat.zero_le _) st0 (Ev.refl _ _) F hKm (by simpa using hp) (λg _ _=>by simpa using Paired.nil)) hga
 (intro k s' zr;refine byC0 λzn=>?_;refine q4_2 zr λi m' cm' zs z1 z2=>?_;clear zr;subst z1;refine q0_7 z2 λhi st E F' hK' hp' hz=>?_;clear z2;refine zn ?_;clear zn)
 by_cases hlt:i<xs.length
 ·refine W.item i _ _ _ hlt st λv h1 tk1 hPv st1 hk1=>?_
  refine q1_2 hPv λx hb hBv=>?_;clear hPv
  have hbm:x∈xs:=List.mem_of_getElem? hb
  dsimp only
  have E₁:Ev (I::D::ft env own) s' { s' with heap:=h1,toks:=tk1 }:=⟨e2_1 _ _ rfl,λb o nb e=>hk1 b o (λz=>nb (by rw [zS z];exact zH ..)) e⟩
  have F1:Fs h1 env own m' cm':=F'.get λb hb o e=>hk1 b o (λz=>hIX (by rw [zS z] at hb;exact zT hb)) e
  have hs':Le r s'.heap:=E.le hs offX
  have hs3:Le r h1:=E₁.le hs' offX
  refine (go i v g'.target { s' with heap:=h1,toks:=tk1 } (e1_2 x hb hBv) st1).to λ_ s3 e3=>?_
  subst e3
  refine (hasg x v { s' with heap:=h1,toks:=tk1 } m' cm' hbm hBv hs3 F1 hK').to λ_ s4 q4=>?_
  refine byC0 λzn=>?_;refine s2_2 q4 λE4 m4 cm4 F4 hK4=>?_;clear q4;refine zn ?_;clear zn
  have E4':Ev (I::D::ft env own) { s' with heap:=h1,toks:=tk1 } s4:=E4.mono λa ha=>zT (zT ha)
  have hs4:Le r s4.heap:=E4'.le hs3 offX
  have st4:St (i+1) s4.heap:=W.frame _ _ _ st1 λb hb o e=>E4.get b o (λz=>fpX b hb (zT z)) e
  have hpD:h1.PlainList D (ys++zs):=hp'.at λo e=>hk1 _ o (λz=>hIX (by rw [zS z];exact zH ..)) e
  have hp4:s4.heap.PlainList D (ys++zs):=hpD.at λo e=>E4.get _ o O.ne e
  refine (htest x s4.heap m4 cm4 hbm hs4 F4 hK4 s4 (hbr.trans hs4) (Le.refl _)).to λok s5 q5=>?_
  refine byC0 λzn=>?_;refine q0_2 q5 λz1 k5=>?_;clear q5;subst z1;refine zn ?_;clear zn
  have E5:Ev (I::D::ft env own) s s5:=((E.trans E₁).trans E4').trans k5.ev
  have hs5:=hs4.trans k5.le
  have F5:=F4.le k5.le
  have hp5:s5.heap.PlainList D (ys++zs):=hp4.at λo e=>k5.le.get _ o e
  have st5:St (i+1) s5.heap:=W.frame _ _ _ st4 λb _ o e=>k5.le.get b o e
  have E'5:Ev (I::D::ft env own) s' s5:=(E₁.trans E4').trans k5.ev
  have hz5:∀ g,Le b g->Nw s s5 g->Paired (λa v=>R a v g) (((xs.take i).filter p).flatMap f) zs.toList:=λg hg n=>hz g hg (n.leftE E'5 live2)
  cases hpb:p x with
  | false=>
   simp only [Bool.false_eq_true,if_false]
   refine e1_2 (xs.length+1-(i+1)) (by omega) (e4_8 (i+1) m4 cm4 zs rfl hlt st5 E5 F5 (hK _ _ _ hK4) hp5 (λg hg n=>?_))
   rw [flat_take p f xs i x hb,hpb]
   simpa using hz5 g hg n
  | true=>
   simp only [if_true]
   have hl1:=flat_len p f xs (i+1)
   rw [flat_take p f xs i x hb,hpb,if_pos rfl,List.length_append] at hl1
   have hzl:zs.size=(((xs.take i).filter p).flatMap f).length:=by
    have:=(hz5 s5.heap (hbr.trans hs5) (Nw.self _ _)).length
    rw [this];simp
   have hsz':(ys++zs).size+(f x).length<=sizeLine:=by rw [Array.size_append];omega
   have T:=hin x hbm hpb s5 (ys++zs) m4 cm4 hs5 F5 hK4 hp5 hsz'
   refine Tail.mono T λs6 q6=>?_
   refine byC0 λzn=>?_;refine s3_4 q6 λE6 m6 cm6 zs6 F6 hK6 hp6 hz6=>?_;clear q6;refine zn ?_;clear zn
   have E6':Ev (I::D::ft env own) s5 s6:=E6.mono λa ha=>zT ha
   have st6:St (i+1) s6.heap:=W.frame _ _ _ st5 λb hb o e=>E6.get b o (fpX b hb) e
   refine e1_2 (xs.length+1-(i+1)) (by omega) (e4_8 (i+1) m6 cm6 (zs++zs6) rfl hlt st6 (E5.trans E6') F6 (hK _ _ _ hK6) (by rw [← Array.append_assoc];exact hp6) (λg hg n=>?_))
   rw [flat_take p f xs i x hb,hpb,if_pos rfl,Array.toList_append]
   refine Paired.app (hz5 g hg (n.leftE E6' live2)) (hz6 g hg ⟨λb o e e'=>n.get b o ?_ e'⟩)
   cases q:s.heap.get? b with
   | none=>rfl
   | some o'=>
    exfalso
    by_cases hbX:b∈I::D::ft env own
    ·(rcases zC hbX with rfl | hbX)
     ·refine q1_1 (lv _ _ st5) λo ho=>?_;rw [e] at ho;cases ho
     ·refine q1_1 (live3 F5 hp5 b hbX) λo ho=>?_;rw [e] at ho;cases ho
    ·have:=E5.get b o' hbX q
     rw [e] at this;cases this
 ·have hin':i=xs.length:=by omega
  subst hin'
  refine W.done _ _ _ st λh1 tk1 hk1=>?_
  dsimp only
  have F1:Fs h1 env own m' cm':=F'.get λb hb o e=>hk1 b o (λz=>hIX (by rw [zS z] at hb;exact zT hb)) e
  have hp1:h1.PlainList D (ys++zs):=hp'.at λo e=>hk1 _ o (λz=>hIX (by rw [zS z];exact zH ..)) e
  have E₁:Ev (I::D::ft env own) s' { s' with heap:=h1,toks:=tk1 }:=⟨e2_1 _ _ rfl,λb o nb e=>hk1 b o (λz=>nb (by rw [zS z];exact zH ..)) e⟩
  refine e0_3 rfl (E.trans E₁) (e3_4 m' cm' zs F1 hK' hp1 (λg hg n=>?_))
  have:=hz g hg (n.leftE E₁ live2)
  rw [List.take_length] at this
  exact this
theorem zall:∀ p,zR p:=all1 zaux
end
end Z40
theorem loop_core {w A b r elt gens sc pos d env own D K g' I fp St s ys m cm}:Z40.zQ w A b r elt gens sc pos d env own D K g' I fp St s ys m cm:=Z40.zall ((((w,A),(b,(r,elt))),((gens,sc),(pos,(d,env)))),(((own,D),(K,(g',I))),((fp,(St,s)),(ys,(m,cm)))))
section
variable {w:World} {A:Around} {b r:Heap} {elt:Expr} {gens:List Comprehension} {sc:Scope} {pos:Pos} {d:Nat} {env:Env} {own:List (Str×Addr)} {D:Addr} {K:SoV->SoV->Prop} {α:Type} {R:α->Value->Heap->Prop}
theorem emit_loop {β:Type} {xs:List β} {B:β->Value->Prop} {p:β->Bool} {f:β->List α} {K₁:β->SoV->SoV->Prop} {g':Comprehension}
  (hn:gens[d+1]?=some g') (ha:g'.is_async=0) (hga:∀ g'',gens[d+1+1]?=some g''->g''.is_async=0) (hbr:Le b r) (O:Off r D env own)
  (hsrc:∀ hh m cm,Le r hh->Fs hh env own m cm->K m cm->Src w A r hh env g'.iter xs B)
  (hasg:∀ x v s m cm,x∈xs->B x v->Le r s.heap->Fs s.heap env own m cm->K m cm->Wp w A (assign g'.target env v) (λ_ s'=>Ev (ft env own) s s'/\∃ m' cm',Fs s'.heap env own m' cm'/\K₁ x m' cm') s)
  (htest:∀ x hh m cm,x∈xs->Le r hh->Fs hh env own m cm->K₁ x m cm->Ts w A b hh env g'.ifs (p x))
  (hK:∀ x m cm,K₁ x m cm->K m cm)
  (hin:∀ x,x∈xs->p x=true->Emits w A b r elt gens sc pos (d+1) env own D (K₁ x) (f x) R) :
  Emits w A b r elt gens sc pos d env own D K ((xs.filter p).flatMap f) R:=by
 intro s ys m cm hs F hKm hp hsz
 unfold Tail
 rw [hn]
 refine q0_2 (hsrc s.heap m cm hs F hKm) λhfold hsr=>?_
 refine (hsr s hs (Le.refl _)).to λx s1 q1=>?_
 rw [hfold]
 refine wpAny_pure (Wp.to q1.2 λit s2 q2=>?_)
 refine byC0 λzn=>?_;refine q3_2 q2 λI fp St z1 z2=>?_;clear q2;subst z1;refine q0_7 z2 λW st0 k2 hI lv hf go=>?_;clear z2;refine zn ?_;clear zn
 have k12:=q1.1.trans k2
 have liveX:=live3 F hp
 have hIs:s.heap.get? I=none:=q1.1.le.none hI
 have hIX:I∉D::ft env own:=λhm=>by refine q1_1 (liveX I hm) λo ho=>?_;rw [hIs] at ho;cases ho
 refine compStart_at hn ha (λQ E hQ=>W.self 0 s2 Q E st0 hQ) ?_
 refine codeAny_mono (loop_core hn ha hga hbr O W st0 lv hf go (hs.none hIs) hIX (hs.trans k12.le) (F.le k12.le) hKm (hp.at λo e=>k12.le.get _ o e) hsz hasg htest hK hin) λrr s' q=>?_
 refine byC0 λzn=>?_;refine q0_2 q λz1 z2=>?_;clear q;subst z1;refine s3_4 z2 λE m' cm' zs F' hK' hp' hz=>?_;clear z2;refine zn ?_;clear zn
 refine e1_3 .next rfl ⟨((k12.ev (X:=I::D::ft env own)).trans E).same,λb o nb e=>?_⟩ (e3_4 m' cm' zs F' hK' hp' (λg hg n=>hz g hg (n.right k12.le)))
 refine E.get b o (λhm=>?_) (k12.le.get b o e)
 (rcases zD hm with rfl | hm)
 ·rw [hIs] at e;cases e
 ·exact nb hm
end
theorem fs_new {h:Heap} {sc:Scope} {C:Addr} {cl:List (Str×Addr)} {env:Env} (hn:h.Ns C (λ_=>none)) (ok:CellsOk h (C+1) (ownCells (C+1) sc.names []))
  (look:∀ n c,(n,c)∈ownCells (C+1) sc.names []->(ownCells (C+1) sc.names []++cl).lookup n=some c) :
  Fs h (compE sc C (ownCells (C+1) sc.names []++cl) env) (ownCells (C+1) sc.names []) (λ_=>none) (λ_=>none):=
 ⟨hn,λn c hc=>(ok.empty n c hc).1,look,ok.apart,λn c hc e=>by
  have:=(ok.empty n c hc).2
  have e':c=C:=e
  subst e'
  exact absurd this (Nat.not_le.mpr (Nat.lt_succ_self _))⟩
section
variable {w:World} {A:Around} {b r:Heap} {elt:Expr} {g₀:Comprehension} {rest:List Comprehension} {sc:Scope} {pos:Pos} {env:Env} {cl:List (Str×Addr)} {α β:Type} {R:α->Value->Heap->Prop}
 {xs:List β} {B:β->Value->Prop} {p:β->Bool} {f:β->List α} {K₁:β->SoV->SoV->Prop} {s:Shared}
structure Blk (w:World) (A:Around) (b r:Heap) (elt:Expr) (g₀:Comprehension) (rest:List Comprehension) (sc:Scope) (pos:Pos) (cenv:Env) (own:List (Str×Addr)) (D:Addr) {α β:Type} (R:α->Value->Heap->Prop)
  (xs:List β) (B:β->Value->Prop) (p:β->Bool) (f:β->List α) (K₁:β->SoV->SoV->Prop):Prop where
 asg:∀ x v s m cm,x∈xs->B x v->Le r s.heap->Fs s.heap cenv own m cm->Wp w A (assign g₀.target cenv v) (λ_ s'=>Ev (ft cenv own) s s'/\∃ m' cm',Fs s'.heap cenv own m' cm'/\K₁ x m' cm') s
 test:∀ x hh m cm,x∈xs->Le r hh->Fs hh cenv own m cm->K₁ x m cm->Ts w A b hh cenv g₀.ifs (p x)
 inn:∀ x,x∈xs->p x=true->Emits w A b r elt (g₀::rest) sc pos 0 cenv own D (K₁ x) (f x) R
theorem comp_core {RR:Value->Addr->Result->Shared->Prop} {E:Value->Shared->Prop} (ha:g₀.is_async=0) (hga:∀ g',rest[0]?=some g'->g'.is_async=0)
  (look:∀ C n c,(n,c)∈ownCells (C+1) sc.names []->(ownCells (C+1) sc.names []++cl).lookup n=some c)
  (hbr:Le b r) (hr:Le r s.heap) (hsrc:Src w A r r env g₀.iter xs B) (hsz:((xs.filter p).flatMap f).length<=sizeLine)
  (body:∀ C D,Off r D (compE sc C (ownCells (C+1) sc.names []++cl) env) (ownCells (C+1) sc.names [])->
   Blk w A b r elt g₀ rest sc pos (compE sc C (ownCells (C+1) sc.names []++cl) env) (ownCells (C+1) sc.names []) D R xs B p f K₁)
  (hRR:∀ D C ys m s',Kp s s'->s'.heap.PlainList D ys->s.heap.get? D=none->s.heap.get? C=none->D≠C->s'.heap.Ns C m->
   (∀ g,Le b g->(∀ a o,a≠C->s.heap.get? a=none->s'.heap.get? a=some o->g.get? a=some o)->g.PlainList D ys/\Paired (λa v=>R a v g) ((xs.filter p).flatMap f) ys.toList)->RR (.ref D) C (.ok .next) s') :
  wpAny (model Pg w) A (eval g₀.iter env) (λx s1=>wpAny (model Pg w) A (pyIter x) (λit s2=>wpAny (model Pg w) A (newList []) (λacc s3=>
   wpAny (model Pg w) A (newFunctionEnv sc env.globals cl [] env.qual none .none (some env)) (λcenv s4=>
    codeAny (model Pg w) A (.compStart (.ListComp elt (g₀::rest) sc pos) 0 it acc { cenv with scope:=relabel sc env }) (RR acc cenv.locals) s4) E s3) E s2) E s1) E s:=by
 refine q0_2 hsrc λhfold hsr=>?_;clear hsrc
 refine (hsr s hr hr).to λx s1 q1=>?_
 refine Wp.to q1.2 λit s2 q2=>?_
 refine byC0 λzn=>?_;refine q3_2 q2 λI fp St z1 z2=>?_;clear q2;subst z1;refine q0_7 z2 λW st0 k2 hI lv hf go=>?_;clear z2;refine zn ?_;clear zn
 have k12:=q1.1.trans k2
 refine wpAny_newObj_type (newEnv_comp λC h4 hC l4 hns ok hCs=>?_)
 dsimp only at hC l4 hns ok hCs ⊢
 generalize hH:s2.heap.push { cls:=.type "list",dict:=none,data:=.seq ([]:List Value).toArray }=H at hC l4 hns ok hCs ⊢
 have hD2:s2.heap.get? s2.heap.objs.size=none:=by
  cases e:s2.heap.get? s2.heap.objs.size with
  | none=>rfl
  | some o'=>exact absurd (Heap.lt_size e) (Nat.lt_irrefl _)
 have hHD:H.get? s2.heap.objs.size=some { cls:=.type "list",dict:=none,data:=.seq ([]:List Value).toArray }:=by rw [← hH];exact Heap.get?_push_size _ rfl
 have l2H:Le s2.heap H:=by rw [← hH];exact Le.push _ _
 have l24:Le s2.heap h4:=l2H.trans l4
 have hDC:s2.heap.objs.size≠C:=λe=>by rw [← e,hHD] at hC;cases hC
 have hC2:s2.heap.get? C=none:=l2H.none hC
 have hDs:s.heap.get? s2.heap.objs.size=none:=k12.le.none hD2
 have hCsn:s.heap.get? C=none:=k12.le.none hC2
 have hIs:s.heap.get? I=none:=q1.1.le.none hI
 refine q1_1 (lv 0 _ st0) λoI hoI=>?_
 have hIlt:@LT.lt Nat _ I s2.heap.objs.size:=Heap.lt_size hoI
 have hsz2:H.objs.size=s2.heap.objs.size+1:=by rw [← hH,Heap.size_push]
 have ownge:∀ n (c:Nat),(n,c)∈ownCells (C+1) sc.names []->@LE.le Nat _ (C+1) c:=λn c hc=>(ok.empty n c hc).2
 have hrs2:Le r s2.heap:=hr.trans k12.le
 have ge_none:∀ a:Nat,s2.heap.objs.size<=a->s2.heap.get? a=none:=λa ha=>by
  cases e:s2.heap.get? a with
  | none=>rfl
  | some o'=>exact absurd (Heap.lt_size e) (Nat.not_lt.mpr ha)
 have ftge:∀ a:Nat,a∈ft (compE sc C (ownCells (C+1) sc.names []++cl) env) (ownCells (C+1) sc.names [])->s2.heap.objs.size+1<=a:=λa ha=>by
  rcases zC ha with e | ha
  ·have e':a=C:=e
   omega
  ·rcases List.mem_map.mp ha with ⟨⟨n,c⟩,hc,rfl⟩
   have h1:@LE.le Nat _ (C+1) c:=ownge n c hc
   show @LE.le Nat _ _ c
   omega
 have O:Off r s2.heap.objs.size (compE sc C (ownCells (C+1) sc.names []++cl) env) (ownCells (C+1) sc.names []):=by
  refine⟨λa ha=>hrs2.none (ge_none a ?_),λhm=>?_⟩
  ·(rcases zC ha with rfl | ha)
   ·exact Nat.le_refl _
   ·have:=ftge a ha;omega
  ·have:=ftge _ hm;omega
 have K:=body C s2.heap.objs.size O
 have F4:=fs_new (env:=env) hns ok (look C)
 have st4:St 0 h4:=W.frame _ _ _ st0 λb _ o e=>l24.get b o e
 have hpl:h4.PlainList s2.heap.objs.size #[]:=⟨_,l4.get _ _ hHD⟩
 have hIX:I∉s2.heap.objs.size::ft (compE sc C (ownCells (C+1) sc.names []++cl) env) (ownCells (C+1) sc.names []):=λhm=>by
  rcases zC hm with e | hm
  ·exact absurd hIlt (by rw [e];exact Nat.lt_irrefl _)
  ·have:=ftge _ hm;omega
 refine compStart_at (g:=g₀) rfl ha (λQ E hQ=>W.self 0 _ Q E st4 hQ) ?_
 refine codeAny_mono (loop_core (K:=λ_ _=>True) (g':=g₀) (s:={ s2 with heap:=h4 }) (ys:=#[]) rfl ha (λg'' hg=>hga g'' (by simpa using hg)) hbr O W st4 lv hf go (hr.none hIs) hIX (hrs2.trans l24) F4 trivial hpl (by simpa using hsz)
  (λx v s m cm hx hB hs F _=>K.asg x v s m cm hx hB hs F) K.test (λ_ _ _ _=>trivial) K.inn) λrr s' q=>?_
 refine byC0 λzn=>?_;refine q0_2 q λz1 z2=>?_;clear q;subst z1;refine s3_4 z2 λEv' m' cm' zs F' z4 hp' hz=>?_;clear z2;clear z4;refine zn ?_;clear zn
 simp only [Array.empty_append] at hp'
 have k24:Kp s2 { s2 with heap:=h4 }:=⟨e2_1 _ _ rfl,l24⟩
 have k4:=k12.trans k24
 have Eall:Kp s s':=⟨((k4.ev (X:=_)).trans Ev').same,⟨λa o e=>Ev'.get a o (λhm=>by
  (rcases zD hm with rfl | hm)
  ·rw [hIs] at e;cases e
  ·(rcases zC hm with rfl | hm)
   ·rw [hDs] at e;cases e
   ·have h1:=ftge a hm
    rw [k12.le.none (ge_none a (by omega))] at e;cases e) (k4.le.get a o e)⟩⟩
 refine hRR s2.heap.objs.size C zs m' s' Eall hp' hDs hCsn hDC F'.ns λg hg n=>⟨?_,hz g hg ⟨λa o e e'=>?_⟩⟩
 ·refine q1_1 hp' λnn hnn=>?_;clear hp'
  exact⟨nn,n _ _ hDC hDs hnn⟩
 ·refine n a o (λz=>?_) (k4.le.none e) e'
  subst z
  refine q3_2 hns λo' _ _ ho' _=>?_;clear hns
  rw [show ({ s2 with heap:=h4 }:Shared).heap.get? a=_ from ho'] at e
  cases e
noncomputable def Nu (h:Heap) (v:Value):Prop:=∃ D,v=.ref D/\h.get? D=Option.none
noncomputable def IsL {α:Type} (R:α->Value->Heap->Prop) (l:List α):Value->Heap->Prop:=λv g=>∃ D ys,v=.ref D/\g.PlainList D ys/\Paired (λa v=>R a v g) l ys.toList
theorem Yd.compN (hclos:closureFor sc env=pure cl) (hkind:sc.kind=.function) (hnames:∀ x∈sc.names,x.2=.local->sc.names.lookup x.1=some .local)
  (ha:g₀.is_async=0) (hga:∀ g',rest[0]?=some g'->g'.is_async=0)
  (look:∀ C n c,(n,c)∈ownCells (C+1) sc.names []->(ownCells (C+1) sc.names []++cl).lookup n=some c)
  (hbr:Le b r) (hsrc:Src w A r r env g₀.iter xs B) (hsz:((xs.filter p).flatMap f).length<=sizeLine)
  (body:∀ C D,Off r D (compE sc C (ownCells (C+1) sc.names []++cl) env) (ownCells (C+1) sc.names [])->
   Blk w A b r elt g₀ rest sc pos (compE sc C (ownCells (C+1) sc.names []++cl) env) (ownCells (C+1) sc.names []) D R xs B p f K₁) :
  Yd w A b r env (.ListComp elt (g₀::rest) sc pos) (λv g=>IsL R ((xs.filter p).flatMap f) v g/\Nu r v):=by
 intro s hb hr
 refine byC0 λzn=>?_;rcases g₀ with ⟨t,i,fs,a⟩;refine zn ?_;clear zn
 simp only at ha
 subst ha
 rw [eval_ListComp]
 refine wpAny_comprehension_free (use:=Option.none) rfl hsrc.1 hclos hkind hnames ?_
 refine comp_core (g₀:=⟨t,i,fs,0⟩) rfl hga look hbr hr hsrc hsz body λD C ys m s' k hp hD hC hDC hns hz=>?_
 refine e1_2 m hns (λh' hs'=>⟨⟨?_,⟨λa o e=>hs'.extBut a o (λz=>?_) (k.le.get a o e)⟩⟩,λg hg n=>?_⟩)
 ·refine q2_1 (k.same) λh t z1=>?_;subst z1
  exact e2_1 h' t rfl
 ·subst z;rw [hC] at e;cases e
 ·refine q0_2 (hz g hg λa o ne e e'=>n.get a o e (hs'.extBut a o ne e')) λz1 z2=>?_
  exact e0_2 (e2_3 D ys rfl z1 z2) (e1_2 D rfl (hr.none hD))
theorem Yd.comp (hclos:closureFor sc env=pure cl) (hkind:sc.kind=.function) (hnames:∀ x∈sc.names,x.2=.local->sc.names.lookup x.1=some .local)
  (ha:g₀.is_async=0) (hga:∀ g',rest[0]?=some g'->g'.is_async=0)
  (look:∀ C n c,(n,c)∈ownCells (C+1) sc.names []->(ownCells (C+1) sc.names []++cl).lookup n=some c)
  (hbr:Le b r) (hsrc:Src w A r r env g₀.iter xs B) (hsz:((xs.filter p).flatMap f).length<=sizeLine)
  (body:∀ C D,Off r D (compE sc C (ownCells (C+1) sc.names []++cl) env) (ownCells (C+1) sc.names [])->
   Blk w A b r elt g₀ rest sc pos (compE sc C (ownCells (C+1) sc.names []++cl) env) (ownCells (C+1) sc.names []) D R xs B p f K₁) :
  Yd w A b r env (.ListComp elt (g₀::rest) sc pos) (IsL R ((xs.filter p).flatMap f)):=(Yd.compN hclos hkind hnames ha hga look hbr hsrc hsz body).mono λ_ _ _ q=>q.1
end
structure InF (s₀:Shared) (b:Heap) (X:List Addr) (env:Env) (own:List (Str×Addr)) (m cm:SoV) (s:Shared):Prop where
 same:∃ h' tk,s={ s₀ with heap:=h',toks:=tk }
 le:Le b s.heap
 fs:Fs s.heap env own m cm
 off:∀ a,a∈ft env own\/a∈X->b.get? a=none
 live:∀ a∈X,∃ o,s.heap.get? a=some o
 apart:∀ a∈X,a∉ft env own
section
variable {w:World} {A:Around} {s₀ s s':Shared} {b:Heap} {X:List Addr} {env:Env} {own:List (Str×Addr)} {m cm:SoV}
theorem same_trans {s₀ s s':Shared} (x:∃ h' tk,s={ s₀ with heap:=h',toks:=tk }) (y:∃ h' tk,s'={ s with heap:=h',toks:=tk }):∃ h' tk,s'={ s₀ with heap:=h',toks:=tk }:=by
 refine byC0 λzn=>?_
 refine q2_1 x λh t z1=>?_;clear x;subst z1
 refine q2_1 y λh' t' z1=>?_;clear y;subst z1
 refine zn ?_;clear zn
 exact e2_1 h' t' rfl
theorem InF.kp (I:InF s₀ b X env own m cm s) (k:Kp s s'):InF s₀ b X env own m cm s':=
 ⟨same_trans I.same k.same,I.le.trans k.le,I.fs.le k.le,I.off,λa ha=>q1_1 (I.live a ha) λo ho=>⟨o,k.le.get _ _ ho⟩,I.apart⟩
theorem InF.step {Y:List Addr} {m' cm':SoV} (I:InF s₀ b X env own m cm s) (E:Ev Y s s') (hY:∀ a∈Y,a∈ft env own\/a∈X) (F':Fs s'.heap env own m' cm') (lv:∀ a∈X,a∈Y->∃ o,s'.heap.get? a=some o) :
  ∃ b',Le b b'/\InF s₀ b' X env own m' cm' s'/\∀ a o,a∉ft env own->a∉X->s'.heap.get? a=some o->b'.get? a=some o:=by
 have l:Le b s'.heap:=E.le I.le λa ha=>I.off a (hY a ha)
 refine e1_3 (hideAll s'.heap (ft env own++X)) ⟨λa o e=>hideAll_get _ (l.get _ _ e) λhm=>?_⟩ ⟨same_trans I.same E.same,⟨λa o e=>of_hideAll _ e⟩,F',λa ha=>hideAll_none _ (List.mem_append.mpr ha),λa ha=>?_,I.apart⟩ (λa o h1 h2 e=>hideAll_get _ e λhm=>(List.mem_append.mp hm).elim h1 h2)
 ·rw [I.off a (List.mem_append.mp hm)] at e;cases e
 ·by_cases hm:a∈Y
  ·exact lv a ha hm
  ·refine q1_1 (I.live a ha) λo ho=>?_;exact⟨o,E.get a o hm ho⟩
theorem InF.nw {b':Heap} (I:InF s₀ b X env own m cm s) (h:∀ a o,a∉ft env own->a∉X->s'.heap.get? a=some o->b'.get? a=some o):Nw s s' b':=
 ⟨λa o e e'=>h a o (λhm=>by refine q1_1 (I.fs.live a hm) λo' q=>?_;rw [e] at q;cases q) (λhm=>by refine q1_1 (I.live a hm) λo' q=>?_;rw [e] at q;cases q) e'⟩
theorem ex_asg {x:Str} {px p:Pos} {e:Expr} {P:Value->Heap->Prop} (I:InF s₀ b X env own m cm s) (hk:env.scope.kind=.function) (hl:env.kindOf x=some .local) (hY:Yd w A b s.heap env e P)
  (hs:swapsWith e (some (.Name x px)) p.line env=pure false) :
  Wp w A (exec (.Assign [.Name x px] e p) env) (λfl s'=>fl=.next/\Ev (ft env own) s s'/\∃ v b',Le b b'/\InF s₀ b' X env own (up m x v) cm s'/\P v b') s:=by
 refine wpAny_Assign_Name ((hY s I.le (Le.refl _)).to λv s1 q=>?_) hs
 have I1:=I.kp q.1
 refine (sto_loc I1.fs hk hl).to λ_ s2 q2=>?_
 have E:Ev (ft env own) s s2:=q.1.ev.trans q2.1
 refine q1_3 (I.step E (λa ha=>.inl ha) q2.2 (λa ha hm=>absurd hm (I.apart a ha))) λb' l I2 g=>?_
 exact e0_3 rfl E (e2_3 v b' l I2 (q.2 b' l ((I.nw g).leftE q2.1 I.fs.live)))
theorem ex_asgC {x:Str} {px p:Pos} {c:Addr} {e:Expr} {P:Value->Heap->Prop} (I:InF s₀ b X env own m cm s) (hk:env.scope.kind=.function) (hl:env.kindOf x=some .cell) (hc:(x,c)∈own) (hn1:∀ n c',(n,c')∈own->n=x->c'=c)
  (hY:Yd w A b s.heap env e P) (hs:swapsWith e (some (.Name x px)) p.line env=pure false) :
  Wp w A (exec (.Assign [.Name x px] e p) env) (λfl s'=>fl=.next/\Ev (ft env own) s s'/\∃ v b',Le b b'/\InF s₀ b' X env own m (up cm x v) s'/\P v b') s:=by
 refine wpAny_Assign_Name ((hY s I.le (Le.refl _)).to λv s1 q=>?_) hs
 have I1:=I.kp q.1
 refine (sto_cell I1.fs hk hl hc hn1).to λ_ s2 q2=>?_
 have E:Ev (ft env own) s s2:=q.1.ev.trans q2.1
 refine q1_3 (I.step E (λa ha=>.inl ha) q2.2 (λa ha hm=>absurd hm (I.apart a ha))) λb' l I2 g=>?_
 exact e0_3 rfl E (e2_3 v b' l I2 (q.2 b' l ((I.nw g).leftE q2.1 I.fs.live)))
theorem ex_swap {α β:Type} {R:α->Value->Heap->Prop} {xs:List β} {B:β->Value->Prop} {p:β->Bool} {f:β->List α} {K₁:β->SoV->SoV->Prop} {x:Str} {px pp pos:Pos} {elt:Expr} {g₀:Comprehension} {rest:List Comprehension} {sc:Scope} {cl:List (Str×Addr)}
  (I:InF s₀ b X env own m cm s) (hk:env.scope.kind=.function) (hl:env.kindOf x=some .local) (hs:swapsWith (.ListComp elt (g₀::rest) sc pos) (some (.Name x px)) pp.line env=pure true)
  (hclos:closureFor sc env=pure cl) (hkind:sc.kind=.function) (hnames:∀ x∈sc.names,x.2=.local->sc.names.lookup x.1=some .local)
  (ha:g₀.is_async=0) (hga:∀ g',rest[0]?=some g'->g'.is_async=0)
  (look:∀ C n c,(n,c)∈ownCells (C+1) sc.names []->(ownCells (C+1) sc.names []++cl).lookup n=some c)
  (hsrc:Src w A s.heap s.heap env g₀.iter xs B) (hsz:((xs.filter p).flatMap f).length<=sizeLine)
  (body:∀ C D,Off s.heap D (compE sc C (ownCells (C+1) sc.names []++cl) env) (ownCells (C+1) sc.names [])->
   Blk w A b s.heap elt g₀ rest sc pos (compE sc C (ownCells (C+1) sc.names []++cl) env) (ownCells (C+1) sc.names []) D R xs B p f K₁) :
  Wp w A (exec (.Assign [.Name x px] (.ListComp elt (g₀::rest) sc pos) pp) env) (λfl s'=>fl=.next/\Ev (ft env own) s s'/\∃ v b',Le b b'/\InF s₀ b' X env own (up m x v) cm s'/\IsL R ((xs.filter p).flatMap f) v b'/\Nu s.heap v) s:=by
 rw [exec_Assign_Name_used _ _ _ _ hs]
 refine wpAny_bind (wpAny_standAt (wpAny_bind ?_))
 refine byC0 λzn=>?_;rcases g₀ with ⟨t,i,fs,a⟩;refine zn ?_;clear zn
 simp only at ha
 subst ha
 show wpAny _ A (do let _ ← comprehension (.ListComp elt (⟨t,i,fs,0⟩::rest) sc pos) sc env _ (newList []) false (eval i env) (some (assign (.Name x px) env))) _ _ s
 refine wpAny_bind (wpAny_mono (Q:=λ_ s'=>Ev (ft env own) s s'/\∃ v b',Le b b'/\InF s₀ b' X env own (up m x v) cm s'/\IsL R ((xs.filter p).flatMap f) v b'/\Nu s.heap v) (E:=Bot)
  (wpAny_comprehension_free (use:=some (assign (.Name x px) env)) rfl hsrc.1 hclos hkind hnames ?_) (λ_ s' q=>wpAny_pure (wpAny_pure ⟨rfl,q⟩)) λ_ _ e=>e)
 refine comp_core (g₀:=⟨t,i,fs,0⟩) rfl hga look I.le (Le.refl _) hsrc hsz body λD C ys m' s' k hp hD hC hDC hns hz=>?_
 have I1:=I.kp k
 refine (asg_loc I1.fs hk hl).to λ_ s2 q2=>?_
 have hCf:C∉ft env own:=λhm=>by refine q1_1 (I.fs.live C hm) λo ho=>?_;rw [hC] at ho;cases ho
 refine e1_2 m' (hns.at' λo e=>q2.1.get _ _ hCf e) (λh' hs'=>?_)
 have E2:Ev (ft env own) s s2:=k.ev.trans q2.1
 have E:Ev (ft env own) s { s2 with heap:=h' }:=⟨same_trans E2.same (e2_1 _ _ rfl),λa o n e=>hs'.extBut a o (λz=>by subst z;rw [hC] at e;cases e) (E2.get a o n e)⟩
 refine q1_3 (I.step E (λa ha=>.inl ha) (q2.2.get (h':=h') λa ha o e=>hs'.extBut a o (λz=>hCf (z▸ha)) e) (λa ha hm=>absurd hm (I.apart a ha))) λb' l I2 g=>?_
 refine e0_2 E (e2_3 (.ref D) b' l I2 ?_)
 have n:=I.nw g
 refine q0_2 (hz b' l λa o ne e e'=>n.get a o e (hs'.extBut a o ne (q2.1.get a o (λhm=>by refine q1_1 (I.fs.live a hm) λo' ho=>?_;rw [e] at ho;cases ho) e'))) λz1 z2=>?_
 exact e0_2 (e2_3 D ys rfl z1 z2) (e1_2 D rfl hD)
theorem ex_if {c:Expr} {t e:List Stmt} {p:Pos} {r:Bool} {Q:Flow->Shared->Prop} (hb:Le b s.heap) (hT:Td w A b s.heap env c r)
  (h:∀ s',Kp s s'->if r=true then Wp w A (execs t env) Q s' else Wp w A (execs e env) Q s'):Wp w A (exec (.If c t e p) env) Q s:=by
 refine wpAny_If ((hT s hb (Le.refl _)).to λz s1 q=>?_)
 refine q0_2 q λz1 k=>?_;clear q;rcases z1.symm with rfl
 have:=h s1 k
 cases r<;>simpa using this
theorem seq {st:Stmt} {rest:List Stmt} {Φ Q:Flow->Shared->Prop} (h1:Wp w A (exec st env) Φ s) (h2:∀ f s',Φ f s'->match f with | .next=>Wp w A (execs rest env) Q s' | f=>Q f s'):Wp w A (execs (st::rest) env) Q s:=
 wpAny_execs_cons (h1.to h2)
theorem seqn {st:Stmt} {rest:List Stmt} {Φ:Shared->Prop} {Q:Flow->Shared->Prop} (h1:Wp w A (exec st env) (λf s'=>f=.next/\Φ s') s) (h2:∀ s',Φ s'->Wp w A (execs rest env) Q s'):Wp w A (execs (st::rest) env) Q s:=
 wpAny_execs_cons (h1.to λ_ s' q=>q.1▸h2 s' q.2)
theorem ex_ret {e:Expr} {p:Pos} {P:Value->Heap->Prop} (hb:Le b s.heap) (hY:Yd w A b s.heap env e P):Wp w A (exec (.Return (some e) p) env) (λfl s'=>∃ v,fl=.ret v/\Kp s s'/\∀ g,Le b g->Nw s s' g->P v g) s:=
 wpAny_Return_some ((hY s hb (Le.refl _)).to λv s1 q=>e1_3 v rfl q.1 q.2)
end
section
variable {w:World} {A:Around} {b h:Heap} {env:Env}
noncomputable def Yds (w:World) (A:Around) (b h:Heap) (env:Env) (es:List Expr) (Ps:List (Value->Heap->Prop)):Prop:=
 ∀ s pos,Le b s.heap->Le h s.heap->Wp w A (spliced (backTo pos (starEach es env))) (λvs s'=>Kp s s'/\∀ g,Le b g->Nw s s' g->Paired (λP v=>P v g) Ps vs) s
theorem Yds.nil:Yds w A b h env [] []:=λs pos _ _=>spliced_nil ⟨Kp.refl s,λ_ _ _=>.nil⟩
theorem Yds.cons {e:Expr} {rest:List Expr} {P:Value->Heap->Prop} {Ps:List (Value->Heap->Prop)} (x:Yd w A b h env e P) (y:Yds w A b h env rest Ps) (he:autoParam (starEach (e::rest) env=(false,eval e env)::starEach rest env) auR) :
  Yds w A b h env (e::rest) (P::Ps):=λs pos hb hs=>by
 rw [he]
 refine spliced_cons ((x s hb hs).to λv s1 q1=>(y s1 pos (hb.trans q1.1.le) (hs.trans q1.1.le)).to λvs s2 q2=>⟨q1.1.trans q2.1,λg hg n=>.cons (q1.2 g hg (n.left q2.1.le)) (q2.2 g hg (n.right q1.1.le))⟩)
theorem Yds.one {e:Expr} {P:Value->Heap->Prop} (x:Yd w A b h env e P) (he:autoParam (starEach [e] env=(false,eval e env)::starEach [] env) auR):Yds w A b h env [e] [P]:=Yds.cons x Yds.nil he
theorem Yds.two {e₁ e2:Expr} {P₁ P₂:Value->Heap->Prop} (x:Yd w A b h env e₁ P₁) (y:Yd w A b h env e2 P₂) (he:autoParam (starEach [e₁,e2] env=(false,eval e₁ env)::starEach [e2] env) auR) (he':autoParam (starEach [e2] env=(false,eval e2 env)::starEach [] env) auR):Yds w A b h env [e₁,e2] [P₁,P₂]:=
 Yds.cons x (Yds.one y he') he
noncomputable def IsT (Ps:List (Value->Heap->Prop)):Value->Heap->Prop:=λv g=>∃ T vs,v=.ref T/\g.IsTuple T (List.toArray vs)/\Paired (λP v=>P v g) Ps vs
theorem Yd.tup {es:List Expr} {Ps:List (Value->Heap->Prop)} {k:Nat} {p:Pos} (x:Yds w A b h env es Ps) (hl:autoParam (Nat.ble Ps.length sizeLine=true) auR):Yd w A b h env (.Tuple es k p) (IsT Ps):=λs hb hs=>
 wpAny_Tuple_spliced ((x s p hb hs).to λvs s1 q=>by
  have q0:=q.2 s1.heap (hb.trans q.1.le) (Nw.self _ _)
  refine⟨by rw [← q0.length];exact (Nat.le_of_ble_eq_true hl),q.1.trans (Kp.push _ _),λg hg n=>e2_3 _ vs rfl ?_ (q.2 g hg (n.left (Le.push _ _)))⟩
  exact e1_3 _ (n.get _ _ (q.1.le.none (by cases e:s1.heap.get? s1.heap.objs.size with | none=>rfl | some o'=>exact absurd (Heap.lt_size e) (Nat.lt_irrefl _))) (Heap.get?_push_size _ rfl)) rfl (e1_1 _ rfl))
theorem get_size_none (h:Heap):h.get? h.objs.size=Option.none:=by cases e:h.get? h.objs.size with | none=>rfl | some o'=>exact absurd (Heap.lt_size e) (Nat.lt_irrefl _)
noncomputable def IsLs (Ps:List (Value->Heap->Prop)):Value->Heap->Prop:=λv g=>∃ D vs,v=.ref D/\g.PlainList D (List.toArray vs)/\Paired (λP v=>P v g) Ps vs
theorem Yd.lstN {es:List Expr} {Ps:List (Value->Heap->Prop)} {p:Pos} (x:Yds w A b h env es Ps) (hl:autoParam (Nat.ble Ps.length sizeLine=true) auR):Yd w A b h env (.List es p) (λv g=>IsLs Ps v g/\Nu h v):=λs hb hs=>
 wpAny_List_spliced ((x s p hb hs).to λvs s1 q=>by
  have q0:=q.2 s1.heap (hb.trans q.1.le) (Nw.self _ _)
  refine⟨by rw [← q0.length];exact (Nat.le_of_ble_eq_true hl),q.1.trans (Kp.push _ _),λg hg n=>e0_2 (e2_3 _ vs rfl ?_ (q.2 g hg (n.left (Le.push _ _)))) (e1_2 _ rfl ((hs.trans q.1.le).none (get_size_none _)))⟩
  exact⟨0,n.get _ _ (q.1.le.none (get_size_none _)) (Heap.get?_push_size _ rfl)⟩)
theorem Yd.lst {es:List Expr} {Ps:List (Value->Heap->Prop)} {p:Pos} (x:Yds w A b h env es Ps) (hl:autoParam (Nat.ble Ps.length sizeLine=true) auR):Yd w A b h env (.List es p) (IsLs Ps):=(Yd.lstN x hl).mono λ_ _ _ q=>q.1
theorem Yd.callB {x:Str} {p pos:Pos} {id:String} {e:Expr} {rest:List Expr} {Ps:List (Value->Heap->Prop)} {P:Value->Heap->Prop} (hf:Var h env x (.builtin id)) (ha:Yds w A b h env (e::rest) Ps)
  (ho:∀ vs s,Le b s.heap->Le h s.heap->Paired (λP v=>P v s.heap) Ps vs->Wp w A (call (.builtin id) vs) (λz s'=>Kp s s'/\∀ g,Le b g->Nw s s' g->P z g) s)
  (hd:autoParam ((x == ("__debug__" : Str))=false) auD) (he:autoParam (starEach (e::rest) env=(false,eval e env)::starEach rest env) auR) (hp:autoParam ((backTo pos (starEach rest env)).any (·.1)=false) auR) :
  Yd w A b h env (.Call (.Name x p) (e::rest) [] pos) P:=λs hb hs=>
 PyProof.Rows.Call_Name rfl (wpAny_Name (hf w A s _ _ hs (callWith_builtin1 ((ha s pos hb hs).to λvs s1 q=>
  (ho vs s1 (hb.trans q.1.le) (hs.trans q.1.le) (q.2 _ (hb.trans q.1.le) (Nw.self _ _))).to λz s2 q2=>⟨q.1.trans q2.1,λg hg n=>q2.2 g hg (n.right q.1.le)⟩) he hp)) hd)
theorem Yd.callT {x:Str} {p pos:Pos} {T:String} {e:Expr} {rest:List Expr} {Ps:List (Value->Heap->Prop)} {P:Value->Heap->Prop} (hf:Var h env x (.type T)) (ha:Yds w A b h env (e::rest) Ps)
  (ho:∀ vs s,Le b s.heap->Le h s.heap->Paired (λP v=>P v s.heap) Ps vs->Wp w A (call (.type T) vs) (λz s'=>Kp s s'/\∀ g,Le b g->Nw s s' g->P z g) s)
  (hd:autoParam ((x == ("__debug__" : Str))=false) auD) (he:autoParam (starEach (e::rest) env=(false,eval e env)::starEach rest env) auR) (hp:autoParam ((backTo pos (starEach rest env)).any (·.1)=false) auR) :
  Yd w A b h env (.Call (.Name x p) (e::rest) [] pos) P:=λs hb hs=>
 PyProof.Rows.Call_Name rfl (wpAny_Name (hf w A s _ _ hs (callWith_type1 ((ha s pos hb hs).to λvs s1 q=>
  (ho vs s1 (hb.trans q.1.le) (hs.trans q.1.le) (q.2 _ (hb.trans q.1.le) (Nw.self _ _))).to λz s2 q2=>⟨q.1.trans q2.1,λg hg n=>q2.2 g hg (n.right q.1.le)⟩) he hp)) hd)
theorem Yd.callT0 {x:Str} {p pos:Pos} {T:String} {P:Value->Heap->Prop} (hf:Var h env x (.type T))
  (ho:∀ s,Le b s.heap->Le h s.heap->Wp w A (call (.type T) []) (λz s'=>Kp s s'/\∀ g,Le b g->Nw s s' g->P z g) s) (hd:autoParam ((x == ("__debug__" : Str))=false) auD) :
  Yd w A b h env (.Call (.Name x p) [] [] pos) P:=λs hb hs=>
 PyProof.Rows.Call_Name rfl (wpAny_Name (hf w A s _ _ hs (callWith_type0 (env:=env) (ho s hb hs))) hd)
structure FnAt (h:Heap) (f:Addr) (fd:FuncData):Prop where
 fn:∃ o,h.get? f=some o/\o.data=.func fd/\o.cls=.type "function"
 code:h.CodeRec fd.code fd.qualname
theorem FnAt.le {h h':Heap} {f:Addr} {fd:FuncData} (x:FnAt h f fd) (l:Le h h'):FnAt h' f fd:=⟨q1_2 x.fn λo ho hd=>(e1_2 o (l.get _ _ ho) hd),x.code.keeps l.get⟩
theorem Yd.callF {x:Str} {p pos:Pos} {f:Addr} {fd:FuncData} {e:Expr} {rest:List Expr} {Ps:List (Value->Heap->Prop)} {P:Value->Heap->Prop} (hf:Var h env x (.ref f)) (hF:FnAt h f fd) (ha:Yds w A b h env (e::rest) Ps)
  (ho:∀ vs s,Le b s.heap->Le h s.heap->Paired (λP v=>P v s.heap) Ps vs->Wp w A (call (.ref f) vs) (λz s'=>Kp s s'/\∀ g,Le b g->Nw s s' g->P z g) s)
  (hd:autoParam ((x == ("__debug__" : Str))=false) auD) (he:autoParam (starEach (e::rest) env=(false,eval e env)::starEach rest env) auR) :
  Yd w A b h env (.Call (.Name x p) (e::rest) [] pos) P:=λs hb hs=>by
 refine q1_3 (hF.fn) λo ho' hd' _=>?_
 exact PyProof.Rows.Call_Name rfl (wpAny_Name (hf w A s _ _ hs (callWith_def hd' ((ha s pos hb hs).to λvs s1 q=>
  ⟨(hs.trans q.1.le).get _ _ ho',(ho vs s1 (hb.trans q.1.le) (hs.trans q.1.le) (q.2 _ (hb.trans q.1.le) (Nw.self _ _))).to λz s2 q2=>⟨q.1.trans q2.1,λg hg n=>q2.2 g hg (n.right q.1.le)⟩⟩) he)) hd)
theorem Itr.list {a:Addr} {items:Array Value} {β:Type} {xs:List β} {B:β->Value->Prop} {s:Shared} (hA:A.handled=Option.none) (hl:h.IsList a items) (hs:Le h s.heap) (hx:Paired B xs items.toList) :
  Itr w A h (.ref a) xs.length (λj v=>∃ b,xs[j]?=some b/\B b v) s:=by
 refine q1_2 (id hl) λol hol r=>?_
 have hl':s.heap.IsList a items:=e1_2 ol (hs.get _ _ hol) r
 have hne:a≠s.heap.objs.size:=Nat.ne_of_lt (Heap.lt_size (hs.get _ _ hol))
 refine wpAny_pyIter_list hl' ?_
 have hlen:items.size=xs.length:=by have:=hx.length;simp at this;omega
 have W:=Walks.list (prog:=Pg) (w:=w) (A:=A) hA s.heap.objs.size a hne items
 rw [hlen] at W
 refine e3_8 s.heap.objs.size [s.heap.objs.size,a] (λi h=>h.IsListIter s.heap.objs.size a i/\h.IsList a items) rfl ?_ ?_ (Kp.push _ _) (get_size_none _) (λi h' st=>?_) (λb hb hn=>?_) (λi v target s' _ st=>?_)
 ·refine⟨W.sub,W.frame,λi s Q E hi st hQ=>W.item i s Q E hi st λv h' tk hv=>hQ v h' tk ?_,W.done,W.self⟩
  have aux:∀ {l1:List β} {l2:List Value},Paired B l1 l2->∀ (i:Nat) (v:Value),l2[i]?=some v->∃ b,l1[i]?=some b/\B b v:=by
   intro l1 l2 p
   induction p with
   | nil=>intro i v e;simp at e
   | cons q _ ih=>
    intro i v e
    cases i with
    | zero=>simp at e;subst e;exact e1_2 _ rfl q
    | succ i=>simpa using ih i v (by simpa using e)
  exact aux hx i v (by simpa using hv)
 ·exact⟨e1_3 _ (Heap.get?_push_size _ rfl) rfl rfl,hl'.at λo e=>Heap.get?_push_of_some _ e⟩
 ·refine q1_2 (st.1) λo ho _=>?_;exact⟨o,ho⟩
 ·rcases zC hb with e | hb
  ·exact absurd e hn
  ·rw [zS hb];exact⟨_,hol⟩
 ·refine q1_3 (st.1) λo ho hc hd=>?_
  unfold letOwnedTupleGo
  cases target
  all_goals first
   | exact wpAny_pure rfl
   | (cases v with
     | ref T=>
      refine wpAny_bind (wpAny_load ho ?_)
      rw [hc,hd]
      refine wpAny_ite ?_
      rw [if_neg (by
       intro h
       rw [show (["enumerate","zip","dict_itemiterator","dict_reverseitemiterator","odict_iterator","itertools.zip_longest","itertools.pairwise"].contains "list_iterator")=false from by decide,Bool.false_and] at h
       cases h)]
      exact wpAny_pure rfl
     | _=>exact wpAny_pure rfl)
theorem Src.list {e:Expr} {a:Addr} {items:Array Value} {β:Type} {xs:List β} {B:β->Value->Prop} (hA:A.handled=Option.none) (he:Yd w A b h env e (IsV (.ref a))) (hl:b.IsList a items) (hx:Paired B xs items.toList) (hf:autoParam (∀ x,foldedSetIterable e env x=pure x) auI1) :
  Src w A b h env e xs B:=⟨hf,λs hb hs=>(he s hb hs).to λv s1 q=>by
 have e1:v=.ref a:=q.2 _ (hb.trans q.1.le) (Nw.self _ _)
 subst e1
 exact⟨q.1,Itr.list hA hl (hb.trans q.1.le) hx⟩⟩
theorem letGo_other {target:Expr} {I:Addr} {v:Value} {s:Shared} {o:Obj} {vs:Array Value} {T:String} (ho:s.heap.get? I=some o) (hc:o.cls=.type T) (hd:o.data=.fields vs)
  (hT:["enumerate","zip","dict_itemiterator","dict_reverseitemiterator","odict_iterator","itertools.zip_longest","itertools.pairwise"].contains T=false) :
  Wp w A (letOwnedTupleGo target (.ref I) v) (λ_ s''=>s''=s) s:=by
 unfold letOwnedTupleGo
 cases target
 all_goals first
  | exact wpAny_pure rfl
  | (cases v with
    | ref T'=>
     refine wpAny_bind (wpAny_load ho ?_)
     rw [hc,hd]
     refine wpAny_ite ?_
     rw [if_neg (by
      intro h
      rw [hT,Bool.false_and] at h
      cases h)]
     exact wpAny_pure rfl
    | _=>exact wpAny_pure rfl)
theorem Paired.getAt {β γ:Type} {B:β->γ->Prop} {l1:List β} {l2:List γ} (p:Paired B l1 l2):∀ (i:Nat) (v:γ),l2[i]?=some v->∃ b,l1[i]?=some b/\B b v:=by
 induction p with
 | nil=>intro i v e;simp at e
 | cons q _ ih=>
  intro i v e
  cases i with
  | zero=>simp at e;subst e;exact e1_2 _ rfl q
  | succ i=>simpa using ih i v (by simpa using e)
theorem Itr.tuple {a:Addr} {items:Array Value} {β:Type} {xs:List β} {B:β->Value->Prop} {s:Shared} (hA:A.handled=Option.none) (hl:h.IsTuple a items) (hs:Le h s.heap) (hx:Paired B xs items.toList) :
  Itr w A h (.ref a) xs.length (λj v=>∃ b,xs[j]?=some b/\B b v) s:=by
 refine q1_2 (id hl) λol hol r=>?_
 have hl':s.heap.IsTuple a items:=e1_2 ol (hs.get _ _ hol) r
 have hne:a≠s.heap.objs.size:=Nat.ne_of_lt (Heap.lt_size (hs.get _ _ hol))
 refine wpAny_pyIter_tuple hl' ?_
 have hlen:items.size=xs.length:=by have:=hx.length;simp at this;omega
 have W:=Walks.tuple (prog:=Pg) (w:=w) (A:=A) hA s.heap.objs.size a hne items
 rw [hlen] at W
 refine e3_8 s.heap.objs.size [s.heap.objs.size,a] (λi h=>h.IsTupleIter s.heap.objs.size a i/\h.IsTuple a items) rfl ?_ ?_ (Kp.push _ _) (get_size_none _) (λi h' st=>?_) (λb hb hn=>?_) (λi v target s' _ st=>?_)
 ·exact⟨W.sub,W.frame,λi s Q E hi st hQ=>W.item i s Q E hi st λv h' tk hv=>hQ v h' tk (Paired.getAt hx i v (by simpa using hv)),W.done,W.self⟩
 ·exact⟨e1_3 _ (Heap.get?_push_size _ rfl) rfl rfl,hl'.at λo e=>Heap.get?_push_of_some _ e⟩
 ·refine q1_2 (st.1) λo ho _=>?_;exact⟨o,ho⟩
 ·rcases zC hb with e | hb
  ·exact absurd e hn
  ·rw [zS hb];exact⟨_,hol⟩
 ·refine q1_3 (st.1) λo ho hc hd=>?_
  exact letGo_other ho hc hd (by decide)
theorem Src.tuple {e:Expr} {a:Addr} {items:Array Value} {β:Type} {xs:List β} {B:β->Value->Prop} (hA:A.handled=Option.none) (he:Yd w A b h env e (IsV (.ref a))) (hl:b.IsTuple a items) (hx:Paired B xs items.toList) (hf:autoParam (∀ x,foldedSetIterable e env x=pure x) auI1) :
  Src w A b h env e xs B:=⟨hf,λs hb hs=>(he s hb hs).to λv s1 q=>by
 have e1:v=.ref a:=q.2 _ (hb.trans q.1.le) (Nw.self _ _)
 subst e1
 exact⟨q.1,Itr.tuple hA hl (hb.trans q.1.le) hx⟩⟩
theorem Itr.range {r:Addr} {n:Nat} {t u v:Tok} {s:Shared} (hA:A.handled=Option.none) (hr:IsRange s.heap r 0 n 1 t u v) (hn:n<2 ^ 62) :
  Itr w A h (.ref r) (List.range n).length (λj v=>∃ b,(List.range n)[j]?=some b/\∃ t,v=.int (b:Int) t) s:=by
 refine wpAny_pyIter_range hr (small_one (by decide) (by decide) (by omega) (by omega)) ?_
 have W:=Walks.range (prog:=Pg) (w:=w) (A:=A) hA s.heap.objs.size 0 1 n
 rw [List.length_range]
 have e0:Builtin.Range.rangeSize 0 n 1=(n:Int):=by rw [rangeSize_one];split<;>omega
 refine e3_8 s.heap.objs.size [s.heap.objs.size] (λi h=>IsRangeIter h s.heap.objs.size (0+(i:Nat) * 1) ((n:Int)-(i:Nat)) 1) rfl ?_ ?_ (Kp.push _ _) (get_size_none _) (λi h' st=>⟨_,st⟩) (λb hb hn=>absurd (zS hb) hn) (λi v target s' _ st=>?_)
 ·refine⟨W.sub,W.frame,λi s Q E hi st hQ=>W.item i s Q E hi st λv h' tk hv=>hQ v h' tk ?_,W.done,W.self⟩
  refine byC0 λzn=>?_;refine q1_1 hv λt z1=>?_;clear hv;subst z1;refine zn ?_;clear zn
  exact e1_2 i (by simp [hi]) (e1_1 t (by simp))
 ·rw [e0]
  show Heap.get? _ _=_
  rw [Heap.get?_push_size _ rfl]
  simp [rawInt]
 ·exact letGo_other st rfl rfl (by decide)
theorem Src.range {x:Str} {p pos:Pos} {e:Expr} {n:Nat} (hA:A.handled=Option.none) (hf:Var h env x (.type "range")) (he:Yd w A b h env e (IsI n)) (hn:n<2 ^ 62) (hd:autoParam ((x == ("__debug__" : Str))=false) auD) (hst:autoParam (starEach [e] env=(false,eval e env)::starEach [] env) auR) :
  Src w A b h env (.Call (.Name x p) [e] [] pos) (List.range n) (λi v=>∃ t,v=.int (i:Int) t):=by
 refine⟨λ_=>rfl,λs hb hs=>?_⟩
 refine PyProof.Rows.Call_Name rfl (wpAny_Name (hf w A s _ _ hs (callWith_type1 ((Yds.one he hst s pos hb hs).to λvs s1 q=>?_) hst)) hd)
 have q0:=q.2 s1.heap (hb.trans q.1.le) (Nw.self _ _)
 refine v1 q0 λy1 ey a=>?_;subst ey
 refine byC0 λzn=>?_;refine q1_1 a λt z1=>?_;clear a;subst z1;refine zn ?_;clear zn
 refine call_range_1 ⟨q.1.trans ⟨e2_1 _ _ rfl,Le.push _ _⟩,?_⟩
 exact Itr.range hA (IsRange.new ..) hn
end
section
variable {w:World} {A:Around} {s₀ s:Shared} {b:Heap} {X:List Addr} {env:Env} {own:List (Str×Addr)} {m cm:SoV}
theorem InF.sub {Y:List Addr} (I:InF s₀ b X env own m cm s) (h:∀ a∈Y,a∈X):InF s₀ b Y env own m cm s:=
 ⟨I.same,I.le,I.fs,λa ha=>I.off a (ha.imp id (h a)),λa ha=>I.live a (h a ha),λa ha=>I.apart a (h a ha)⟩
theorem InF.ev' {Y:List Addr} {m' cm':SoV} {s':Shared} (I:InF s₀ b X env own m cm s) (E:Ev Y s s') (hY:∀ a∈Y,a∈ft env own\/a∈X) (F':Fs s'.heap env own m' cm') (lv:∀ a∈X,a∈Y->∃ o,s'.heap.get? a=some o):InF s₀ b X env own m' cm' s':=
 ⟨same_trans I.same E.same,E.le I.le λa ha=>I.off a (hY a ha),F',I.off,λa ha=>by
  by_cases hm:a∈Y
  ·exact lv a ha hm
  ·refine q1_1 (I.live a ha) λo ho=>?_;exact⟨o,E.get a o hm ho⟩,I.apart⟩
theorem ex_forY {β:Type} {xs:List β} {B:β->Value->Prop} {target iter:Expr} {body:List Stmt} {p:Pos} (K₁:β->SoV->SoV->SoV->SoV->Prop)
  (J:Nat->Heap->SoV->SoV->Shared->Prop) (Y:List Addr) (hYX:∀ a∈Y,a∈X) (I0:InF s₀ b X env own m cm s) (hsrc:Src w A b s.heap env iter xs B) (hJ0:∀ s',Kp s s'->J 0 b m cm s')
  (asg:∀ x v s m cm,x∈xs->B x v->Le b s.heap->Fs s.heap env own m cm->Wp w A (assign target env v) (λ_ s'=>Ev (ft env own) s s'/\∃ m' cm',Fs s'.heap env own m' cm'/\K₁ x m cm m' cm') s)
  (turn:∀ i x I b' m1 cm1 s1 m2 cm2 s2,xs[i]?=some x->Le b b'->InF s₀ b' (I::X) env own m1 cm1 s1->I∉X->s.heap.get? I=none->J i b' m1 cm1 s1->Ev (I::ft env own) s1 s2->K₁ x m1 cm1 m2 cm2->InF s₀ b' (I::X) env own m2 cm2 s2->
   Wp w A (execs body env) (λfl s3=>(fl=.next\/fl=.cont)/\∃ b3 m3 cm3,Le b' b3/\Ev (ft env own++Y) s2 s3/\InF s₀ b3 (I::X) env own m3 cm3 s3/\J (i+1) b3 m3 cm3 s3) s2) :
  Wp w A (exec (.For target iter body [] p) env) (λfl s'=>fl=.next/\∃ I b' m' cm' s1,Le b b'/\InF s₀ b' X env own m' cm' s'/\I∉ft env own/\I∉X/\s.heap.get? I=none/\InF s₀ b' X env own m' cm' s1/\J xs.length b' m' cm' s1/\Ev [I] s1 s'/\Ev (ft env own++Y) s s') s:=by
 refine q0_2 hsrc λhfold hsr=>?_;clear hsrc
 refine wpAny_For ((hsr s I0.le (Le.refl _)).to λx s1 q1=>?_) hfold
 refine Wp.to q1.2 λit s2 q2=>?_
 refine byC0 λzn=>?_;refine q3_2 q2 λI fp St z1 z2=>?_;clear q2;subst z1;refine q0_7 z2 λW st0 k2 hI lv hf go=>?_;clear z2;refine zn ?_;clear zn
 have k12:=q1.1.trans k2
 have hIs:s.heap.get? I=none:=q1.1.le.none hI
 have hIf:I∉ft env own:=λhm=>by refine q1_1 (I0.fs.live I hm) λo ho=>?_;rw [hIs] at ho;cases ho
 have hIX:I∉X:=λhm=>by refine q1_1 (I0.live I hm) λo ho=>?_;rw [hIs] at ho;cases ho
 have hIb:b.get? I=none:=I0.le.none hIs
 have I2:=I0.kp k12
 have I2':InF s₀ b (I::X) env own m cm s2:=⟨I2.same,I2.le,I2.fs,λa ha=>by
   rcases ha with ha | ha
   ·exact I2.off a (.inl ha)
   ·(rcases zD ha with rfl | ha)
    ·exact hIb
    ·exact I2.off a (.inr ha),λa ha=>by
   (rcases zD ha with rfl | ha)
   ·exact lv 0 _ st0
   ·exact I2.live a ha,λa ha=>by
   (rcases zD ha with rfl | ha)
   ·exact hIf
   ·exact I2.apart a ha⟩
 have fpX:∀ a∈fp,a∉ft env own++Y:=λa ha hm=>by
  by_cases e:a=I
  ·subst e;exact (List.mem_append.mp hm).elim hIf λh=>hIX (hYX _ h)
  ·refine q1_1 (hf a ha e) λo ho=>?_
   rw [I0.off a ((List.mem_append.mp hm).imp id (hYX a))] at ho;cases ho
 refine codeAny_mono (R:=λr s'=>r=.ok .next/\∃ b' m' cm' s1,Le b b'/\InF s₀ b' X env own m' cm' s'/\InF s₀ b' X env own m' cm' s1/\J xs.length b' m' cm' s1/\Ev [I] s1 s'/\Ev (ft env own++Y) s s') (codeAny_forLoop_any
  (λk s'=>∃ i b' m' cm',k=xs.length+1-i/\i<=xs.length/\St i s'.heap/\Le b b'/\InF s₀ b' (I::X) env own m' cm' s'/\J i b' m' cm' s'/\Ev (ft env own++Y) s s') ?turn (xs.length+1)
  (e4_7 0 b m cm (by omega) (Nat.zero_le _) st0 (Le.refl _) I2' (hJ0 _ k12) k12.ev)) λr s' q=>?_
 case turn=>
  (intro k s' zr;refine byC0 λzn=>?_;refine q4_2 zr λi b' m' cm' z1 z2=>?_;clear zr;subst z1;refine q0_6 z2 λhi st hb' I' hJ Eall=>?_;clear z2;refine zn ?_;clear zn)
  by_cases hlt:i<xs.length
  ·refine W.item i _ _ _ hlt st λv h1 tk1 hPv st1 hk1=>?_
   refine q1_2 hPv λx hb hBv=>?_;clear hPv
   have hbm:x∈xs:=List.mem_of_getElem? hb
   dsimp only
   have E1:Ev [I] s' { s' with heap:=h1,toks:=tk1 }:=⟨e2_1 _ _ rfl,λc o nb e=>hk1 c o nb e⟩
   have F1:Fs h1 env own m' cm':=I'.fs.get λc hc o e=>hk1 c o (λz=>hIf (zS z▸hc)) e
   have I3:InF s₀ b' (I::X) env own m' cm' { s' with heap:=h1,toks:=tk1 }:=I'.ev' E1 (λa ha=>.inr (by rw [zS ha];exact zH ..)) F1 (λa _ ha=>by rw [zS ha];exact lv _ _ st1)
   refine (go i v target { s' with heap:=h1,toks:=tk1 } (e1_2 x hb hBv) st1).to λ_ s3 e3=>?_
   subst e3
   refine (asg x v { s' with heap:=h1,toks:=tk1 } m' cm' hbm hBv (hb'.trans I3.le) F1).to λ_ s4 q4=>?_
   refine byC0 λzn=>?_;refine s2_2 q4 λE4 m4 cm4 F4 hK4=>?_;clear q4;refine zn ?_;clear zn
   have I4:InF s₀ b' (I::X) env own m4 cm4 s4:=I3.ev' E4 (λa ha=>.inl ha) F4 (λa ha hm=>absurd hm (I3.apart a ha))
   have E14:Ev (I::ft env own) s' s4:=(E1.mono λa ha=>by rw [zS ha];exact zH ..).trans (E4.mono λa ha=>zT ha)
   have st4:St (i+1) s4.heap:=W.frame _ _ _ st1 λc hc o e=>E4.get c o (λz=>fpX c hc (List.mem_append_left _ z)) e
   refine (turn i x I b' m' cm' s' m4 cm4 s4 hb hb' I' hIX hIs hJ E14 hK4 I4).to λfl s5 q5=>?_
   refine byC0 λzn=>?_;refine s3_4 q5 λhfl b5 m5 cm5 l5 E5 I5 hJ5=>?_;clear q5;refine zn ?_;clear zn
   have st5:St (i+1) s5.heap:=W.frame _ _ _ st4 λc hc o e=>E5.get c o (fpX c hc) e
   have Eall':Ev (ft env own++Y) s s5:=by
    have e1:Ev (ft env own++Y) s { s' with heap:=h1,toks:=tk1 }:=⟨same_trans Eall.same E1.same,λc o nb e=>hk1 c o (λz=>by rw [zS z,hIs] at e;cases e) (Eall.get c o nb e)⟩
    exact (e1.trans (E4.mono λa ha=>List.mem_append_left _ ha)).trans E5
   have fin:∃ k',k'<xs.length+1-i/\∃ i' b' m' cm',k'=xs.length+1-i'/\i'<=xs.length/\St i' s5.heap/\Le b b'/\InF s₀ b' (I::X) env own m' cm' s5/\J i' b' m' cm' s5/\Ev (ft env own++Y) s s5:=
    e1_2 (xs.length+1-(i+1)) (by omega) (e4_7 (i+1) b5 m5 cm5 rfl hlt st5 (hb'.trans l5) I5 hJ5 Eall')
   (refine byC0 λzn=>?_;((rcases hfl with rfl | rfl))<;>(refine zn ?_;clear zn))<;>exact fin
  ·have hin':i=xs.length:=by omega
   subst hin'
   refine W.done _ _ _ st λh1 tk1 hk1=>?_
   dsimp only
   have E1:Ev [I] s' { s' with heap:=h1,toks:=tk1 }:=⟨e2_1 _ _ rfl,λc o nb e=>hk1 c o nb e⟩
   have F1:Fs h1 env own m' cm':=I'.fs.get λc hc o e=>hk1 c o (λz=>hIf (zS z▸hc)) e
   have Ix:=I'.sub (Y:=X) λa ha=>zT ha
   refine wpAny_execs_nil (e0_2 rfl (e4_6 b' m' cm' s' hb' ?_ Ix hJ E1 ?_))
   ·refine⟨same_trans Ix.same E1.same,⟨λc o e=>hk1 c o (λz=>?_) (Ix.le.get c o e)⟩,F1,Ix.off,λa ha=>?_,Ix.apart⟩
    ·rw [zS z,I'.off I (.inr (zH ..))] at e;cases e
    ·refine q1_1 (Ix.live a ha) λo ho=>?_
     exact⟨o,hk1 a o (λz=>hIX (zS z▸ha)) ho⟩
   ·exact⟨same_trans Eall.same E1.same,λc o nb e=>hk1 c o (λz=>by rw [zS z,hIs] at e;cases e) (Eall.get c o nb e)⟩
 ·refine byC0 λzn=>?_;refine q0_2 q λz1 z2=>?_;clear q;subst z1;refine q4_6 z2 λb' m' cm' s3 l Ia Ib hJ E1 E2=>?_;clear z2;refine zn ?_;clear zn
  exact e0_2 rfl (e5_9 I b' m' cm' s3 l Ia hIf hIX hIs Ib hJ E1 E2)
theorem ex_for {β:Type} {xs:List β} {B:β->Value->Prop} {target iter:Expr} {body:List Stmt} {p:Pos} (K₁:β->SoV->SoV->SoV->SoV->Prop)
  (J:Nat->Heap->SoV->SoV->Shared->Prop) (I0:InF s₀ b X env own m cm s) (hsrc:Src w A b s.heap env iter xs B) (hJ0:∀ s',Kp s s'->J 0 b m cm s')
  (asg:∀ x v s m cm,x∈xs->B x v->Le b s.heap->Fs s.heap env own m cm->Wp w A (assign target env v) (λ_ s'=>Ev (ft env own) s s'/\∃ m' cm',Fs s'.heap env own m' cm'/\K₁ x m cm m' cm') s)
  (turn:∀ i x I b' m1 cm1 s1 m2 cm2 s2,xs[i]?=some x->Le b b'->InF s₀ b' (I::X) env own m1 cm1 s1->I∉X->s.heap.get? I=none->J i b' m1 cm1 s1->Ev (I::ft env own) s1 s2->K₁ x m1 cm1 m2 cm2->InF s₀ b' (I::X) env own m2 cm2 s2->
   Wp w A (execs body env) (λfl s3=>(fl=.next\/fl=.cont)/\∃ b3 m3 cm3,Le b' b3/\Ev (ft env own++X) s2 s3/\InF s₀ b3 (I::X) env own m3 cm3 s3/\J (i+1) b3 m3 cm3 s3) s2) :
  Wp w A (exec (.For target iter body [] p) env) (λfl s'=>fl=.next/\∃ I b' m' cm' s1,Le b b'/\InF s₀ b' X env own m' cm' s'/\I∉ft env own/\I∉X/\s.heap.get? I=none/\InF s₀ b' X env own m' cm' s1/\J xs.length b' m' cm' s1/\Ev [I] s1 s'/\Ev (ft env own++X) s s') s:=
 ex_forY K₁ J X (λ_ h=>h) I0 hsrc hJ0 asg turn
theorem ex_asgM {x:Str} {px p:Pos} {e:Expr} {Y:List Addr} {Φ:Value->Shared->Prop} (I:InF s₀ b X env own m cm s) (hk:env.scope.kind=.function) (hl:env.kindOf x=some .local) (hY:∀ a∈Y,a∈X)
  (hE:Wp w A (eval e env) (λv s'=>Ev Y s s'/\(∀ a∈Y,∃ o,s'.heap.get? a=some o)/\Φ v s') s) (hs:swapsWith e (some (.Name x px)) p.line env=pure false) :
  Wp w A (exec (.Assign [.Name x px] e p) env) (λfl s'=>fl=.next/\∃ v s1 b',Ev Y s s1/\Φ v s1/\Ev (ft env own) s1 s'/\Le b b'/\InF s₀ b' X env own (up m x v) cm s'/\∀ a o,a∉ft env own->a∉X->s'.heap.get? a=some o->b'.get? a=some o) s:=by
 refine wpAny_Assign_Name (hE.to λv s1 q=>?_) hs
 refine byC0 λzn=>?_
 refine q0_3 q λE1 lv hΦ=>?_;clear q
 have F1:Fs s1.heap env own m cm:=I.fs.get λc hc o e=>E1.get c o (λz=>I.apart c (hY c z) hc) e
 refine q1_3 (I.step E1 (λa ha=>.inr (hY a ha)) F1 (λa _ ha=>lv a ha)) λb1 l1 I1 _=>?_
 refine zn ?_;clear zn
 refine (sto_loc F1 hk hl).to λ_ s2 q2=>?_
 refine q1_3 (I1.step q2.1 (λa ha=>.inl ha) q2.2 (λa ha hm=>absurd hm (I1.apart a ha))) λb2 l2 I2 g=>?_
 exact e0_2 rfl (e3_6 v s1 b2 E1 hΦ q2.1 (l1.trans l2) I2 g)
end
noncomputable def stA:Stmt->Str×Arguments×List Stmt×Scope
 | .FunctionDef n a b _ _ _ sc ..=>(n,a,b,sc)
 | .ClassDef _ _ _ b _ _ sc ..=>(Str.empty,⟨[],[],none,[],[],none,[]⟩,b,sc)
 | .For _ _ b ..=>(Str.empty,⟨[],[],none,[],[],none,[]⟩,b,default)
 | .While _ b ..=>(Str.empty,⟨[],[],none,[],[],none,[]⟩,b,default)
 | _=>(Str.empty,⟨[],[],none,[],[],none,[]⟩,[],default)
noncomputable def fName (s:Stmt):Str:=(stA s).1
noncomputable def fArgs (s:Stmt):Arguments:=(stA s).2.1
noncomputable def fBody (s:Stmt):List Stmt:=(stA s).2.2.1
noncomputable def fScope (s:Stmt):Scope:=(stA s).2.2.2
noncomputable def nth (l:List Stmt) (i:Nat):Stmt:=match l.drop i with | s::_=>s | []=>.Pass default
noncomputable def top (i:Nat):Stmt:=nth Pg.main.body i
noncomputable def meth (i j:Nat):Stmt:=nth (fBody (top i)) j
noncomputable def fdOf (st:Stmt) (qual:Str) (dflt pm cd:Value):FuncData:=
 { name:=fName st,qualname:=qual,params:=fArgs st,body:=.stmts (fBody st),scope:=fScope st,globals:=mainGlobals,closure:=[],defaults:=dflt,kwdefaults:=.none,doc:=.none,pyModule:=pm,annotations:=none,code:=cd,closureTuple:=.none,builtins:=builtinsNs }
theorem InF.start {s s1:Shared} {env:Env} {m cm:SoV} (x:InCallC s env.locals m env.cells cm s1) (nd:(env.cells.map (·.1)).Nodup):InF s s.heap [] env env.cells m cm s1:=by
 have hL:s.heap.get? env.locals=none:=by
  cases q:s.heap.get? env.locals with
  | none=>rfl
  | some o=>exact absurd (Heap.lt_size q) (Nat.not_lt.mpr x.toInCall.fresh)
 have look:∀ (l:List (Str×Addr)),(l.map (·.1)).Nodup->∀ n c,(n,c)∈l->l.lookup n=some c:=by
  intro l
  induction l with
  | nil=>intro _ n c hc;cases hc
  | cons y r ih=>
   intro hn n c hc
   rw [List.map_cons,List.nodup_cons] at hn
   rcases zC hc with e | hc
   ·subst e;simp [List.lookup]
   ·have ne:(n == y.1)=false:=by
     simp only [beq_eq_false_iff_ne]
     (intro zr;subst zr)
     exact hn.1 (List.mem_map.mpr (e1_2 _ hc rfl))
    rw [List.lookup_cons,ne]
    exact ih hn.2 n c hc
 refine⟨x.toInCall.same,⟨x.toInCall.keep⟩,⟨x.toInCall.ns,λn c hc=>x.cell n c (look _ nd n c hc),λn c hc=>look _ nd n c hc,x.apart,λn c hc=>Nat.ne_of_gt (x.above n c hc)⟩,λa ha=>?_,λ_ h=>(nomatch h),λ_ h=>(nomatch h)⟩
 rcases ha with ha | ha
 ·(rcases zC ha with rfl | ha)
  ·exact hL
  ·rcases List.mem_map.mp ha with ⟨⟨n,c⟩,hc,rfl⟩
   cases q:s.heap.get? c with
   | none=>rfl
   | some o=>
    have h1:=x.above n c hc
    have h2:=Heap.lt_size q
    have h3:=x.toInCall.fresh
    exact absurd (Nat.lt_of_lt_of_le h2 h3) (Nat.not_lt.mpr (Nat.le_of_lt h1))
 ·cases ha
noncomputable def retOf:Flow->Value | .ret v=>v | _=>.none
section
variable {w:World} {A:Around} {s:Shared} {R:Result->Shared->Prop}
theorem call_fn {n:Nat} {f:Addr} {fd:FuncData} {body:List Stmt} {vals:List Value} {binds:List (Str×Value)} (ok:Ok (n+1) A) (hF:FnAt s.heap f fd) (hlim:s.heap.NoLimit)
  (hbody:fd.body=.stmts body) (hbind:bindArgs fd ⟨vals,[]⟩=pure binds) (hclo:fd.closure=[])
  (hkind:∀ x∈binds,fd.scope.names.lookup x.1=some .local\/(fd.scope.names.lookup x.1=some .cell/\((cellsFrom (s.heap.objs.size+1) fd.scope.names []).lookup x.1).isSome=true))
  (nd:((cellsFrom (s.heap.objs.size+1) fd.scope.names []).map (·.1)).Nodup)
  (h:∀ s1 L,L=s.heap.objs.size->InF s s.heap [] (callEnvC fd L f) (callEnvC fd L f).cells (bindL (callEnvC fd L f).kindOf binds λ_=>none) (bindC (callEnvC fd L f).kindOf binds λ_=>none) s1->Ok n (A.deeper (callEnvC fd L f))->
   Wp w (A.deeper (callEnvC fd L f)) (execs body (callEnvC fd L f)) (λfl s'=>R (.ok (.ret (retOf fl))) s') s1)
  (hco:autoParam (fd.scope.isCoroutine=false) auR) (hgen:autoParam (fd.scope.isGenerator=false) auR) (hk:autoParam (fd.scope.kind=.function) auR):codeAny (model Pg w) A (.call (.ref f) ⟨vals,[]⟩) R s:=by
 refine q1_3 (hF.fn) λo ho hd _=>?_
 refine codeAny_call_cells ok.depth ho hd hlim hF.code hbody hbind hclo hkind (λs1 x=>?_) hco hgen hk
 exact (h s1 _ rfl (InF.start x nd) ok.deeper).to λfl s' q=>by cases fl<;>exact q
end
noncomputable abbrev lawFd (pm cd:Value):FuncData:=fdOf (top 15) (sO "law") .none pm cd
noncomputable abbrev lawEnv (pm cd:Value) (L f:Addr):Env:=callEnvC (lawFd pm cd) L f
noncomputable def IsPair:Int×Int->Value->Heap->Prop:=λx v g=>IsT [IsI x.1,IsI x.2] v g
theorem flat1 {α β:Type} (g:α->β) (l:List α):(l.filter λ_=>true).flatMap (λx=>[g x])=l.map g:=by
 induction l with
 | nil=>rfl
 | cons a r ih=>simpa using ih
theorem lawCells (pm cd:Value) (L f:Addr):(lawEnv pm cd L f).cells=[(sO "due",L+5),(sO "over",L+4),(sO "places",L+3),(sO "behind",L+2),(sO "count",L+1)]:=rfl
section
variable {w:World} {A:Around} {s₀ s:Shared} {b:Heap} {pm cd:Value} {L f:Addr} {m cm:SoV}
theorem law_told {n:Nat} {a:Addr} {vs:List Value} {ns:List Int} {c:Int} {t:Tok} (ok:Ok n A) (I:InF s₀ b [] (lawEnv pm cd L f) (lawEnv pm cd L f).cells m cm s)
  (h1:m (sO "numbers")=some (.ref a)) (hl:b.IsList a vs.toArray) (hn:Paired (λi v=>∃ t,v=.int i t) ns vs) (hlen:ns.length<=63)
  (h2:cm (sO "count")=some (.int c t)) (hc:c≠0) (hc2:c.natAbs<1073741824) :
  Wp w A (exec (nth (fBody (top 15)) 3) (lawEnv pm cd L f)) (λfl s'=>fl=.next/\Ev (ft (lawEnv pm cd L f) (lawEnv pm cd L f).cells) s s'/\∃ v b',Le b b'/\InF s₀ b' [] (lawEnv pm cd L f) (lawEnv pm cd L f).cells (up m (sO "told") v) cm s'/\
   IsL IsPair (ns.map λx=>(x.fmod c,(x.fdiv c).fmod c)) v b'/\Nu s.heap v) s:=by
 have e:ns.map (λx=>(x.fmod c,(x.fdiv c).fmod c))=(ns.filter λ_=>true).flatMap λx=>[(x.fmod c,(x.fdiv c).fmod c)]:=(flat1 _ _).symm
 rw [e]
 refine ex_swap (cl:=[(sO "count",L+1)]) (xs:=ns) (B:=λi v=>∃ t,v=.int i t) (K₁:=λi m _=>∃ t,m (sO "x")=some (.int i t)) I rfl rfl rfl rfl rfl (by decide) rfl (by intro g' h;cases h) (by intro C n c h;cases h) ?src ?sz ?body
 case src=>exact Src.list ok.hd (Yd.namV (I.fs.var rfl rfl h1)) (hl.at λo e=>I.le.get _ _ e) hn
 case sz=>rw [flat1,List.length_map,sizeLine_eq];omega
 case body=>
  intro C D O
  refine⟨λx v s m cm hx hB hs F=>?_,λx hh m cm _ _ _ _=>Ts.nil,λx _ _=>?_⟩
  ·refine byC0 λzn=>?_;refine q1_1 hB λt z1=>?_;clear hB;subst z1;refine zn ?_;clear zn
   exact (asg_loc F rfl rfl).to λ_ s' q=>e0_2 q.1 (e2_2 _ _ q.2 (e1_1 t (by simp [up])))
  ·refine emit_leaf rfl I.le O λhh m' cm' hr F hK=>?_
   refine q1_1 hK λt' hx=>?_;clear hK
   have V1:=F.var (x:=sO "x") rfl rfl hx
   have V2:=F.cel (x:=sO "count") (h2▸(I.fs.cell (sO "count") (L+1) (by rw [lawCells];simp)).keeps hr.get) rfl rfl rfl
   exact Yd.tup (Yds.two (Yd.mod (Yd.namI V1) (Yd.namI V2) hc) (Yd.mod (Yd.fdiv (Yd.namI V1) (Yd.namI V2) hc hc2) (Yd.namI V2) hc))
end
section
open Builtin Builtin.ObjectAttr Builtin.Getset_descriptor
section
variable {w:World} {A:Around} {s:Shared} {R:Result->Shared->Prop}
theorem call_fnB {n:Nat} {f:Addr} {fd:FuncData} {body:List Stmt} {vals:List Value} (ok:Ok (n+1) A) (hF:FnAt s.heap f fd) (hlim:s.heap.NoLimit)
  (hbody:fd.body=.stmts body) (hclo:fd.closure=[])
  (hb:Wp w A.in1 (bindArgs fd ⟨vals,[]⟩) (λbinds s'=>Kp s s'/\
   (∀ x∈binds,fd.scope.names.lookup x.1=some .local\/(fd.scope.names.lookup x.1=some .cell/\((cellsFrom (s'.heap.objs.size+1) fd.scope.names []).lookup x.1).isSome=true))/\
   ((cellsFrom (s'.heap.objs.size+1) fd.scope.names []).map (·.1)).Nodup/\
   ∀ s1 L,L=s'.heap.objs.size->InF s' s'.heap [] (callEnvC fd L f) (callEnvC fd L f).cells (bindL (callEnvC fd L f).kindOf binds λ_=>none) (bindC (callEnvC fd L f).kindOf binds λ_=>none) s1->Ok n (A.deeper (callEnvC fd L f))->
   Wp w (A.deeper (callEnvC fd L f)) (execs body (callEnvC fd L f)) (λfl s'=>R (.ok (.ret (retOf fl))) s') s1) s)
  (hco:autoParam (fd.scope.isCoroutine=false) auR) (hgen:autoParam (fd.scope.isGenerator=false) auR) (hk:autoParam (fd.scope.kind=.function) auR):codeAny (model Pg w) A (.call (.ref f) ⟨vals,[]⟩) R s:=by
 refine q1_3 (hF.fn) λo ho hd _=>?_
 refine codeAny_call_function ok.depth ho hd hco hgen hbody hF.code (Wp.to hb λbinds s' q=>?_)
 refine q0_4 q λk hkind nd h=>?_;clear q
 rw [hclo]
 refine wpAny_newFunctionEnv_cells hk hkind λenv he s1 x=>?_
 subst he
 refine⟨(hlim.keeps k.le.get).keeps x.toInCall.keep,codeAny_func ?_⟩
 exact (h s1 _ rfl (InF.start x nd) ok.deeper).to λfl s' q=>by cases fl<;>exact q
structure SlotK (K:Frag) (C:Addr) (name:Str) (p i:Nat):Prop where
 g:plainGet K C name=true
 c:isClsIn K C=true
 a:findIn K (.ref C) name=some (some (.ref p))
 n:specialIn K (.ref p) "__get__"=some (some (.builtin "member_descriptor.__get__"))
 t:takesIn K (.ref p)=some true
 sl:slotIn K p C=some i
 s:findIn K (.ref C) "__setattr__"=some (some (.builtin "object.__setattr__"))
 pl:plainOver K C=true
 tk:takerIn K C name=some (some (.ref p))
 T:typeIn K (.ref p)=some (.type "member_descriptor")
theorem get_slotK {K:Frag} {C x:Addr} {ox od:Obj} {name:Str} {p i:Nat} {v:Value} {e:Bool} {Q:Value->Shared->Prop} {E:Value->Shared->Prop} (X:K.In s.heap) (k:SlotK K C name p i) (I:PySem.W.InstAt s.heap x ox C (some od))
  (hv:(ox.slots[i]?).join=some v) (hh:handedIn v=true) (h:Q v { s with toks:=s.toks+1 }):wpAny (model Pg w) A (getAttr (.ref x) name e) Q E s:=
 get_bind X I (plainGet_of k.g).1 (findObj_data k.c k.a k.n k.t) (plainGet_of k.g).2 (wpAny_call (slot_get (s:={ s with toks:=s.toks+1 }) X I k.sl hv (handed_on hh h)))
theorem set_slotK {K:Frag} {C x:Addr} {ox od:Obj} {name:Str} {p i:Nat} {v:Value} {Q:Unit->Shared->Prop} {E:Value->Shared->Prop} (X:K.In s.heap) (k:SlotK K C name p i) (I:PySem.W.InstAt s.heap x ox C (some od)) (hi:i<1000)
  (h:Q () { s with toks:=s.toks+1,heap:=s.heap.update x λo=>{ o with slots:=(o.slots++Array.replicate (i+1-o.slots.size) none).setIfInBounds i (some v) } }):wpAny (model Pg w) A (setAttr (.ref x) name v) Q E s:=by
 refine set_plain X I k.s (osa_descr (s:={ s with toks:=s.toks+1 }) KF.slot_mset X I k.pl k.tk k.T ?_)
 refine byC0 λzn=>?_
 refine q6_1 (slot_of X k.sl) λn tn owner behind tb d z1=>?_;refine q2_5 z1 λsl cd ho hc hm hb z2=>?_;clear z1;subst z2
 rcases s with ⟨hh,g,dr,t,os⟩
 refine zn ?_;clear zn
 have type:=I.type (M:=model Pg w)
 have mro:=looks_mroIn (M:=model Pg w) X hm
 have names:Looks (model Pg w) hh (Slots.slotNamesOf (.ref C)) cd.slotNames:=(looks_clsIn X hc).andThen .now
 have atX:=I.at_
 dsimp only at ho atX type mro
 have c0:=looks_field (M:=model Pg w) ho 0 (v:=.str n tn) rfl
 have c1:=looks_field (M:=model Pg w) ho 1 (v:=owner) rfl
 have c3:=looks_field (M:=model Pg w) ho 3 (v:=.builtin "proto.slot#set") rfl
 have c4:=looks_field (M:=model Pg w) ho 4 (v:=.int behind tb) rfl
 have c5:Looks (model Pg w) hh (descrItself (.ref p)) [.ref p]:=((Looks.ld (part:=none) ho).andThen .now).andThen (Looks.of_pure (by kernel_rfl))
 refine codeAny_call_builtin KF.slot_mset.plain KF.entry_mset (KF.slot_mset.check _ _ _ _ _ _ _ _ (e1_2 _ ho rfl) (KF.args_mset _ _ _) ?_)
 unfold Builtin.«member_descriptor.__set__» descrSet descrStoreThrough descrCheckInstance descrNameAndClass isInstance
 repeat lk
 refine⟨Code.quiet_builtin _ (by decide +kernel),codeAny_builtin KF.entry_slotset ?_⟩
 unfold Builtin.«proto.slot#set» Slots.target
 repeat lk
 rw [if_neg hb]
 refine wpAny_pure (wpAny_bind ?_)
 unfold setSlotAt
 dsimp only
 rw [if_neg (by rw [sizeLine_eq];omega)]
 exact wpAny_updatePart atX (wpAny_pure h)
end
end
structure IA (h:Heap) (x dx:Addr) (mA:SoV):Prop where
 obj:∃ o,h.get? x=some o/\o.cls=.ref 151/\o.dict=some dx/\∀ c,o.data≠.cls c
 ns:h.Ns1 dx mA
 ne:dx≠x
theorem IA.get {h h':Heap} {x dx:Addr} {mA:SoV} (I:IA h x dx mA) (k:∀ a,a=x\/a=dx->∀ o,h.get? a=some o->h'.get? a=some o):IA h' x dx mA:=
 ⟨q1_2 I.obj λo e r=>(e1_2 o (k x (.inl rfl) o e) r),I.ns.at λo e=>k dx (.inr rfl) o e,I.ne⟩
theorem IA.le {h h':Heap} {x dx:Addr} {mA:SoV} (I:IA h x dx mA) (l:Le h h'):IA h' x dx mA:=I.get λa _ o e=>l.get a o e
theorem IA.inst {h:Heap} {x dx:Addr} {mA:SoV} (I:IA h x dx mA):h.Inst x 151 mA:=q1_4 I.obj λo e c d n=>(e1_4 o e c n (.inr (e1_3 dx d I.ne I.ns)))
theorem cls_le {h h':Heap} {C N:Addr} {mN:SoV} (X:ClsAt h C N mN) (l:Le h h'):ClsAt h' C N mN:=X.keeps l.get
section
variable {w:World} {A:Around} {s:Shared} {b h:Heap} {env:Env} {x dx N:Addr} {mN mA:SoV} {name:Str} {v:Value}
theorem get_ia {e:Bool} {Q:Value->Shared->Prop} {E:Value->Shared->Prop} (S:ClsAt s.heap 151 N mN) (I:IA s.heap x dx mA) (hv:mA name=some v) (hg:mN "__getattribute__"=none) (hn:mN name=none) (hh:handedOut v=pure v) (hB:typeLookup (.type "object") name=pure none) (h:Q v { s with toks:=s.toks+1 }) :
  wpAny (model Pg w) A (getAttr (.ref x) name e) Q E s:=by
 refine byC0 λzn=>?_
 rcases s with ⟨hp,g,d,t,os⟩
 refine q6_1 (S.obj) λnm q bs sn sub col z1=>?_;refine q6_1 z1 λdd k0 k1 k2 k3 k5 hC=>?_;clear z1
 refine zn ?_;clear zn
 exact load_attr hC S.ns hg hn hB I.inst hv hh h
theorem set_ia {ns:List Str} (S:ClsAt s.heap 151 N mN) (I:IA s.heap x dx mA) (hs:mN "__setattr__"=none) (hn:mN name=none) (hB:typeLookup (.type "object") name=pure none) (hw:Within mA ns) (hsz:ns.length<=sizeLine) :
  Wp w A (setAttr (.ref x) name v) (λ_ s'=>Ev [x,dx] s s'/\IA s'.heap x dx (up mA name v)) s:=by
 refine byC0 λzn=>?_
 rcases s with ⟨hp,g,d,t,os⟩
 refine q6_1 (S.obj) λnm q bs sn sub col z1=>?_;refine q6_1 z1 λdd k0 k1 k2 k3 k5 hC=>?_;clear z1
 refine q1_4 (I.obj) λo hx hc hdx hnc=>?_
 refine zn ?_;clear zn
 have hxC:x≠151:=by
  (intro zr;subst zr)
  rw [show hp.get? 151=_ from hC] at hx
  cases hx
  cases hc
 refine store_attr PySem.F.store_object hC S.ns hs hn hB hxC I.inst (λh' tk' I' hk hsame=>?_) hw hsz
 have kk:∀ b o,b∉[x,dx]->hp.get? b=some o->h'.get? b=some o:=λb o h1 e=>hk b o (λz=>h1 (by simp [z])) (λo0 d' e0 ed=>by
  rcases Option.some.inj (hx.symm.trans e0) with rfl;rcases Option.some.inj (hdx.symm.trans ed) with rfl;exact λz=>h1 (by simp [z])) e
 refine⟨⟨e2_1 h' tk' rfl,kk⟩,?_⟩
 refine byC0 λzn=>?_
 refine q1_5 (hsame o hx) λo1 e₁ c1 dt1 _ dk1=>?_
 refine q1_4 I' λo' e' _ _ hd'=>?_;clear I'
 rcases Option.some.inj (e₁.symm.trans e') with rfl
 refine zn ?_;clear zn
 (rcases hd' with z1 | z2)<;>(first | (refine q0_2 z1 λhn0 _=>?_;clear z1) | (refine q1_3 z2 λd' hd' _ hns'=>?_;clear z2) | skip)
 ·rw [dk1 dx hdx] at hn0;cases hn0
 ·rcases Option.some.inj ((dk1 dx hdx).symm.trans hd') with rfl
  exact⟨e1_4 o1 e₁ (c1.trans hc) (dk1 _ hdx) (λc=>dt1▸hnc c),hns',I.ne⟩
theorem meth_ia {f:Addr} {of:Obj} {pl:Sem Bool} {y:Option Value} {Q:Value×List Value->Shared->Prop} {E:Value->Shared->Prop} (S:ClsAt s.heap 151 N mN) (I:IA s.heap x dx mA) (hf:mN name=some (.ref f)) (hfo:s.heap.get? f=some of) (hfc:of.cls=.type "function")
  (hg:mN "__getattribute__"=none) (hh:mN "__getattr__"=none) (hm:mA name=none) (hB:typeLookup (.type "object") name=pure y) (h:Q (.ref f,[.ref x]) s):wpAny (model Pg w) A (getMethod (.ref x) name pl) Q E s:=by
 refine byC0 λzn=>?_
 rcases s with ⟨hp,g,d,t,os⟩
 refine q6_1 (S.obj) λnm q bs sn sub col z1=>?_;refine q6_1 z1 λdd k0 k1 k2 k3 k5 hC=>?_;clear z1
 refine zn ?_;clear zn
 exact method_of hC S.ns hg hh hf hfo hfc hB I.inst hm h
theorem Yd.atr {n:Str} {p pos:Pos} (V:Var h env n (.ref x)) (S:ClsAt h 151 N mN) (I:IA h x dx mA) (hv:mA name=some v) (hg:mN "__getattribute__"=Option.none) (hn:mN name=Option.none) (hh:handedOut v=pure v) (hB:typeLookup (.type "object") name=pure Option.none) (hd:autoParam ((n == ("__debug__" : Str))=false) auD) :
  Yd w A b h env (.Attribute (.Name n p) name pos) (IsV v):=λs hb hs=>
 Attribute_Name_ (wpAny_Name (V w A s _ _ hs (get_ia (cls_le S hs) (I.le hs) hv hg hn hh hB ⟨Kp.tok s _,λ_ _ _=>rfl⟩)) hd)
theorem Yd.slt {K:Frag} {C a:Addr} {ox od:Obj} {p i:Nat} {e:Expr} {pos:Pos} {P:Value->Heap->Prop} (X:K.In h) (k:SlotK K C name p i) (I:PySem.W.InstAt h a ox C (some od)) (hv:(ox.slots[i]?).join=some v) (hh:handedIn v=true)
  (he:Yd w A b h env e (IsV (.ref a))) (hP:∀ g,P v g)
  (hE:autoParam (eval (.Attribute e name pos) env=(do
   let o ← eval e env
   standAt pos.atName
   let r ← holding [o] (getAttr o name true)
   letTemporaryGo e o r
   pure r)) auK) :
  Yd w A b h env (.Attribute e name pos) P:=λs hb hs=>by
 refine Attribute_any_ ((he s hb hs).to λu s1 q=>?_) hE
 have e1:u=.ref a:=q.2 _ (hb.trans q.1.le) (Nw.self _ _)
 subst e1
 have hs1:=hs.trans q.1.le
 have I':PySem.W.InstAt s1.heap a ox C (some od):=⟨hs1.get _ _ I.at_,I.cls,I.no,by
  have:=I.dict
  cases hd:ox.dict with
  | none=>rw [hd] at this;exact this.elim
  | some d=>rw [hd] at this;exact hs1.get _ _ this⟩
 exact get_slotK (X.keeps hs1.get) k I' hv hh ⟨q.1.trans (Kp.tok s1 _),λg _ _=>hP g⟩
end
theorem InF.hide {s₀ s:Shared} {b:Heap} {X:List Addr} {env:Env} {own:List (Str×Addr)} {m cm:SoV} (Y:List Addr) (I:InF s₀ b X env own m cm s) (hl:∀ a∈Y,∃ o,s.heap.get? a=some o) (hf:∀ a∈Y,a∉ft env own) :
  InF s₀ (hideAll b Y) (Y++X) env own m cm s:=
 ⟨I.same,⟨λa o e=>I.le.get a o (of_hideAll _ e)⟩,I.fs,λa ha=>(by
  by_cases hY:a∈Y
  ·exact hideAll_none _ hY
  ·have this:a∈ft env own\/a∈X:=ha.imp id λh=>(List.mem_append.mp h).elim (λz=>absurd z hY) id
   cases e:(hideAll b Y).get? a with
   | none=>rfl
   | some o=>
    have z:=of_hideAll _ e
    rw [I.off a this] at z
    cases z),
  λa ha=>(List.mem_append.mp ha).elim (hl a) (I.live a),λa ha=>(List.mem_append.mp ha).elim (hf a) (I.apart a)⟩
structure NI (h:Heap) (a e l:Addr) (i:Nat) (k:Int):Prop where
 obj:∃ t t',h.get? a=some { cls:=.ref 54,dict:=some e,data:=.plain,slots:=#[some (.int i t),some (.int k t'),some (.ref l)] }
 dict:h.get? e=some emptyDict
theorem NI.get {h h':Heap} {a e l:Addr} {i:Nat} {k:Int} (x:NI h a e l i k) (g:∀ b,b=a\/b=e->∀ o,h.get? b=some o->h'.get? b=some o):NI h' a e l i k:=
 ⟨q2_1 x.obj λt t' q=>(e2_1 t t' (g a (.inl rfl) _ q)),g e (.inr rfl) _ x.dict⟩
theorem NI.ne {h:Heap} {a e l:Addr} {i:Nat} {k:Int} (x:NI h a e l i k):a≠e:=by
 (intro zr;subst zr)
 refine q2_1 (x.obj) λt t' q=>?_
 rw [x.dict] at q;cases q
noncomputable abbrev niObj (e:Addr) (sl:Array (Option Value)):Obj:={ cls:=.ref 54,dict:=some e,data:=.plain,slots:=sl }
theorem inst_ni {h:Heap} {a e:Addr} {sl:Array (Option Value)} (h1:h.get? a=some (niObj e sl)) (h2:h.get? e=some emptyDict):PySem.W.InstAt h a (niObj e sl) 54 (some emptyDict):=⟨h1,rfl,rfl,h2⟩
structure NK (K:Frag):Prop where
 node:SlotK K 54 (sO "node") 55 0
 np:SlotK K 54 (sO "npredecessors") 56 1
 su:SlotK K 54 (sO "successors") 57 2
 made:makesIn K 54=true
 init:findIn K (.ref 54) "__init__"=some (some (.ref 50))
 fn:typeIn K (.ref 50)=some (.type "function")
 keep:keepIn K (.ref 54)=true
section
variable {w:World} {A:Around} {s₀ s:Shared} {b:Heap} {X:List Addr} {env:Env} {own:List (Str×Addr)} {m cm:SoV} {K:Frag} {a e:Addr} {sl sl':Array (Option Value)} {name:Str} {p i:Nat}
theorem update_obj {h:Heap} {a:Addr} {f:Obj->Obj} {o:Obj} (ho:h.get? a=some o) (hf:(f o).isFreed=false):(h.update a f).get? a=some (f o)/\∀ c o',c≠a->h.get? c=some o'->(h.update a f).get? c=some o':=
 ⟨Heap.get?_update_self _ ho hf,λc o' hc e=>(Heap.get?_update_ne _ _ _ _ hc).trans e⟩
theorem ni_set {v:Value} {s:Shared} (X':K.In s.heap) (k:SlotK K 54 name p i) (h1:s.heap.get? a=some (niObj e sl)) (h2:s.heap.get? e=some emptyDict) (hi:i<1000)
  (hs:(sl++Array.replicate (i+1-sl.size) none).setIfInBounds i (some v)=sl') :
  Wp w A (setAttr (.ref a) name v) (λ_ s'=>Ev [a] s s'/\s'.heap.get? a=some (niObj e sl')) s:=by
 refine set_slotK X' k (inst_ni h1 h2) hi ?_
 refine q0_2 (update_obj (f:=λo=>{ o with slots:=(o.slots++Array.replicate (i+1-o.slots.size) none).setIfInBounds i (some v) }) h1 rfl) λu1 u2=>?_
 refine⟨⟨e2_1 _ _ rfl,λc o hc e=>u2 c o (λz=>hc (by simp [z])) e⟩,?_⟩
 rw [← hs]
 exact u1
theorem slots3 (i:Nat) (x y z v:Option Value):(i=0->(#[x,y,z]++Array.replicate (i+1-3) none).setIfInBounds i v=#[v,y,z])/\(i=1->(#[x,y,z]++Array.replicate (i+1-3) none).setIfInBounds i v=#[x,v,z])/\(i=2->(#[x,y,z]++Array.replicate (i+1-3) none).setIfInBounds i v=#[x,y,v]):=
 ⟨λh=>by subst h;rfl,λh=>by subst h;rfl,λh=>by subst h;rfl⟩
theorem ex_slot (sl':Value->Array (Option Value)) {P:Value->Heap->Prop} {n:Str} {pn pa pos:Pos} {ex:Expr} (I:InF s₀ b X env own m cm s) (XK:K.In b) (k:SlotK K 54 name p i) (h1:s.heap.get? a=some (niObj e sl)) (h2:s.heap.get? e=some emptyDict) (ha:a∈X) (hi:i<1000)
  (hsl:∀ v,(sl++Array.replicate (i+1-sl.size) none).setIfInBounds i (some v)=sl' v) (V:Var s.heap env n (.ref a)) (hY:Yd w A b s.heap env ex P) (hd:autoParam ((n == ("__debug__" : Str))=false) auD) (hsw:autoParam (swapsWith ex (some (.Attribute (.Name n pn) name pa)) pos.line env=pure false) auR) :
  Wp w A (exec (.Assign [.Attribute (.Name n pn) name pa] ex pos) env) (λfl s'=>fl=.next/\Ev [a] s s'/\∃ v b',Le b b'/\InF s₀ b' X env own m cm s'/\P v b'/\
   s'.heap.get? a=some (niObj e (sl' v))) s:=by
 refine plainObj_wpAny_Assign_Attribute ((hY s I.le (Le.refl _)).to λv s1 q=>?_) hsw
 have I1:=I.kp q.1
 refine wpAny_Name (V w A s1 _ _ q.1.le ?_) hd
 refine (ni_set (XK.keeps I1.le.get) k (q.1.le.get _ _ h1) (q.1.le.get _ _ h2) hi (hsl v)).to λ_ s2 q2=>?_
 have E:Ev [a] s s2:=q.1.ev.trans q2.1
 have hf:a∉ft env own:=I.apart a ha
 refine q1_3 (I.step E (λc hc=>.inr (by rw [zS hc];exact ha)) (I1.fs.get λc hc o e=>q2.1.get c o (λz=>hf (zS z▸hc)) e) (λc _ hc=>by rw [zS hc];exact⟨_,q2.2⟩)) λb' l I2 g=>?_
 exact e0_3 rfl E (e2_4 v b' l I2 (q.2 b' l ((I.nw g).leftE q2.1 λc hc=>by rw [zS hc];exact⟨_,h1⟩)) q2.2)
end
theorem Ok.in1 {n:Nat} {A:Around} (h:Ok (n+1) A):Ok n A.in1:=⟨h.hd,by have:=h.dp;show A.depth+n<_;omega,by have:=h.un;show A.units+1+8 * n+8<_;omega⟩
theorem Ok.make {n:Nat} {A:Around} {C:Addr} {vals:List Value} (h:Ok (n+1) A):Ok n (A.under (.builtin "type.__call__" ⟨.ref C::vals,[]⟩)):=
 ⟨h.hd,by have:=h.dp;show A.depth+1+n<_;omega,by have:=h.un;show A.units+1+8 * n+8<_;omega⟩
section
variable {w:World} {A:Around} {s:Shared} {R:Result->Shared->Prop}
theorem call_fn0 {n:Nat} {f:Addr} {fd:FuncData} {body:List Stmt} {vals:List Value} {binds:List (Str×Value)} (ok:Ok (n+1) A) (hF:FnAt s.heap f fd) (hlim:s.heap.NoLimit)
  (hbody:fd.body=.stmts body) (hbind:bindArgs fd ⟨vals,[]⟩=pure binds) (hclo:fd.closure=[]) (hloc:(binds.map λx=>fd.scope.names.lookup x.1)=binds.map λ_=>some .local)
  (hc:∀ n,cellsFrom n fd.scope.names []=[])
  (hm:∀ L,(binds.map λx=>bindL (callEnvC fd L f).kindOf binds (λ_=>none) x.1)=binds.map λx=>some x.2)
  (h:∀ s1 L m cm,(∀ (i:Nat) x v,binds[i]?=some (x,v)->m x=some v)->InF s s.heap [] (callEnvC fd L f) [] m cm s1->Ok n (A.deeper (callEnvC fd L f))->
   Wp w (A.deeper (callEnvC fd L f)) (execs body (callEnvC fd L f)) (λfl s'=>R (.ok (.ret (retOf fl))) s') s1)
  (hco:autoParam (fd.scope.isCoroutine=false) auR) (hgen:autoParam (fd.scope.isGenerator=false) auR) (hk:autoParam (fd.scope.kind=.function) auR):codeAny (model Pg w) A (.call (.ref f) ⟨vals,[]⟩) R s:=by
 refine call_fn ok hF hlim hbody hbind hclo (λx hx=>.inl ?_) (by rw [hc];exact List.nodup_nil) (λs1 L hL I ok'=>?_) hco hgen hk
 ·have:fd.scope.names.lookup x.1∈binds.map λx=>fd.scope.names.lookup x.1:=List.mem_map.mpr (e1_2 x hx rfl)
  rw [hloc] at this
  refine q1_2 (List.mem_map.mp this) λ_ _ e=>?_
  exact e.symm
 ·have e:(callEnvC fd L f).cells=[]:=by
   show cellsFrom (L+1) fd.scope.names []=[]
   exact hc _
  rw [e] at I
  refine h s1 L _ _ (λi x v hi=>?_) I ok'
  have:=congrArg (·[i]?) (hm L)
  simpa [hi] using this
end
structure St (w:World) (mg mb mN:SoV) (K:Frag) (h:Heap):Prop where
 lim:h.NoLimit
 sm:∃ o,h.get? sysModules=some o
 g:h.Ns mainGlobals mg
 b:h.Ns builtinsNs mb
 ts:ClsAt h 151 150 mN
 k:K.In h
 f50:∃ pm cd,FnAt h 50 (fdOf (meth 8 1) (sO "_NodeInfo.__init__") .none pm cd)
 f87:∃ pm cd,FnAt h 87 (fdOf (meth 10 0) (sO "TopologicalSorter.__init__") (.ref 80) pm cd)
 t80:h.IsTuple 80 #[.none]
 f94:∃ pm cd,FnAt h 94 (fdOf (meth 10 1) (sO "TopologicalSorter._get_nodeinfo") .none pm cd)
 f101:∃ pm cd,FnAt h 101 (fdOf (meth 10 2) (sO "TopologicalSorter.add") .none pm cd)
 f106:∃ pm cd,FnAt h 106 (fdOf (meth 10 3) (sO "TopologicalSorter.prepare") .none pm cd)
 f113:∃ pm cd,FnAt h 113 (fdOf (meth 10 4) (sO "TopologicalSorter.get_ready") .none pm cd)
 f120:∃ pm cd,FnAt h 120 (fdOf (meth 10 5) (sO "TopologicalSorter.is_active") .none pm cd)
 f134:∃ pm cd,FnAt h 134 (fdOf (meth 10 7) (sO "TopologicalSorter.done") .none pm cd)
 f141:∃ pm cd,FnAt h 141 (fdOf (meth 10 8) (sO "TopologicalSorter._find_cycle") .none pm cd)
 f160:∃ pm cd,FnAt h 160 (fdOf (top 12) (sO "_law_behind") .none pm cd)
 f167:∃ pm cd,FnAt h 167 (fdOf (top 13) (sO "_law_served") .none pm cd)
 f172:∃ pm cd,FnAt h 172 (fdOf (top 14) (sO "_law_record") .none pm cd)
theorem St.le {w:World} {mg mb mN:SoV} {K:Frag} {h h':Heap} (S:St w mg mb mN K h) (l:Le h h'):St w mg mb mN K h':=by
 rcases S with ⟨a,sm,b,c,d,e,⟨p1,c1,f1⟩,⟨p2,c2,f2⟩,t,⟨p3,c3,f3⟩,⟨p4,c4,f4⟩,⟨p5,c5,f5⟩,⟨p6,c6,f6⟩,⟨p7,c7,f7⟩,⟨p8,c8,f8⟩,⟨p9,c9,f9⟩,⟨p10,c10,f10⟩,⟨p11,c11,f11⟩,⟨p12,c12,f12⟩⟩
 exact⟨a.keeps l.get,(q1_1 sm λo q=>⟨o,l.get _ _ q⟩),b.keeps l.get,c.keeps l.get,cls_le d l,e.keeps l.get,e2_1 p1 c1 (f1.le l),e2_1 p2 c2 (f2.le l),(q1_2 t λo e r=>(e1_2 o (l.get _ _ e) r)),e2_1 p3 c3 (f3.le l),e2_1 p4 c4 (f4.le l),e2_1 p5 c5 (f5.le l),e2_1 p6 c6 (f6.le l),e2_1 p7 c7 (f7.le l),e2_1 p8 c8 (f8.le l),
  e2_1 p9 c9 (f9.le l),e2_1 p10 c10 (f10.le l),e2_1 p11 c11 (f11.le l),e2_1 p12 c12 (f12.le l)⟩
structure Con (mg mb mN:SoV) (K:Frag):Prop where
 nk:NK K
 ni:mg (sO "_NodeInfo")=some (.ref 54)
 ts:mg (sO "TopologicalSorter")=some (.ref 151)
 out:∃ t,mg (sO "_NODE_OUT")=some (.int (-1) t)
 done:∃ t,mg (sO "_NODE_DONE")=some (.int (-2) t)
 beh:mg (sO "_law_behind")=some (.ref 160)
 srv:mg (sO "_law_served")=some (.ref 167)
 rcd:mg (sO "_law_record")=some (.ref 172)
 esc:mg (sO "_iter_escaped_chars")=some (.ref 28)
 blt:∀ x∈([sO "range",sO "len",sO "min",sO "max",sO "sorted",sO "enumerate",sO "tuple",sO "bool",sO "set",sO "iter",sO "StopIteration"]:List Str),mg x=none/\mb x=bootBuiltins x
 mN0:∀ x∈([sO "__getattribute__",sO "__getattr__",sO "__setattr__",sO "_node2info",sO "_ready_nodes",sO "_npassedout",sO "_nfinished"]:List Str),mN x=none
 init:mN (sO "__init__")=some (.ref 87)
 gni:mN (sO "_get_nodeinfo")=some (.ref 94)
 add:mN (sO "add")=some (.ref 101)
 prep:mN (sO "prepare")=some (.ref 106)
 rdy:mN (sO "get_ready")=some (.ref 113)
 act:mN (sO "is_active")=some (.ref 120)
 dn:mN (sO "done")=some (.ref 134)
 fc:mN (sO "_find_cycle")=some (.ref 141)
 kadd:keepIn K (.ref 101)=true
 tmk:makesIn K 151=true
 tin:findIn K (.ref 151) "__init__"=some (some (.ref 87))
 tfn:typeIn K (.ref 87)=some (.type "function")
 tkp:keepIn K (.ref 151)=true
theorem InF.notft {s₀ s:Shared} {b:Heap} {X:List Addr} {env:Env} {own:List (Str×Addr)} {m cm:SoV} (I:InF s₀ b X env own m cm s) {a:Addr} {o:Obj} (h:b.get? a=some o):a∉ft env own:=λhm=>by
 rw [I.off a (.inl hm)] at h;cases h
theorem le_hide {h h':Heap} (l:Le h h') {Y:List Addr} (hY:∀ a∈Y,h.get? a=none):Le h (hideAll h' Y):=⟨λa o e=>hideAll_get _ (l.get a o e) λhm=>by rw [hY a hm] at e;cases e⟩
theorem none_ge {h:Heap} {a:Nat} (ha:h.objs.size<=a):h.get? a=none:=by
 cases e:h.get? a with
 | none=>rfl
 | some o'=>exact absurd (Heap.lt_size e) (Nat.not_lt.mpr ha)
section
variable {w:World} {A:Around} {s:Shared} {mg mb mN:SoV} {K:Frag}
theorem InitBack.of {x:Addr} {R:Result->Shared->Prop} {v:Value} {s':Shared} (e:v=.none) (h:R (.ok (.ret (.ref x))) s'):InitBack x R (.ok (.ret v)) s':=⟨e,h⟩
theorem ni_new {n i:Nat} {t:Tok} (ok:Ok (n+2) A) (S:St w mg mb mN K s.heap) (C:Con mg mb mN K) :
  Wp w A (call (.ref 54) [.int i t]) (λv s'=>∃ a e l,v=.ref a/\Kp s s'/\NI s'.heap a e l i 0/\s'.heap.PlainList l #[]/\s.heap.get? a=none/\s.heap.get? e=none/\s.heap.get? l=none/\a≠l/\e≠l) s:=by
 refine byC0 λzn=>?_;rcases s with ⟨hh,g,d,tk,os⟩;refine zn ?_;clear zn
 have X:=S.k
 refine wpAny_call (make_core (makes_of X C.nk.made) (looks_findIn X C.nk.init) (λself=>bind_fn X self C.nk.fn) (.inl rfl) ?_)
 generalize hH:(hh.push emptyDict).push (instObj 54 hh.objs.size)=H
 have l:Le hh H:=by rw [← hH];exact (Le.push _ _).trans (Le.push _ _)
 have ha:H.get? (hh.objs.size+1)=some (niObj hh.objs.size #[]):=by rw [← hH];heap_get
 have he:H.get? hh.objs.size=some emptyDict:=by rw [← hH];heap_get
 refine q2_1 (S.f50) λpm cd F=>?_
 refine call_fn0 (n:=n) (binds:=[(sO "self",.ref (hh.objs.size+1)),(sO "node",.int i t)]) ok.make (F.le l) (S.lim.keeps l.get) rfl (by kernel_rfl) rfl (by kernel_rfl) (λ_=>by kernel_rfl) (λ_=>by kernel_rfl) λs1 L m cm B I ok'=>?_
 have haN:hh.get? (hh.objs.size+1)=none:=none_ge (Nat.le_succ _)
 have I0:=I.hide [hh.objs.size+1] (λc hc=>by rw [zS hc];exact⟨_,I.le.get _ _ ha⟩) (λc hc=>by rw [zS hc];exact I.notft ha)
 have hhb:Le hh (hideAll H [hh.objs.size+1]):=le_hide l λc hc=>by rw [zS hc];exact haN
 have hne:hh.objs.size≠hh.objs.size+1:=Nat.ne_of_lt (Nat.lt_succ_self _)
 have heb:(hideAll H [hh.objs.size+1]).get? hh.objs.size=some emptyDict:=hideAll_get _ he λhm=>hne (zS hm)
 refine seqn (ex_slot (λv=>#[some v]) I0 (X.keeps hhb.get) C.nk.node (I.le.get _ _ ha) (I.le.get _ _ he) (by simp) (by decide) (λ_=>rfl) (I0.fs.var (x:=sO "self") rfl rfl (B 0 _ _ rfl)) (Yd.namI (I0.fs.var (x:=sO "node") rfl rfl (B 1 _ _ rfl)))) λs2 q=>?_
 refine byC0 λzn=>?_;refine s2_4 q λE1 v1 b1 l1 I1 P1 h1=>?_;clear q;refine zn ?_;clear zn
 refine seqn (ex_slot (λv=>#[some v1,some v]) I1 (X.keeps (hhb.trans l1).get) C.nk.np h1 (I1.le.get _ _ (l1.get _ _ heb)) (by simp) (by decide) (λ_=>rfl) (I1.fs.var (x:=sO "self") rfl rfl (B 0 _ _ rfl)) Yd.int) λs3 q=>?_
 refine byC0 λzn=>?_;refine s2_4 q λE2 v2 b2 l2 I2 P2 h2=>?_;clear q;refine zn ?_;clear zn
 refine seqn (ex_slot (λv=>#[some v1,some v2,some v]) I2 (X.keeps ((hhb.trans l1).trans l2).get) C.nk.su h2 (I2.le.get _ _ ((l1.trans l2).get _ _ heb)) (by simp) (by decide) (λ_=>rfl) (I2.fs.var (x:=sO "self") rfl rfl (B 0 _ _ rfl)) (Yd.lstN Yds.nil)) λs4 q=>?_
 refine byC0 λzn=>?_
 refine s2_4 q λE3 v3 b3 l3 I3 P3 h3=>?_;clear q
 refine q1_1 P1 λt1 z1=>?_;clear P1;subst z1
 refine q1_1 P2 λt2 z1=>?_;clear P2;subst z1
 refine q0_2 P3 λz1 z4=>?_;clear P3;refine q2_2 z1 λD vs z2 z3=>?_;clear z1;subst z2;refine q0_2 z3 λhD hvs=>?_;clear z3;refine q1_2 z4 λ_ hD' hDn=>?_;clear z4
 refine zn ?_;clear zn
 cases hD'
 cases hvs
 have ks:∀ c o,c≠hh.objs.size+1->H.get? c=some o->s4.heap.get? c=some o:=λc o hc e=>
  E3.get c o (by simpa using hc) (E2.get c o (by simpa using hc) (E1.get c o (by simpa using hc) (I.le.get c o e)))
 have ks3:∀ c o,c≠hh.objs.size+1->H.get? c=some o->s3.heap.get? c=some o:=λc o hc e=>
  E2.get c o (by simpa using hc) (E1.get c o (by simpa using hc) (I.le.get c o e))
 have hDh:hh.get? D=none:=by
  cases e:hh.get? D with
  | none=>rfl
  | some o=>
   have z:=ks3 D o (λq=>by rw [q,haN] at e;cases e) (l.get _ _ e)
   rw [hDn] at z;cases z
 have hx:NI s4.heap (hh.objs.size+1) hh.objs.size D i 0:=⟨e2_1 t1 t2 h3,I3.le.get _ _ (((l1.trans l2).trans l3).get _ _ heb)⟩
 have hk:Kp ⟨hh,g,d,tk,os⟩ s4:=by
  have e0:=same_trans I.same (same_trans E1.same (same_trans E2.same E3.same))
  refine q2_1 e0 λh' t' z1=>?_;clear e0;subst z1
  exact⟨e2_1 h' t' rfl,⟨λc o e=>ks c o (λq=>by rw [q] at e;rw [haN] at e;cases e) (l.get _ _ e)⟩⟩
 have hDl:s4.heap.PlainList D #[]:=hD.at λo e=>I3.le.get _ _ e
 have hy:hh.get? hh.objs.size=none:=none_ge (Nat.le_refl _)
 have n1:hh.objs.size+1≠D:=λe=>by rw [← e,h2] at hDn;cases hDn
 have n2:hh.objs.size≠D:=λe=>by
  have z:=ks3 hh.objs.size _ hne he
  rw [← e,z] at hDn;cases hDn
 exact wpAny_execs_nil (InitBack.of rfl (e3_9 _ _ D rfl hk hx hDl haN hy hDh n1 n2))
end
section
variable {w:World} {A:Around} {b h:Heap} {env:Env} {K:Frag}
theorem Yd.callK {x:Str} {p pos:Pos} {f:Value} {e:Expr} {rest:List Expr} {Ps:List (Value->Heap->Prop)} {P:Value->Heap->Prop} (hf:Var h env x f) (X:K.In h) (hk:keepIn K f=true) (ha:Yds w A b h env (e::rest) Ps)
  (ho:∀ vs s,Le b s.heap->Le h s.heap->Paired (λP v=>P v s.heap) Ps vs->Wp w A (call f vs) (λz s'=>Kp s s'/\∀ g,Le b g->Nw s s' g->P z g) s)
  (hd:autoParam ((x == ("__debug__" : Str))=false) auD) (he:autoParam (starEach (e::rest) env=(false,eval e env)::starEach rest env) auR) (hp:autoParam ((backTo pos (starEach rest env)).any (·.1)=false) auR) :
  Yd w A b h env (.Call (.Name x p) (e::rest) [] pos) P:=λs hb hs=>
 PyProof.Rows.Call_Name rfl (wpAny_Name (hf w A s _ _ hs (callWith_K (first:=[]) X hk ((ha s pos hb hs).to λvs s1 q=>
  ⟨X.keeps (hs.trans q.1.le).get,(ho vs s1 (hb.trans q.1.le) (hs.trans q.1.le) (q.2 _ (hb.trans q.1.le) (Nw.self _ _))).to λz s2 q2=>⟨q.1.trans q2.1,λg hg n=>q2.2 g hg (n.right q.1.le)⟩⟩) he hp)) hd)
theorem Yd.dget {d:Addr} {kvs:List (Int×Value)} {k:Int} {o e:Expr} {apos pos:Pos} (hd:h.DictOf (intKind Pg w) d kvs) (hds:(d == sysModules)=false) (ho:Yd w A b h env o (IsV (.ref d))) (he:Yd w A b h env e (IsI k))
  (hbase:autoParam (attributeBase o (sO "get") env (eval o env)=eval o env) auR) (hline:autoParam ((apos.endLine == pos.line)=true) auR)
  (hst:autoParam (backTo pos (starEach [e] env)=[(false,eval e env)]) auR) :
  Yd w A b h env (.Call (.Attribute o (sO "get") apos) [e] [] pos) (IsV ((valueAt kvs k).getD Value.none)):=λs hb hs=>by
 refine wpAny_Call_method_lateS hbase (by rw [hst];rfl) hline ((ho s hb hs).to λu s1 q=>?_)
 have e1:u=.ref d:=q.2 _ (hb.trans q.1.le) (Nw.self _ _)
 subst e1
 have hd1:s1.heap.DictOf (intKind Pg w) d kvs:=hd.keep (hs.trans q.1.le).get
 refine e2_6 ("dict") ("dict.get") F.plainAttrs_dict F.slot_dict_get F.type_dict_get hd1.typeIs hd1.mapOf.noDict ?_
 rw [hst]
 refine wpAny_dict_get1 (knd:=intKind Pg w) hds ((he s1 (hb.trans q.1.le) (hs.trans q.1.le)).to λv s2 q2=>?_)
 refine byC0 λzn=>?_;refine q1_1 (q2.2 s2.heap (hb.trans (q.1.le.trans q2.1.le)) (Nw.self _ _)) λt z1=>?_;subst z1;refine zn ?_;clear zn
 exact e2_4 k _ (by simp [intKind,Value.isInt]) ((hd1.keep q2.1.le.get).mapOf) ((q.1.trans q2.1).trans (Kp.tok s2 _)) (λ_ _ _=>rfl)
end
noncomputable def kvs (NA:Nat->Addr) (n:Nat):List (Int×Value):=(List.range n).map λ(i:Nat)=>((i:Int),Value.ref (NA i))
theorem kvs_at {NA:Nat->Addr} {n i:Nat} (hi:i<n):valueAt (kvs NA n) i=some (.ref (NA i)):=by
 unfold valueAt kvs
 induction n with
 | zero=>omega
 | succ n ih=>
  rw [List.range_succ,List.map_append,List.find?_append]
  by_cases h:i<n
  ·rw [Option.map_or,ih h];rfl
  ·have:i=n:=by omega
   subst this
   rw [show ((List.range i).map λ(j:Nat)=>((j:Int),Value.ref (NA j))).find? (λkv=>decide (kv.1=(i:Int)))=none from by
    rw [List.find?_eq_none]
    intro x hx
    refine q1_2 (List.mem_map.mp hx) λj hj z1=>?_;subst z1
    have:=List.mem_range.mp hj
    simp;omega]
   simp
theorem kvs_no {NA:Nat->Addr} {n i:Nat} (hi:n<=i):valueAt (kvs NA n) i=none:=by
 unfold valueAt kvs
 rw [show ((List.range n).map λ(j:Nat)=>((j:Int),Value.ref (NA j))).find? (λkv=>decide (kv.1=(i:Int)))=none from by
    rw [List.find?_eq_none]
    intro x hx
    refine q1_2 (List.mem_map.mp hx) λj hj z1=>?_;subst z1
    have:=List.mem_range.mp hj
    simp;omega]
 rfl
theorem kvs_len (NA:Nat->Addr) (n:Nat):(kvs NA n).length=n:=by simp [kvs]
theorem kvs_stored {NA:Nat->Addr} {n:Nat} {a:Addr}:stored (kvs NA n) n (.ref a)=kvs (λi=>if i=n then a else NA i) (n+1):=by
 unfold stored
 rw [if_neg]
 ·unfold kvs
  rw [List.range_succ,List.map_append]
  congr 1
  ·apply List.map_congr_left
   intro i hi
   have:=List.mem_range.mp hi
   show _=((i:Int),Value.ref (if i=n then a else NA i))
   rw [if_neg (by omega)]
  ·simp
 ·simp only [kvs,List.any_map,List.any_eq_true,List.mem_range,Function.comp,decide_eq_true_eq,not_exists,not_and]
  intro i hi
  omega
noncomputable def NatL (h:Heap) (a:Addr) (l:List Nat):Prop:=∃ vs:List Value,h.PlainList a vs.toArray/\Paired (λ(i:Nat) v=>∃ t,v=.int (i:Int) t) l vs
theorem NatL.at {h h':Heap} {a:Addr} {l:List Nat} (x:NatL h a l) (k:∀ o,h.get? a=some o->h'.get? a=some o):NatL h' a l:=q1_2 x λvs p q=>(e1_2 vs (p.at k) q)
theorem NatL.live {h:Heap} {a:Addr} {l:List Nat} (x:NatL h a l):∃ o,h.get? a=some o/\o.cls=.type "list":=let ⟨_,⟨n,p⟩,_⟩:=x;(e1_2 _ p rfl)
structure Gr (w:World) (h:Heap) (d:Addr) (NA EA SA:Nat->Addr) (n:Nat) (np:Nat->Int) (su:Nat->List Nat):Prop where
 dict:h.DictOf (intKind Pg w) d (kvs NA n)
 info:∀ i,i<n->NI h (NA i) (EA i) (SA i) i (np i)
 list:∀ i,i<n->NatL h (SA i) (su i)
 inj:∀ i j,i<n->j<n->SA i=SA j->i=j
 dE:∀ i,i<n->EA i≠d
noncomputable def gA (d:Addr) (NA EA SA:Nat->Addr) (n:Nat):List Addr:=d::((List.range n).map NA++((List.range n).map EA++(List.range n).map SA))
theorem mem_gA {d:Addr} {NA EA SA:Nat->Addr} {n:Nat} {a:Addr}:a∈gA d NA EA SA n ↔ a=d\/(∃ i,i<n/\(a=NA i\/a=EA i\/a=SA i)):=by
 unfold gA
 simp only [List.mem_cons,List.mem_append,List.mem_map,List.mem_range]
 constructor
 ·(intro zr;(rcases zr with h | z1 | z3 | z5)<;>(first | (refine q1_2 z1 λi hi z2=>?_;clear z1;subst z2) | (refine q1_2 z3 λi hi z4=>?_;clear z3;subst z4) | (refine q1_2 z5 λi hi z6=>?_;clear z5;subst z6) | skip))
  ·exact .inl h
  ·exact .inr (e1_2 i hi (.inl rfl))
  ·exact .inr (e1_2 i hi (.inr (.inl rfl)))
  ·exact .inr (e1_2 i hi (.inr (.inr rfl)))
 ·(intro zr;refine byC0 λzn=>?_;((rcases zr with h | z1)<;>(first | (refine q1_2 z1 λi hi z2=>?_;clear z1;((rcases z2 with rfl | rfl | rfl))) | skip))<;>(refine zn ?_;clear zn))
  ·exact .inl h
  ·exact .inr (.inl (e1_2 i hi rfl))
  ·exact .inr (.inr (.inl (e1_2 i hi rfl)))
  ·exact .inr (.inr (.inr (e1_2 i hi rfl)))
theorem Gr.get {w:World} {h h':Heap} {d:Addr} {NA EA SA:Nat->Addr} {n:Nat} {np:Nat->Int} {su:Nat->List Nat} (G:Gr w h d NA EA SA n np su) (k:∀ a∈gA d NA EA SA n,∀ o,h.get? a=some o->h'.get? a=some o):Gr w h' d NA EA SA n np su:=
 ⟨G.dict.at λo e=>k d (mem_gA.mpr (.inl rfl)) o e,λi hi=>(G.info i hi).get λa ha o e=>k a (mem_gA.mpr (.inr (e1_2 i hi (ha.elim .inl λz=>.inr (.inl z))))) o e,
  λi hi=>(G.list i hi).at λo e=>k _ (mem_gA.mpr (.inr (e1_2 i hi (.inr (.inr rfl))))) o e,G.inj,G.dE⟩
theorem Gr.le {w:World} {h h':Heap} {d:Addr} {NA EA SA:Nat->Addr} {n:Nat} {np:Nat->Int} {su:Nat->List Nat} (G:Gr w h d NA EA SA n np su) (l:Le h h'):Gr w h' d NA EA SA n np su:=G.get λa _ o e=>l.get a o e
theorem Gr.live {w:World} {h:Heap} {d:Addr} {NA EA SA:Nat->Addr} {n:Nat} {np:Nat->Int} {su:Nat->List Nat} (G:Gr w h d NA EA SA n np su):∀ a∈gA d NA EA SA n,∃ o,h.get? a=some o:=λa ha=>by
 (rcases mem_gA.mp ha with z0 | z1)<;>(first | (replace z0:=Eq.symm z0;subst z0) | (refine q1_2 z1 λi hi z2=>?_;clear z1;((rcases z2 with rfl | rfl | rfl))) | skip)
 ·refine q3_2 (G.dict) λo _ _ e _=>?_;exact⟨o,e⟩
 ·refine q2_1 ((G.info i hi).obj) λ_ _ e=>?_;exact⟨_,e⟩
 ·exact⟨_,(G.info i hi).dict⟩
 ·refine q1_2 ((G.list i hi).live) λo e _=>?_;exact⟨o,e⟩
section
variable {w:World} {A:Around} {s₀ s:Shared} {b:Heap} {X:List Addr} {env:Env} {own:List (Str×Addr)} {m cm:SoV}
theorem InF.kp0 {s₀ s:Shared} {b:Heap} (I:InF s₀ b X env own m cm s) (l:Le s₀.heap b):Kp s₀ s:=⟨I.same,l.trans I.le⟩
theorem seqk {st:Stmt} {rest:List Stmt} {Q:Flow->Shared->Prop} (h:Wp w A (exec st env) (λf s'=>match f with | .next=>Wp w A (execs rest env) Q s' | f=>Q f s') s):Wp w A (execs (st::rest) env) Q s:=wpAny_execs_cons h
theorem nil_ {Q:Flow->Shared->Prop} (h:Q .next s):Wp w A (execs [] env) Q s:=wpAny_execs_nil h
theorem InF.ev {Y:List Addr} (I:InF s₀ b X env own m cm s) (l:Le (hideAll s₀.heap Y) b):Ev Y s₀ s:=⟨I.same,λc o hc e=>I.le.get c o (l.get c o (hideAll_get _ e hc))⟩
theorem asg_sub {o i:Expr} {p:Pos} {v u:Value} {Q:Unit->Shared->Prop} (ho:Wp w A (eval o env) (λz s'=>z=u/\Wp w A (eval i env) (λz' s''=>Wp w A (setItem u z' v) Q s'') s') s):Wp w A (assign (.Subscript o i p) env v) Q s:=by
 rw [assign_Subscript]
 refine wpAny_bind (wpAny_holding (ho.to λz s' q=>?_))
 refine byC0 λzn=>?_;refine q0_2 q λz1 z2=>?_;clear q;rcases z1.symm with rfl;revert z2;intro q;refine zn ?_;clear zn
 refine wpAny_bind (wpAny_holding (q.to λz' s'' q'=>?_))
 exact wpAny_bind (wpAny_standAt (wpAny_bind (wpAny_holding (q'.to λ_ s3 q3=>wpAny_release q3))))
theorem ret_ {rest:List Stmt} {e:Expr} {p:Pos} {Q:Flow->Shared->Prop} {P:Value->Heap->Prop} (hb:Le b s.heap) (hY:Yd w A b s.heap env e P) (h:∀ v s',Kp s s'->(∀ g,Le b g->Nw s s' g->P v g)->Q (.ret v) s'):Wp w A (execs (.Return (some e) p::rest) env) Q s:=
 seqk ((ex_ret hb hY).to λfl s' q=>by refine q1_2 q λv z1 z2=>?_;clear q;subst z1;refine q0_2 z2 λk q=>?_;clear z2;exact h v s' k q)
theorem ex_if_walrus {y:Str} {u:Value} {e:Expr} {p p1 p2 p3 p4:Pos} {k:Nat} {t els:List Stmt} {Q:Flow->Shared->Prop} (I:InF s₀ b X env own m cm s) (hk:env.scope.kind=.function) (hl:env.kindOf y=some .local)
  (hY:Yd w A b s.heap env e (IsV u)) (h:∀ s' b',Le b b'->Ev (ft env own) s s'->InF s₀ b' X env own (up m y u) cm s'->Wp w A (execs (if u=.none then t else els) env) Q s') :
  Wp w A (exec (.If (.Compare (.NamedExpr (.Name y p) e p1) [.Is] [.Constant .none k p2] p3) t els p4) env) Q s:=by
 refine wpAny_If (wpAny_isTrue_Compare1 (wpAny_NamedExpr ((hY s I.le (Le.refl _)).to λv s1 q=>?_)))
 have I1:=I.kp q.1
 have e1:v=u:=q.2 _ I1.le (Nw.self _ _)
 subst e1
 refine (asg_loc I1.fs hk hl).to λ_ s2 q₂=>?_
 have E:Ev (ft env own) s s2:=q.1.ev.trans q₂.1
 refine q1_3 (I.step E (λa ha=>.inl ha) q₂.2 (λa ha hm=>absurd hm (I.apart a ha))) λb' l I2 g=>?_
 refine wpAny_Constant_none (is_none_gen (wpAny_truthy_bool ?_))
 have:=h s2 b' l E I2
 by_cases hv:v=.none
 ·rw [if_pos hv] at this
  subst hv
  rw [if_pos (by rfl)];exact this
 ·rw [if_neg hv] at this
  rw [if_neg (by simpa using hv)];exact this
end
section
variable {w:World} {A:Around} {s:Shared} {mg mb mN:SoV} {K:Frag} {x dx d:Addr} {mA:SoV} {NA EA SA:Nat->Addr} {N:Nat} {np:Nat->Int} {su:Nat->List Nat}
theorem St.nmod {b:Heap} (S:St w mg mb mN K b) {d:Addr} (hd:b.get? d=none):(d == sysModules)=false:=by
 refine q1_1 (S.sm) λo e=>?_
 by_cases q:d=sysModules
 ·rw [q,e] at hd;cases hd
 ·simpa using q
theorem gni_old {n i:Nat} {t:Tok} (ok:Ok (n+1) A) (S:St w mg mb mN K s.heap) (C:Con mg mb mN K) (I:IA s.heap x dx mA) (h2:mA (sO "_node2info")=some (.ref d)) (G:Gr w s.heap d NA EA SA N np su) (hd:(d == sysModules)=false) (hi:i<N) :
  Wp w A (call (.ref 94) [.ref x,.int i t]) (λv s'=>Kp s s'/\v=.ref (NA i)) s:=by
 refine q2_1 (S.f94) λpm cd F=>?_
 refine wpAny_call (call_fn0 (n:=n) (binds:=[(sO "self",.ref x),(sO "node",.int i t)]) ok F S.lim rfl (by kernel_rfl) rfl (by kernel_rfl) (λ_=>by kernel_rfl) (λ_=>by kernel_rfl) λs1 L m cm B I1 ok'=>?_)
 have V0:=I1.fs.var (x:=sO "self") rfl rfl (B 0 _ _ rfl)
 have V1:=I1.fs.var (x:=sO "node") rfl rfl (B 1 _ _ rfl)
 refine seqk (ex_if_walrus (u:=.ref (NA i)) I1 rfl rfl ?_ λs' b' l E I2=>?_)
 ·refine Yd.mono (Yd.dget (G.le I1.le).dict hd (Yd.atr V0 (cls_le S.ts I1.le) (I.le I1.le) h2 (C.mN0 _ (by simp)) (C.mN0 _ (by simp)) rfl (by rw [typeLookup_type,builtinLookup_eq_fast];kernel_rfl)) (Yd.namI V1)) λv g _ q=>?_
  rw [kvs_at hi] at q
  exact q
 ·rw [if_neg (by simp)]
  refine nil_ (ret_ I2.le (Yd.namV (I2.fs.var (x:=sO "result") (v:=.ref (NA i)) rfl rfl (by simp [up]))) λv s₃ k q=>⟨(I2.kp k).kp0 l,q _ (I2.le.trans k.le) (Nw.self _ _)⟩)
end
namespace Z13
noncomputable section
def zQ (w:World) (A:Around) (s:Shared) (mg mb mN:SoV) (K:Frag) (x dx d:Addr) (mA:SoV) (NA EA SA:Nat->Addr) (N:Nat) (np:Nat->Int) (su:Nat->List Nat) (n:Nat) (t:Tok) (b₀:Heap):Prop:=∀ (ok:Ok (n+3) A) (S:St w mg mb mN K b₀) (hb:Le b₀ s.heap) (C:Con mg mb mN K) (I:IA s.heap x dx mA) (h2:mA (sO "_node2info")=some (.ref d)) (G:Gr w s.heap d NA EA SA N np su) (off:b₀.get? d=none) (hN:N<=100),Wp w A (call (.ref 94) [.ref x,.int N t]) (λv s'=>∃ a e l,v=.ref a/\Ev [d] s s'/\s.heap.get? a=none/\s.heap.get? e=none/\s.heap.get? l=none/\Gr w s'.heap d (λi=>if i=N then a else NA i) (λi=>if i=N then e else EA i) (λi=>if i=N then l else SA i) (N+1) (λi=>if i=N then 0 else np i) (λi=>if i=N then [] else su i)) s
abbrev zY:=((((World×Around)×(Shared×(SoV×SoV)))×((SoV×Frag)×(Addr×(Addr×Addr))))×(((SoV×(Nat->Addr))×((Nat->Addr)×((Nat->Addr)×Nat)))×(((Nat->Int)×(Nat->List Nat))×(Nat×(Tok×Heap)))))
def zR (p:zY):=zQ p.1.1.1.1 p.1.1.1.2 p.1.1.2.1 p.1.1.2.2.1 p.1.1.2.2.2 p.1.2.1.1 p.1.2.1.2 p.1.2.2.1 p.1.2.2.2.1 p.1.2.2.2.2 p.2.1.1.1 p.2.1.1.2 p.2.1.2.1 p.2.1.2.2.1 p.2.1.2.2.2 p.2.2.1.1 p.2.2.1.2 p.2.2.2.1 p.2.2.2.2.1 p.2.2.2.2.2
def zc:zY:=eps1 (neP (neP (neP (neP neW neA) (neP neS neI)) neI) neI) zR
def w:=zc.1.1.1.1
def A:=zc.1.1.1.2
def s:=zc.1.1.2.1
def mg:=zc.1.1.2.2.1
def mb:=zc.1.1.2.2.2
def mN:=zc.1.2.1.1
def K:=zc.1.2.1.2
def x:=zc.1.2.2.1
def dx:=zc.1.2.2.2.1
def d:=zc.1.2.2.2.2
def mA:=zc.2.1.1.1
def NA:=zc.2.1.1.2
def EA:=zc.2.1.2.1
def SA:=zc.2.1.2.2.1
def N:=zc.2.1.2.2.2
def np:=zc.2.2.1.1
def su:=zc.2.2.1.2
def n:=zc.2.2.2.1
def t:=zc.2.2.2.2.1
def b₀:=zc.2.2.2.2.2
theorem zaux:zQ w A s mg mb mN K x dx d mA NA EA SA N np su n t b₀:=by
 intro ok S hb C I h2 G off hN
 refine q2_1 ((S.le hb).f94) λpm cd F=>?_
 have hd:=S.nmod off
 refine wpAny_call (call_fn0 (n:=n+2) (binds:=[(sO "self",.ref x),(sO "node",.int N t)]) ok F (S.le hb).lim rfl (by kernel_rfl) rfl (by kernel_rfl) (λ_=>by kernel_rfl) (λ_=>by kernel_rfl) λs1 L m cm B I1 ok'=>?_)
 obtain ⟨od,hod⟩:∃ o,s.heap.get? d=some o:=G.live d (mem_gA.mpr (.inl rfl))
 have I2:=I1.hide [d] (λc hc=>by rw [zS hc];exact⟨_,I1.le.get _ _ hod⟩) (λc hc=>by rw [zS hc];exact I1.notft hod)
 have hbb:Le b₀ (hideAll s.heap [d]):=le_hide hb λc hc=>by rw [zS hc];exact off
 have V0:=I2.fs.var (x:=sO "self") rfl rfl (B 0 _ _ rfl)
 have V1:=I2.fs.var (x:=sO "node") rfl rfl (B 1 _ _ rfl)
 refine seqk (ex_if_walrus (u:=.none) I2 rfl rfl ?_ λs2 b2 l2 E2 I3=>?_)
 ·refine Yd.mono (Yd.dget (G.le I1.le).dict hd (Yd.atr V0 (cls_le (cls_le S.ts hb) I1.le) (I.le I1.le) h2 (C.mN0 _ (by simp)) (C.mN0 _ (by simp)) rfl (by rw [typeLookup_type,builtinLookup_eq_fast];kernel_rfl)) (Yd.namI V1)) λv g _ q=>?_
  rw [kvs_no (Nat.le_refl N)] at q
  exact q
 ·rw [if_pos rfl]
  have hs2:Le b₀ s2.heap:=(hbb.trans l2).trans I3.le
  have e12:∀ c∈x::dx::gA d NA EA SA N,∀ o,s.heap.get? c=some o->s2.heap.get? c=some o:=λc hc o e=>E2.get c o (I1.notft e) (I1.le.get c o e)
  have V0':=I3.fs.var (x:=sO "self") (v:=.ref x) rfl rfl (by simp [up];exact B 0 _ _ rfl)
  have V1':=I3.fs.var (x:=sO "node") (v:=.int N t) rfl rfl (by simp [up];exact B 1 _ _ rfl)
  have VN:=I3.fs.glo ((S.le hs2).g) C.ni rfl rfl rfl
  refine seqk (wpAny_Assign_two ?_ (by rfl) (by rfl))
  refine Wp.to (Yd.callK (P:=λv g=>∃ a e l,v=.ref a/\NI g a e l N 0/\g.PlainList l #[]/\s2.heap.get? a=none/\s2.heap.get? e=none/\s2.heap.get? l=none) VN (S.le hs2).k C.nk.keep (Yds.one (Yd.namI V1')) (λvs s₃ hb3 hs3 q=>?_) (by decide) rfl rfl s2 I3.le (Le.refl _)) λv s₃ q₃=>?_
  ·refine v1 q λy1 ey a=>?_;subst ey
   refine byC0 λzn=>?_;refine q1_1 a λt' z1=>?_;clear a;subst z1;refine zn ?_;clear zn
   refine (ni_new (n:=n) ok' (S.le (hs2.trans hs3)) C).to λz s4 q₄=>?_
   refine byC0 λzn=>?_;refine q3_2 q₄ λa e l z1 z2=>?_;clear q₄;subst z1;refine q0_8 z2 λk x1 x2 na ne nl _ _=>?_;clear z2;refine zn ?_;clear zn
   refine⟨k,λg hg nw=>e3_6 a e l rfl ⟨?_,nw.get _ _ ne x1.dict⟩ (x2.at λo q=>?_) (hs3.none na) (hs3.none ne) (hs3.none nl)⟩
   ·refine q2_1 (x1.obj) λt1 t2 q=>?_
    exact e2_1 t1 t2 (nw.get _ _ na q)
   ·exact nw.get _ _ nl q
  refine byC0 λzn=>?_
  refine q0_2 q₃ λk3 z1=>?_;clear q₃;revert z1;intro q₃
  refine q3_2 (q₃ s₃.heap (I3.le.trans k3.le) (Nw.self _ _)) λa e l z1 z2=>?_;subst z1;refine q0_5 z2 λx1 x2 na ne nl=>?_;clear z2
  refine zn ?_;clear zn
  have I4:=I3.kp k3
  have e13:∀ c∈x::dx::gA d NA EA SA N,∀ o,s.heap.get? c=some o->s₃.heap.get? c=some o:=λc hc o e=>k3.le.get c o (e12 c hc o e)
  have ix:IA s₃.heap x dx mA:=I.get λc hc o e=>e13 c (by ((rcases hc with rfl | rfl))<;>simp) o e
  have g3:Gr w s₃.heap d NA EA SA N np su:=G.get λc hc o e=>e13 c (by simp [hc]) o e
  have nn:∀ c,s2.heap.get? c=none->s.heap.get? c=none:=λc hc=>by
   cases q:s.heap.get? c with
   | none=>rfl
   | some o=>rw [E2.get c o (I1.notft q) (I1.le.get c o q)] at hc;cases hc
  refine asg_sub (u:=.ref d) ((Yd.atr V0' (S.le hs2).ts (I.get λc hc o e=>e12 c (by ((rcases hc with rfl | rfl))<;>simp) o e) h2 (C.mN0 _ (by simp)) (C.mN0 _ (by simp)) rfl (by rw [typeLookup_type,builtinLookup_eq_fast];kernel_rfl) (by decide) s₃ I4.le k3.le).to λz s4 q₄=>⟨q₄.2 _ (I4.le.trans q₄.1.le) (Nw.self _ _),?_⟩)
  refine (Yd.namI V1' (by decide) s4 (I4.le.trans q₄.1.le) (k3.le.trans q₄.1.le)).to λz' s5 q5=>?_
  refine byC0 λzn=>?_;refine q1_1 (q5.2 _ ((I4.le.trans q₄.1.le).trans q5.1.le) (Nw.self _ _)) λt' z1=>?_;subst z1;refine zn ?_;clear zn
  have k45:=q₄.1.trans q5.1
  refine wpAny_setItem_pairs (knd:=intKind Pg w) (k:=(N:Int)) (by simp [intKind,Value.isInt]) (g3.le k45.le).dict (λh' hd' hs'=>?_) (by rw [kvs_len,sizeLine_eq];omega)
  have I5:=I4.kp k45
  have dX:d∈[d]++([]:List Addr):=by simp
  have E6:Ev [d] s5 { s5 with heap:=h',toks:=s5.toks+1 }:=⟨e2_1 _ _ rfl,λc o hc e=>hs'.extBut c o (λz=>hc (by simp [z])) e⟩
  refine q1_3 (I5.step E6 (λc hc=>.inr (by rw [zS hc];exact dX)) (I5.fs.get λc hc o e=>E6.get c o (λz=>I5.apart d dX (zS z▸hc)) e) (λc _ hc=>by
   rw [zS hc];refine q3_2 hd' λo _ _ e _=>?_;clear hd';exact⟨o,e⟩)) λb6 l6 I6 _=>?_
  refine (asg_loc I6.fs rfl rfl).to λ_ s7 q7=>?_
  refine q1_3 (I6.step q7.1 (λc hc=>.inl hc) q7.2 (λc hc hm=>absurd hm (I6.apart c hc))) λb7 l7 I7 _=>?_
  refine nil_ (ret_ I7.le (Yd.namV (I7.fs.var (x:=sO "result") (v:=.ref a) rfl rfl (by simp [up]))) λv s8 k8 q8=>?_)
  have e38:∀ c o,c∉ft _ _->c≠d->s₃.heap.get? c=some o->s8.heap.get? c=some o:=λc o hf hc e=>k8.le.get c o (q7.1.get c o hf (E6.get c o (by simpa using hc) (k45.le.get c o e)))
  have df:d∉ft _ _:=I5.apart d dX
  have nf:∀ c,s2.heap.get? c=none->c∉ft _ _:=λc hc hm=>by refine q1_1 (I3.fs.live c hm) λo q=>?_;rw [hc] at q;cases q
  have nd:∀ c,s2.heap.get? c=none->c≠d:=λc hc e=>by rw [e,e12 d (by simp [gA]) _ hod] at hc;cases hc
  have old:∀ c,c∈gA d NA EA SA N->c≠d->∀ o,s₃.heap.get? c=some o->s8.heap.get? c=some o:=λc hc hne o e=>by
   refine q1_1 (G.live c hc) λo' q=>?_
   exact e38 c o (I1.notft q) hne e
  refine⟨a,e,l,q8 _ (I7.le.trans k8.le) (Nw.self _ _),(I7.kp k8).ev ((l2.trans l6).trans l7),nn a na,nn e ne,nn l nl,?_,?_,?_,?_,?_⟩
  ·rw [kvs_stored] at hd'
   exact hd'.at λo q=>k8.le.get _ _ (q7.1.get _ _ df q)
  ·intro i hi
   by_cases h:i=N
   ·subst h
    simp only [if_true]
    exact x1.get λc hc o q=>by
     have hn:s2.heap.get? c=none:=by (rcases hc with z0 | z0)<;>(replace z0:=Eq.symm z0;subst z0);exact na;exact ne
     exact e38 c o (nf c hn) (nd c hn) q
   ·simp only [if_neg h]
    have hi':i<N:=by omega
    exact (g3.info i hi').get λc hc o q=>by
     refine old c (mem_gA.mpr (.inr (e1_2 i hi' (hc.elim .inl λz=>.inr (.inl z))))) ?_ o q
     (rcases hc with rfl | rfl)
     ·intro z
      refine byC0 λzn=>?_
      refine q2_1 ((g3.info i hi').obj) λt1 t2 q1=>?_
      refine q3_3 (g3.dict) λod' _ _ q2 q3 _=>?_
      refine zn ?_;clear zn
      rw [z,q2] at q1
      cases q1
      cases q3.1
     ·exact G.dE i hi'
  ·intro i hi
   by_cases h:i=N
   ·subst h
    simp only [if_true]
    exact e1_2 [] (x2.at λo q=>e38 l o (nf l nl) (nd l nl) q) .nil
   ·simp only [if_neg h]
    have hi':i<N:=by omega
    refine (g3.list i hi').at λo q=>old _ (mem_gA.mpr (.inr (e1_2 i hi' (.inr (.inr rfl))))) (λz=>?_) o q
    refine byC0 λzn=>?_
    refine q1_2 ((g3.list i hi').live) λo1 q1 q2=>?_
    refine q3_3 (g3.dict) λod' _ _ q3 q4 _=>?_
    refine zn ?_;clear zn
    rw [z,q3] at q1
    cases q1
    rw [q4.1] at q2
    exact absurd q2 (by simp)
  ·intro i j hi hj
   by_cases h:i=N<;>by_cases h':j=N<;>simp only [h,h',if_true,if_false]
   ·exact λ_=>trivial
   ·intro z
    refine byC0 λzn=>?_
    refine q1_2 ((g3.list j (by omega)).live) λo1 q1 _=>?_
    refine q1_1 (G.live (SA j) (mem_gA.mpr (.inr (e1_2 j (by omega) (.inr (.inr rfl)))))) λo2 q2=>?_
    refine zn ?_;clear zn
    rw [← z,nn l nl] at q2;cases q2
   ·intro z
    refine q1_1 (G.live (SA i) (mem_gA.mpr (.inr (e1_2 i (by omega) (.inr (.inr rfl)))))) λo2 q2=>?_
    rw [z,nn l nl] at q2;cases q2
   ·exact G.inj i j (by omega) (by omega)
  ·intro i hi
   by_cases h:i=N
   ·simp only [h,if_true];exact nd e ne
   ·simp only [h,if_false];exact G.dE i (by omega)
theorem zall:∀ p,zR p:=all1 zaux
end
end Z13
theorem gni_new {w A s mg mb mN K x dx d mA NA EA SA N np su n t b₀}:Z13.zQ w A s mg mb mN K x dx d mA NA EA SA N np su n t b₀:=Z13.zall ((((w,A),(s,(mg,mb))),((mN,K),(x,(dx,d)))),(((mA,NA),(EA,(SA,N))),((np,su),(n,(t,b₀)))))
section
variable {w:World} {A:Around} {s₀ s:Shared} {b h:Heap} {X:List Addr} {env:Env} {own:List (Str×Addr)} {m cm:SoV} {x dx N:Addr} {mN mA:SoV} {name:Str}
theorem eval_meth {n:Str} {np apos pos:Pos} {f:Addr} {fd:FuncData} {y:Option Value} {e:Expr} {rest:List Expr} {Ps:List (Value->Heap->Prop)} {Q:Value->Shared->Prop} {pl:Sem Bool} (hb:Le b s.heap) (V:Var s.heap env n (.ref x)) (S:ClsAt s.heap 151 N mN) (I:IA s.heap x dx mA) (hf:mN name=some (.ref f)) (F:FnAt s.heap f fd)
  (hg:mN "__getattribute__"=none) (hh:mN "__getattr__"=none) (hm:mA name=none) (hB:typeLookup (.type "object") name=pure y) (ha:Yds w A b s.heap env (e::rest) Ps)
  (h:∀ vs s1,Kp s s1->Paired (λP v=>P v s1.heap) Ps vs->Wp w A (call (.ref f) (.ref x::vs)) Q s1) (hd:autoParam ((n == ("__debug__" : Str))=false) auD) (he:autoParam (starEach (e::rest) env=(false,eval e env)::starEach rest env) auR)
  (hE:autoParam (eval (.Call (.Attribute (.Name n np) name apos) (e::rest) [] pos) env=(do
   let ov ← eval (.Name n np) env
   standAt apos.atName
   let (f,first) ← holding [ov] (getMethod ov name pl)
   callWith pos f first (backTo pos (starEach (e::rest) env)) [])) auR) :
  Wp w A (eval (.Call (.Attribute (.Name n np) name apos) (e::rest) [] pos) env) Q s:=by
 refine q1_3 (F.fn) λo ho hdat hc=>?_
 refine MethodCall_ (pl:=pl) (wpAny_Name (V w A s _ _ (Le.refl _) (meth_ia S I hf ho hc hg hh hm hB ?_)) hd) hE
 refine callWith_meth (h₀:=s.heap) hdat ho ((ha s pos hb (Le.refl _)).to λvs s1 q=>⟨q.1.le.get,?_⟩) he
 exact h vs s1 q.1 (q.2 _ (hb.trans q.1.le) (Nw.self _ _))
theorem eval_meth0 {n:Str} {np apos pos:Pos} {f:Addr} {fd:FuncData} {y:Option Value} {Q:Value->Shared->Prop} {pl:Sem Bool} (V:Var s.heap env n (.ref x)) (S:ClsAt s.heap 151 N mN) (I:IA s.heap x dx mA) (hf:mN name=some (.ref f)) (F:FnAt s.heap f fd)
  (hg:mN "__getattribute__"=none) (hh:mN "__getattr__"=none) (hm:mA name=none) (hB:typeLookup (.type "object") name=pure y)
  (h:Wp w A (call (.ref f) [.ref x]) Q s) (hd:autoParam ((n == ("__debug__" : Str))=false) auD)
  (hE:autoParam (eval (.Call (.Attribute (.Name n np) name apos) [] [] pos) env=(do
   let ov ← eval (.Name n np) env
   standAt apos.atName
   let (f,first) ← holding [ov] (getMethod ov name pl)
   callWith pos f first (backTo pos (starEach [] env)) [])) auR) :
  Wp w A (eval (.Call (.Attribute (.Name n np) name apos) [] [] pos) env) Q s:=by
 refine q1_3 (F.fn) λo ho hdat hc=>?_
 exact MethodCall_ (pl:=pl) (wpAny_Name (V w A s _ _ (Le.refl _) (meth_ia S I hf ho hc hg hh hm hB (callWith_meth0 hdat ho h))) hd) hE
theorem ex_append {o e:Expr} {apos pos p:Pos} {P:Value->Heap->Prop} {l:Addr} {ys:Array Value} (hb:Le b s.heap) (ho:Yd w A b s.heap env o (IsV (.ref l))) (he:Yd w A b s.heap env e P) (hl:s.heap.PlainList l ys) (hsz:ys.size<=sizeLine)
  (hbase:autoParam (attributeBase o (sO "append") env (eval o env)=eval o env) auR) (hline:autoParam ((apos.endLine == pos.line)=true) auR) (hst:autoParam (backTo pos (starEach [e] env)=[(false,eval e env)]) auR)
  (hi:autoParam (interactive env=false) auR) (hs:autoParam (swapsWith (.Call (.Attribute o (sO "append") apos) [e] [] pos) none p.line env=pure false) auR) :
  Wp w A (exec (.Expr (.Call (.Attribute o (sO "append") apos) [e] [] pos) p) env) (λfl s'=>fl=.next/\Ev [l] s s'/\∃ v s1,Kp s s1/\(∀ g,Le b g->Nw s s1 g->P v g)/\Ev [l] s1 s'/\s'.heap.PlainList l (ys.push v)) s:=by
 refine wpAny_Expr_any ?_ hi hs
 refine wpAny_Call_method_lateS hbase (by rw [hst];rfl) hline ((ho s hb (Le.refl _)).to λu s1 q=>?_)
 have e1:u=.ref l:=q.2 _ (hb.trans q.1.le) (Nw.self _ _)
 subst e1
 have hl1:s1.heap.PlainList l ys:=hl.at λo e=>q.1.le.get _ o e
 refine e2_6 ("list") ("list.append") F.plainAttrs_list F.slot_list_append F.type_list_append (by refine q1_1 hl1 λn q=>?_;clear hl1;exact e1_2 _ q rfl) (λa e=>by cases e;refine q1_1 hl1 λn q=>?_;clear hl1;exact e1_2 _ q rfl) ?_
 rw [hst]
 refine Calls.callWith_builtin rfl (Calls.evalArgs_plain (spliced_cons ((he s1 (hb.trans q.1.le) q.1.le).to λv s2 q2=>spliced_nil ?_)))
 have hl2:s2.heap.PlainList l ys:=hl1.at λo e=>q2.1.le.get _ o e
 refine wpAny_list_append_plain hl2 (λh' hl' hs'=>?_) hsz
 have E2:Ev [l] s2 { s2 with heap:=h' }:=⟨e2_1 _ _ rfl,λc o hc e=>hs'.extBut c o (λz=>hc (by simp [z])) e⟩
 refine e0_3 rfl ((q.1.trans q2.1).ev.trans E2) (e2_4 v s2 (q.1.trans q2.1) (λg hg n=>q2.2 g hg (n.right q.1.le)) E2 hl')
theorem ex_np {K:Frag} {op:Operator} {n:Str} {np pa pos:Pos} {ex:Expr} {a e l:Addr} {i:Nat} {k j:Int} {r:Int->Int->Int} (I:InF s₀ b X env own m cm s) (XK:K.In b) (sk:SlotK K 54 (sO "npredecessors") 56 1) (ha:a∈X) (z:NI s.heap a e l i k) (V:Var s.heap env n (.ref a)) (hY:Yd w A b s.heap env ex (IsI j))
  (hop:∀ {t u:Tok} {s:Shared} {Q:Value->Shared->Prop} {E:Value->Shared->Prop},Q (.int (r k j) s.toks) { s with toks:=s.toks+1 }->wpAny (model Pg w) A (inplaceOp op (.int k t) (.int j u)) Q E s) (hd:autoParam ((n == ("__debug__" : Str))=false) auD) :
  Wp w A (exec (.AugAssign (.Attribute (.Name n np) (sO "npredecessors") pa) op ex pos) env) (λfl s'=>fl=.next/\Ev [a] s s'/\InF s₀ b X env own m cm s'/\NI s'.heap a e l i (r k j)) s:=by
 refine wpAny_AugAssign_AttributeAny (wpAny_Name (V w A s _ _ (Le.refl _) ?_) hd)
 refine q2_1 (z.obj) λt t' h1=>?_
 refine get_slotK (XK.keeps I.le.get) sk (inst_ni h1 z.dict) (v:=.int k t') rfl rfl ?_
 have I1:=I.kp (Kp.tok s (s.toks+1))
 refine (hY _ I1.le (Le.refl _)).to λv s2 q=>?_
 refine byC0 λzn=>?_;refine q1_1 (q.2 _ (I1.le.trans q.1.le) (Nw.self _ _)) λu z1=>?_;subst z1;refine zn ?_;clear zn
 have I2:=I1.kp q.1
 refine hop ?_
 have I3:=I2.kp (Kp.tok s2 (s2.toks+1))
 have k3:Kp s { s2 with toks:=s2.toks+1 }:=((Kp.tok s _).trans q.1).trans (Kp.tok s2 _)
 refine (ni_set (sl':=#[some (.int i t),some (.int (r k j) s2.toks),some (.ref l)]) (XK.keeps I3.le.get) sk (k3.le.get _ _ h1) (k3.le.get _ _ z.dict) (by decide) rfl).to λ_ s4 q4=>?_
 have hf:a∉ft env own:=I.apart a ha
 refine⟨rfl,k3.ev.trans q4.1,I3.ev' q4.1 (λc hc=>.inr (by rw [zS hc];exact ha)) (I3.fs.get λc hc o e=>q4.1.get c o (λz=>hf (zS z▸hc)) e) (λc _ hc=>by rw [zS hc];exact⟨_,q4.2⟩),⟨e2_1 t s2.toks q4.2,?_⟩⟩
 exact q4.1.get _ _ (λq=>z.ne (zS q).symm) (k3.le.get _ _ z.dict)
end
section
variable {w:World} {A:Around} {s:Shared} {R:Result->Shared->Prop}
theorem call_fnB0 {n:Nat} {f:Addr} {fd:FuncData} {body:List Stmt} {vals:List Value} (ok:Ok (n+1) A) (hF:FnAt s.heap f fd) (hlim:s.heap.NoLimit)
  (hbody:fd.body=.stmts body) (hclo:fd.closure=[]) (hc:∀ n,cellsFrom n fd.scope.names []=[])
  (hb:Wp w A.in1 (bindArgs fd ⟨vals,[]⟩) (λbinds s'=>Kp s s'/\((binds.map λx=>fd.scope.names.lookup x.1)=binds.map λ_=>some .local)/\
   (∀ L,(binds.map λx=>bindL (callEnvC fd L f).kindOf binds (λ_=>none) x.1)=binds.map λx=>some x.2)/\
   ∀ s1 L m cm,(∀ (i:Nat) x v,binds[i]?=some (x,v)->m x=some v)->InF s' s'.heap [] (callEnvC fd L f) [] m cm s1->Ok n (A.deeper (callEnvC fd L f))->
   Wp w (A.deeper (callEnvC fd L f)) (execs body (callEnvC fd L f)) (λfl s'=>R (.ok (.ret (retOf fl))) s') s1) s)
  (hco:autoParam (fd.scope.isCoroutine=false) auR) (hgen:autoParam (fd.scope.isGenerator=false) auR) (hk:autoParam (fd.scope.kind=.function) auR):codeAny (model Pg w) A (.call (.ref f) ⟨vals,[]⟩) R s:=by
 refine call_fnB ok hF hlim hbody hclo (hb.to λbinds s' q=>?_) hco hgen hk
 refine q0_4 q λk hloc hm h=>?_;clear q
 refine⟨k,λx hx=>.inl ?_,by rw [hc];exact List.nodup_nil,λs1 L hL I ok'=>?_⟩
 ·have:fd.scope.names.lookup x.1∈binds.map λx=>fd.scope.names.lookup x.1:=List.mem_map.mpr (e1_2 x hx rfl)
  rw [hloc] at this
  refine q1_2 (List.mem_map.mp this) λ_ _ e=>?_
  exact e.symm
 ·have e:(callEnvC fd L f).cells=[]:=by
   show cellsFrom (L+1) fd.scope.names []=[]
   exact hc _
  rw [e] at I
  refine h s1 L _ _ (λi x v hi=>?_) I ok'
  have:=congrArg (·[i]?) (hm L)
  simpa [hi] using this
end
theorem bind_add (pm cd:Value) (a i:Value) (vs:List Value):bindArgs (fdOf (meth 10 2) (sO "TopologicalSorter.add") .none pm cd) ⟨a::i::vs,[]⟩ = 
  (newTuple vs >>= λt=>pure [(sO "self",a),(sO "node",i),(sO "predecessors",t)]):=by
 unfold bindArgs
 have hp:(fdOf (meth 10 2) (sO "TopologicalSorter.add") .none pm cd).params=fArgs (meth 10 2):=rfl
 have h1:(fArgs (meth 10 2)).posonlyargs=[]:=rfl
 have h2:(fArgs (meth 10 2)).args.map (·.arg)=[sO "self",sO "node"]:=rfl
 have h3:(fArgs (meth 10 2)).kwonlyargs=[]:=rfl
 have h4:(fArgs (meth 10 2)).kwarg=none:=rfl
 have h5:∃ p,(fArgs (meth 10 2)).vararg=some ⟨sO "predecessors",none,p⟩:=⟨_,rfl⟩
 refine q1_1 h5 λp z1=>?_;clear h5;revert z1;intro h5
 rw [hp]
 simp only [h1,h2,h3,h4,h5,List.map_nil,List.nil_append,List.length_cons,List.length_nil,List.zip_cons_cons,List.zip_nil_left,Option.isNone_some,Bool.and_false,Bool.false_eq_true,if_false]
 rfl
section
variable {w:World} {h h':Heap} {d:Addr} {NA EA SA:Nat->Addr} {n:Nat} {np np':Nat->Int} {su su':Nat->List Nat}
theorem Gr.congr (G:Gr w h d NA EA SA n np su) (h1:∀ i,i<n->np' i=np i) (h2:∀ i,i<n->su' i=su i):Gr w h d NA EA SA n np' su':=
 ⟨G.dict,λi hi=>by rw [h1 i hi];exact G.info i hi,λi hi=>by rw [h2 i hi];exact G.list i hi,G.inj,G.dE⟩
theorem NI.notdict {a e l:Addr} {i:Nat} {k:Int} {o:Obj} (x:NI h a e l i k) (hd:h.get? d=some o) (hc:o.cls=.type "dict"):a≠d:=by
 (intro zr;subst zr)
 refine q2_1 (x.obj) λt t' q=>?_
 rw [hd] at q;cases q;exact absurd hc (by simp)
theorem NI.notlist {a e l c:Addr} {i:Nat} {k:Int} {o:Obj} (x:NI h a e l i k) (hd:h.get? c=some o) (hc:o.cls=.type "list"):a≠c/\e≠c:=by
 refine⟨?_,?_⟩
 ·(intro zr;subst zr)
  refine q2_1 (x.obj) λt t' q=>?_
  rw [hd] at q;cases q;exact absurd hc (by simp)
 ·(intro zr;subst zr)
  have q:=x.dict
  rw [hd] at q;cases q;exact absurd hc (by simp)
theorem NI.same {a e l e' l':Addr} {i j:Nat} {k k':Int} (x:NI h a e l i k) (y:NI h a e' l' j k'):i=j:=by
 refine byC0 λzn=>?_
 refine q2_1 (x.obj) λt t' q=>?_
 refine q2_1 (y.obj) λu u' q'=>?_
 refine zn ?_;clear zn
 rw [q] at q'
 simp only [Option.some.injEq,Obj.mk.injEq] at q'
 have:=q'.2.2.2
 simp at this
 omega
theorem Gr.dobj (G:Gr w h d NA EA SA n np su):∃ o,h.get? d=some o/\o.cls=.type "dict":=q3_3 G.dict λo _ _ e c _=>e1_2 o e c.1
theorem Gr.setNp (G:Gr w h d NA EA SA n np su) {i:Nat} {k:Int} (hi:i<n) (E:∀ c o,c≠NA i->h.get? c=some o->h'.get? c=some o) (x:NI h' (NA i) (EA i) (SA i) i k):Gr w h' d NA EA SA n (λj=>if j=i then k else np j) su:=by
 refine q1_2 (G.dobj) λod hod hcd=>?_
 have xi:=G.info i hi
 refine⟨G.dict.at λo e=>E d o (xi.notdict hod hcd).symm e,λj hj=>?_,λj hj=>?_,G.inj,G.dE⟩
 ·by_cases hij:j=i
  ·subst hij;simp only [if_true];exact x
  ·simp only [if_neg hij]
   have xj:=G.info j hj
   refine xj.get λc hc o e=>E c o ?_ e
   (rcases hc with rfl | rfl)
   ·intro z;rw [z] at xj;exact hij (xj.same xi)
   ·intro z
    refine q2_1 (xi.obj) λt t' q=>?_
    have:=xj.dict
    rw [z,q] at this;cases this
 ·refine q1_2 ((G.list j hj).live) λo e c=>?_
  exact (G.list j hj).at λo e'=>E _ o (xi.notlist e c).1.symm e'
theorem Gr.app (G:Gr w h d NA EA SA n np su) {p:Nat} {l:List Nat} (hp:p<n) (E:∀ c o,c≠SA p->h.get? c=some o->h'.get? c=some o) (x:NatL h' (SA p) l):Gr w h' d NA EA SA n np (λj=>if j=p then l else su j):=by
 refine byC0 λzn=>?_
 refine q1_2 (G.dobj) λod hod hcd=>?_
 refine q1_2 ((G.list p hp).live) λo e c=>?_
 refine zn ?_;clear zn
 have hdp:d≠SA p:=by (intro zr;subst zr);rw [hod] at e;cases e;rw [hcd] at c;exact absurd c (by simp)
 refine⟨G.dict.at λo e=>E d o hdp e,λj hj=>(G.info j hj).get λb hb o' e'=>E b o' ?_ e',λj hj=>?_,G.inj,G.dE⟩
 ·(rcases hb with rfl | rfl)
  ·exact ((G.info j hj).notlist e c).1
  ·exact ((G.info j hj).notlist e c).2
 ·by_cases hij:j=p
  ·subst hij;simp only [if_true];exact x
  ·simp only [if_neg hij]
   exact (G.list j hj).at λo' e'=>E _ o' (λz=>hij (G.inj _ _ hj hp z)) e'
end
theorem tl0:typeLookup (.type "object") (sO "_node2info")=pure none:=by rw [typeLookup_type,builtinLookup_eq_fast];kernel_rfl
theorem tl1:typeLookup (.type "object") (sO "_ready_nodes")=pure none:=by rw [typeLookup_type,builtinLookup_eq_fast];kernel_rfl
theorem tl2:typeLookup (.type "object") (sO "_npassedout")=pure none:=by rw [typeLookup_type,builtinLookup_eq_fast];kernel_rfl
theorem tl3:typeLookup (.type "object") (sO "_nfinished")=pure none:=by rw [typeLookup_type,builtinLookup_eq_fast];kernel_rfl
theorem tl4:typeLookup (.type "object") (sO "_get_nodeinfo")=pure none:=by rw [typeLookup_type,builtinLookup_eq_fast];kernel_rfl
theorem tl6:typeLookup (.type "object") (sO "prepare")=pure none:=by rw [typeLookup_type,builtinLookup_eq_fast];kernel_rfl
theorem tl7:typeLookup (.type "object") (sO "get_ready")=pure none:=by rw [typeLookup_type,builtinLookup_eq_fast];kernel_rfl
theorem tl8:typeLookup (.type "object") (sO "is_active")=pure none:=by rw [typeLookup_type,builtinLookup_eq_fast];kernel_rfl
theorem tl9:typeLookup (.type "object") (sO "done")=pure none:=by rw [typeLookup_type,builtinLookup_eq_fast];kernel_rfl
theorem tl10:typeLookup (.type "object") (sO "_find_cycle")=pure none:=by rw [typeLookup_type,builtinLookup_eq_fast];kernel_rfl
noncomputable def IsN (i:Nat) (v:Value):Prop:=∃ t,v=.int (i:Int) t
namespace Z1
noncomputable section
def zQ (w:World) (A:Around) (s:Shared) (mg mb mN:SoV) (K:Frag) (x dx d:Addr) (mA:SoV) (NA EA SA:Nat->Addr) (N:Nat) (np:Nat->Int) (su:Nat->List Nat) (n:Nat) (t:Tok) (b₀:Heap) (ps:List Nat) (vs:List Value):Prop:=∀ (ok:Ok (n+5) A) (S:St w mg mb mN K b₀) (hb:Le b₀ s.heap) (C:Con mg mb mN K) (I:IA s.heap x dx mA) (h2:mA (sO "_node2info")=some (.ref d)) (hr:mA (sO "_ready_nodes")=some .none) (hg:mA (sO "_get_nodeinfo")=none) (G:Gr w s.heap d NA EA SA N np su) (off:∀ a∈gA d NA EA SA N,b₀.get? a=none) (hx:x∉gA d NA EA SA N) (hdx:dx∉gA d NA EA SA N) (hN:N<=100) (hv:Paired IsN ps vs) (hps:∀ p∈ps,p<N) (hl:ps.length<=100) (hsu:∀ i,i<N->(su i).length<=10000),codeAny (model Pg w) A (.call (.ref 101) ⟨.ref x::.int N t::vs,[]⟩) (λr s'=>match r with | .ok (.ret v)=>(λv s'=>v=.none/\Ev (gA d NA EA SA N) s s'/\∃ a e l,s.heap.get? a=none/\s.heap.get? e=none/\s.heap.get? l=none/\Gr w s'.heap d (λi=>if i=N then a else NA i) (λi=>if i=N then e else EA i) (λi=>if i=N then l else SA i) (N+1) (λi=>if i=N then (ps.length:Int) else np i) (λi=>if i=N then [] else su i++List.replicate (ps.count i) N)) v s' | .ok _=>False | .error e=>Bot e s') s
abbrev zY:=((((World×Around)×(Shared×(SoV×SoV)))×((SoV×(Frag×Addr))×(Addr×(Addr×SoV))))×((((Nat->Addr)×(Nat->Addr))×((Nat->Addr)×(Nat×(Nat->Int))))×(((Nat->List Nat)×(Nat×Tok))×(Heap×((List Nat)×(List Value))))))
def zR (p:zY):=zQ p.1.1.1.1 p.1.1.1.2 p.1.1.2.1 p.1.1.2.2.1 p.1.1.2.2.2 p.1.2.1.1 p.1.2.1.2.1 p.1.2.1.2.2 p.1.2.2.1 p.1.2.2.2.1 p.1.2.2.2.2 p.2.1.1.1 p.2.1.1.2 p.2.1.2.1 p.2.1.2.2.1 p.2.1.2.2.2 p.2.2.1.1 p.2.2.1.2.1 p.2.2.1.2.2 p.2.2.2.1 p.2.2.2.2.1 p.2.2.2.2.2
def zc:zY:=eps1 (neP (neP (neP (neP neW neA) (neP neS neI)) neI) neI) zR
def w:=zc.1.1.1.1
def A:=zc.1.1.1.2
def s:=zc.1.1.2.1
def mg:=zc.1.1.2.2.1
def mb:=zc.1.1.2.2.2
def mN:=zc.1.2.1.1
def K:=zc.1.2.1.2.1
def x:=zc.1.2.1.2.2
def dx:=zc.1.2.2.1
def d:=zc.1.2.2.2.1
def mA:=zc.1.2.2.2.2
def NA:=zc.2.1.1.1
def EA:=zc.2.1.1.2
def SA:=zc.2.1.2.1
def N:=zc.2.1.2.2.1
def np:=zc.2.1.2.2.2
def su:=zc.2.2.1.1
def n:=zc.2.2.1.2.1
def t:=zc.2.2.1.2.2
def b₀:=zc.2.2.2.1
def ps:=zc.2.2.2.2.1
def vs:=zc.2.2.2.2.2
theorem zaux:zQ w A s mg mb mN K x dx d mA NA EA SA N np su n t b₀ ps vs:=by
 intro ok S hb C I h2 hr hg G off hx hdx hN hv hps hl hsu
 refine q2_1 ((S.le hb).f101) λpm cd F=>?_
 have hvl:vs.length=ps.length:=hv.length.symm
 refine call_fnB0 (n:=n+4) ok F (S.le hb).lim rfl rfl (λ_=>by kernel_rfl) ?_
 rw [bind_add]
 refine wpAny_bind (wpAny_newTuple (wpAny_pure ?_) (by rw [sizeLine_eq];omega))
 refine⟨Kp.push _ _,by kernel_rfl,λ_=>by kernel_rfl,λs1 L m cm B I1 ok'=>?_⟩
 generalize hH:s.heap.push { cls:=.type "tuple",data:=.seq vs.toArray }=H at I1
 have lH:Le s.heap H:=by rw [← hH];exact Le.push _ _
 have hT:H.IsTuple s.heap.objs.size vs.toArray:=by rw [← hH];exact e1_3 _ (Heap.get?_push_size _ rfl) rfl (e1_1 _ rfl)
 have live0:∀ a∈gA d NA EA SA N,∃ o,H.get? a=some o:=λa ha=>q1_1 (G.live a ha) λo e=>⟨o,lH.get _ _ e⟩
 have I2:=I1.hide (gA d NA EA SA N) (λc hc=>q1_1 (live0 c hc) λo e=>⟨o,I1.le.get _ _ e⟩) (λc hc=>q1_1 (live0 c hc) λo e=>I1.notft e)
 have Sc:St w mg mb mN K (hideAll H (gA d NA EA SA N)):=S.le (le_hide (hb.trans lH) off)
 have Ic:IA (hideAll H (gA d NA EA SA N)) x dx mA:=(I.le lH).get λa ha o e=>hideAll_get _ e (by ((rcases ha with rfl | rfl))<;>assumption)
 have Tc:(hideAll H (gA d NA EA SA N)).IsTuple s.heap.objs.size vs.toArray:=by
  refine q1_2 hT λo e r=>?_;clear hT
  exact e1_2 o (hideAll_get _ e λhm=>by refine q1_1 (G.live _ hm) λo' e'=>?_;exact absurd (Heap.lt_size e') (Nat.lt_irrefl _)) r
 have bc0:∀ a∈gA d NA EA SA N,(hideAll H (gA d NA EA SA N)).get? a=none:=λa ha=>hideAll_none _ ha
 have bcH:Le (hideAll H (gA d NA EA SA N)) H:=⟨λa o e=>of_hideAll _ e⟩
 dsimp only at I2
 generalize hbc:hideAll H (gA d NA EA SA N)=bc at I2 Sc Ic Tc bc0 bcH
 have G1:Gr w s1.heap d NA EA SA N np su:=(G.le lH).le I1.le
 refine seqk (ex_if (r:=false) I2.le (Td.cmp (Yd.atr (I2.fs.var (x:=sO "self") rfl rfl (B 0 _ _ rfl)) (Sc.le I2.le).ts (Ic.le I2.le) hr (C.mN0 _ (by simp)) (C.mN0 _ (by simp)) rfl tl1) Yd.none (λu v s _ _ hu hv=>by cases hu;cases hv;exact isnot_none_none ⟨Kp.refl s,rfl⟩)) λs2 k2=>?_)
 simp only [Bool.false_eq_true,if_false]
 refine nil_ ?_
 have I3:=I2.kp k2
 have G3:Gr w s2.heap d NA EA SA N np su:=G1.le k2.le
 have dX:d∈gA d NA EA SA N++([]:List Addr):=by simp [gA]
 refine seqn (ex_asgM (Y:=[d]) (Φ:=λv s'=>∃ a e l,v=.ref a/\s2.heap.get? a=none/\s2.heap.get? e=none/\s2.heap.get? l=none/\
   Gr w s'.heap d (λi=>if i=N then a else NA i) (λi=>if i=N then e else EA i) (λi=>if i=N then l else SA i) (N+1) (λi=>if i=N then 0 else np i) (λi=>if i=N then [] else su i))
  I3 rfl rfl (λa ha=>by rw [zS ha];exact dX)
  (eval_meth I3.le (I3.fs.var (x:=sO "self") rfl rfl (B 0 _ _ rfl)) (Sc.le I3.le).ts (Ic.le I3.le) C.gni (Sc.le I3.le).f94.choose_spec.choose_spec (C.mN0 _ (by simp)) (C.mN0 _ (by simp)) hg tl4 (Yds.one (Yd.namI (I3.fs.var (x:=sO "node") rfl rfl (B 1 _ _ rfl)))) λvs' s3 k3 hvs=>?_) rfl) λs5 q=>?_
 ·refine v1 hvs λy1 ey a=>?_;subst ey
  refine byC0 λzn=>?_;refine q1_1 a λt' z1=>?_;clear a;subst z1;refine zn ?_;clear zn
  refine (gni_new (n:=n+1) ok' Sc (I3.le.trans k3.le) C ((Ic.le I3.le).le k3.le) h2 (G3.le k3.le) (bc0 d (by simp [gA])) hN).to λv s4 q=>?_
  refine byC0 λzn=>?_;refine q3_2 q λa e l z1 z2=>?_;clear q;subst z1;refine q0_5 z2 λE na ne nl G4=>?_;clear z2;refine zn ?_;clear zn
  refine⟨k3.ev.trans E,λc hc=>?_,a,e,l,rfl,k3.le.none na,k3.le.none ne,k3.le.none nl,G4⟩
  rw [zS hc]
  exact G4.live d (by simp [gA])
 refine byC0 λzn=>?_;refine q3_6 q λv s4 b4 E34 z1 E45 l4 I5 z4=>?_;clear q;refine q3_2 z1 λa e l z2 z3=>?_;clear z1;subst z2;refine q0_4 z3 λna ne nl G4=>?_;clear z3;clear z4;refine zn ?_;clear zn
 have ftn:∀ c,s2.heap.get? c=none->c∉ft _ _:=λc hc hm=>by refine q1_1 (I3.fs.live c hm) λo q=>?_;rw [hc] at q;cases q
 generalize hNA:(λi=>if i=N then a else NA i)=NA' at G4
 generalize hEA:(λi=>if i=N then e else EA i)=EA' at G4
 generalize hSA:(λi=>if i=N then l else SA i)=SA' at G4
 have memN:∀ c∈gA d NA' EA' SA' (N+1),c∈gA d NA EA SA N\/c∈[a,e,l]:=λc hc=>by
  subst hNA hEA hSA
  (rcases mem_gA.mp hc with z0 | z1)<;>(first | subst z0 | (refine q1_2 z1 λi hi h=>?_;clear z1) | skip)
  ·exact .inl (by simp [gA])
  ·by_cases hi':i=N
   ·subst hi';simp only [if_true] at h;exact .inr (by simpa using h)
   ·simp only [if_neg hi'] at h;exact .inl (mem_gA.mpr (.inr (e1_2 i (by omega) h)))
 have ftG:∀ c∈gA d NA' EA' SA' (N+1),c∉ft _ _:=λc hc=>by
  rcases memN c hc with h | h
  ·refine q1_1 (live0 c h) λo e=>?_;exact I1.notft e
  ·refine ftn c ?_;simp at h;((rcases h with z0 | z0 | z0)<;>(replace z0:=Eq.symm z0;subst z0))<;>assumption
 have G5:=G4.get (h':=s5.heap) λc hc o e=>E45.get c o (ftG c hc) e
 have new3:∀ c∈[a,e,l],s2.heap.get? c=none:=λc hc=>by simp at hc;((rcases hc with z0 | z0 | z0)<;>(replace z0:=Eq.symm z0;subst z0))<;>assumption
 have mem3:∀ c∈[a,e,l],c∈gA d NA' EA' SA' (N+1):=λc hc=>by
  subst hNA hEA hSA
  refine mem_gA.mpr (.inr (e1_2 N (Nat.lt_succ_self _) ?_))
  simpa using hc
 have I6:=I5.hide [a,e,l] (λc hc=>G5.live c (mem3 c hc)) (λc hc=>ftG c (mem3 c hc))
 have l5:Le bc (hideAll b4 [a,e,l]):=le_hide l4 λc hc=>I3.le.none (new3 c hc)
 generalize hideAll b4 [a,e,l]=b5 at I6 l5
 have aX:a∈[a,e,l]++(gA d NA EA SA N++([]:List Addr)):=by simp
 have hNa:NA' N=a:=by rw [← hNA];simp
 have hEe:EA' N=e:=by rw [← hEA];simp
 have hSl:SA' N=l:=by rw [← hSA];simp
 have x5:NI s5.heap a e l N 0:=by have:=G5.info N (Nat.lt_succ_self _);simp only [if_true] at this;rwa [hNa,hEe,hSl] at this
 have hs6:=l5.trans I6.le
 have b1:=C.blt (sO "len") (by simp)
 refine seqn (ex_np (op:=.Add) (r:=(·+·)) (j:=(ps.length:Int)) I6 (Sc.le l5).k C.nk.np aX x5 (I6.fs.var (x:=sO "nodeinfo") (v:=.ref a) rfl rfl (by simp [up]))
  (Yd.callB (I6.fs.blt (Sc.le hs6).g b1.1 (Sc.le hs6).b (b1.2.trans (by decide +kernel:bootBuiltins (sO "len")=some (.builtin "len"))) rfl rfl rfl rfl) (Yds.one (Yd.namV (I6.fs.var (x:=sO "predecessors") (v:=.ref s.heap.objs.size) rfl rfl (by simp [up];exact B 2 _ _ rfl)))) λws s' hb' hs' q=>by
   refine v1 q λy1 ey a=>?_;subst ey
   cases a
   refine PyProof.Rows.len_tuple (items:=vs.toArray) (Tc.at λo e=>hb'.get _ _ (l5.get _ _ e)) (by simp;omega) ⟨Kp.tok s' _,λg _ _=>⟨s'.toks+1,?_⟩⟩
   simp [hvl]) (λh=>iadd_int h)) λs7 q=>?_
 refine q0_3 q λE67 I7 x7=>?_;clear q
 have G7:Gr w s7.heap d NA' EA' SA' (N+1) (λj=>if j=N then (ps.length:Int) else np j) (λi=>if i=N then [] else su i):=by
  refine (G5.setNp (k:=(ps.length:Int)) (Nat.lt_succ_self N) (λc o hc e=>E67.get c o (by rw [List.mem_singleton,← hNa];exact hc) e) (by rw [hNa,hEe,hSl];simpa using x7)).congr (λi hi=>?_) λ_ _=>rfl
  by_cases h:i=N<;>simp [h]
 refine seq (ex_for (xs:=ps) (B:=IsN) (λp m cm m' cm'=>∃ v,IsN p v/\m'=up m (sO "pred") v/\cm'=cm)
  (λi b' m' cm' s'=>Le bc b'/\m' (sO "self")=some (.ref x)/\m' (sO "node")=some (.int N t)/\
   Gr w s'.heap d NA' EA' SA' (N+1) (λj=>if j=N then (ps.length:Int) else np j) (λj=>if j=N then [] else su j++List.replicate ((ps.take i).count j) N))
  I7 (Src.tuple ok'.hd (Yd.namV (I7.fs.var (x:=sO "predecessors") (v:=.ref s.heap.objs.size) rfl rfl (by simp [up];exact B 2 _ _ rfl))) (Tc.at λo e=>l5.get _ _ e) hv)
  (λs' k=>⟨l5,by simp [up];exact B 0 _ _ rfl,by simp [up];exact B 1 _ _ rfl,(G7.le k.le).congr (λ_ _=>rfl) λi _=>by simp⟩)
  (λp v s' m' cm' hp hB hs' F'=>(asg_loc F' rfl rfl).to λ_ s'' q=>e0_2 q.1 (e2_2 _ _ q.2 (e1_3 v hB rfl rfl)))
  λi p Ia b' m1 cm1 s1' m2 cm2 s2' hi hl' Iin hIX _ hJ E12 hK I8=>?_) λfl s9 q=>?_
 ·refine byC0 λzn=>?_
  refine q0_4 hJ λlb hm1 hm2 Gi=>?_;clear hJ
  refine q1_3 hK λv z1 z3 z4=>?_;clear hK;refine q1_1 z1 λt' z2=>?_;clear z1;subst z2;subst z3;rcases z4.symm with rfl
  refine zn ?_;clear zn
  have hpN:p<N:=hps p (List.mem_of_getElem? hi)
  have notIa:∀ c∈gA d NA' EA' SA' (N+1),c≠Ia:=λc hc z=>by
   rcases memN c hc with h | h
   ·exact hIX (z▸by simp [h])
   ·exact hIX (z▸List.mem_append_left _ h)
  have Gj:=Gi.get (h':=s2'.heap) λc hc o e=>E12.get c o (λhm=>by
   rcases zC hm with h | h
   ·exact notIa c hc h
   ·exact ftG c hc h) e
  refine seqn (ex_asgM (Y:=[]) (Φ:=λv s'=>v=.ref (NA' p)) I8 rfl rfl (λa ha=>by cases ha)
   (eval_meth I8.le (I8.fs.var (x:=sO "self") (v:=.ref x) rfl rfl (by simp [up];exact hm1)) (Sc.le (lb.trans I8.le)).ts (Ic.le (lb.trans I8.le)) C.gni (Sc.le (lb.trans I8.le)).f94.choose_spec.choose_spec (C.mN0 _ (by simp)) (C.mN0 _ (by simp)) hg tl4 (Yds.one (Yd.namI (I8.fs.var (x:=sO "pred") (v:=.int p t') rfl rfl (by simp [up])))) λvs' s3 k3 hvs=>?_) rfl) λs5' q=>?_
  ·refine v1 hvs λy1 ey a=>?_;subst ey
   refine byC0 λzn=>?_;refine q1_1 a λt' z1=>?_;clear a;subst z1;refine zn ?_;clear zn
   refine (gni_old (n:=n+3) ok' (Sc.le ((lb.trans I8.le).trans k3.le)) C (Ic.le ((lb.trans I8.le).trans k3.le)) h2 (Gj.le k3.le) (S.nmod (off d (by simp [gA]))) (by omega:p<N+1)).to λv s4 q=>?_
   exact⟨(k3.trans q.1).ev,(λc hc=>by cases hc),q.2⟩
  refine byC0 λzn=>?_;refine q3_3 q λv s4' b4' E24 z1 z2=>?_;clear q;subst z1;refine q0_4 z2 λE45' l4' I9 z3=>?_;clear z2;clear z3;refine zn ?_;clear zn
  skip
  have G9:=Gj.get (h':=s5'.heap) λc hc o e=>E45'.get c o (ftG c hc) (E24.get c o (by simp) e)
  refine byC0 λzn=>?_
  refine q1_2 (G9.list p (by omega)) λws hw hpw=>?_
  have xp:=G9.info p (by omega)
  refine q2_1 (xp.obj) λt1 t2 xq=>?_
  refine zn ?_;clear zn
  rw [if_neg (by omega)] at hpw
  have hwl:ws.length<=10100:=by
   have e:=hpw.length
   rw [List.length_append,List.length_replicate] at e
   have e2:=hsu p hpN
   have e3:(ps.take i).count p<=(ps.take i).length:=List.count_le_length
   rw [List.length_take] at e3
   omega
  have hs9:=(lb.trans l4').trans I9.le
  have hSX:SA' p∈Ia::([a,e,l]++(gA d NA EA SA N++[])):=by
   rcases memN (SA' p) (mem_gA.mpr (.inr (e1_2 p (by omega) (.inr (.inr rfl))))) with h | h
   ·simp [h]
   ·exact zT (List.mem_append_left _ h)
  refine seqn (ex_append I9.le (Yd.slt (Sc.le hs9).k C.nk.su (inst_ni xq xp.dict) rfl rfl (Yd.namV (I9.fs.var (x:=sO "pred_info") (v:=.ref (NA' p)) rfl rfl (by simp [up]))) (λ_=>rfl)) (Yd.namI (I9.fs.var (x:=sO "node") (v:=.int N t) rfl rfl (by simp [up];exact hm2))) hw (by rw [sizeLine_eq,List.size_toArray];omega)) λs6' q=>?_
  refine byC0 λzn=>?_
  refine s2_4 q λE56 v s5'' k5 hP E56' hw'=>?_;clear q
  refine q1_1 (hP _ (I9.le.trans k5.le) (Nw.self _ _)) λtn z1=>?_;subst z1
  refine zn ?_;clear zn
  refine nil_ (e0_2 (.inl rfl) (e3_7 b4' _ _ l4' ?_ (I9.ev' E56 (λc hc=>.inr (by rw [zS hc];exact hSX)) (I9.fs.get λc hc o e=>E56.get c o (λz=>I9.apart _ hSX (zS z▸hc)) e) (λc _ hc=>by rw [zS hc];refine q1_1 hw' λo q=>?_;clear hw';exact⟨_,q⟩)) (lb.trans l4') (by simp [up];exact hm1) (by simp [up];exact hm2) ?_))
  ·refine ((E24.mono λa ha=>by cases ha).trans (E45'.mono λa ha=>List.mem_append_left _ ha)).trans (E56.mono λc hc=>?_)
   rw [zS hc]
   rcases zC hSX with h | h
   ·exact absurd h (notIa _ (mem_gA.mpr (.inr (e1_2 p (by omega) (.inr (.inr rfl))))))
   ·exact List.mem_append_right _ h
  ·refine (G9.app (p:=p) (l:=(su p++List.replicate ((ps.take i).count p) N)++[N]) (by omega) (λc o hc e=>E56.get c o (by simpa using hc) e) (e1_2 (ws++[.int N tn]) (by simpa using hw') (Paired.app hpw (.cons ⟨tn,rfl⟩ .nil)))).congr (λ_ _=>rfl) λj hj=>?_
   rw [List.take_add_one,hi,Option.toList_some,List.count_append]
   by_cases h1:j=N
   ·subst h1;simp;omega
   ·by_cases h2:j=p
    ·subst h2;simp [h1,List.replicate_succ']
    ·have h3:p≠j:=λz=>h2 z.symm
     simp [h1,h2,List.count_singleton,h3]
 ·refine byC0 λzn=>?_;refine q0_2 q λz1 z2=>?_;clear q;subst z1;refine q5_9 z2 λIa b' m' cm' s8 l' I9 hIf hIX hIn I8 z3 E89 E79=>?_;clear z2;refine q0_4 z3 λlb hm1 hm2 G8=>?_;clear z3;refine zn ?_;clear zn
  have hn:∀ c,s2.heap.get? c=none->s.heap.get? c=none:=λc hc=>(lH.trans (I1.le.trans k2.le)).none hc
  refine nil_ (e0_3 rfl ⟨?_,λc o hc e'=>?_⟩ (e3_4 a e l (hn a na) (hn e ne) (hn l nl) ?_))
  ·refine q2_1 (I9.same) λh' tk q=>?_
   exact e2_1 h' tk q
  ·refine I9.le.get c o (lb.get c o ?_)
   rw [← hbc]
   exact hideAll_get _ (lH.get c o e') hc
  ·subst hNA hEA hSA
   refine (G8.get (h':=s9.heap) λc hc o e'=>E89.get c o (λhm=>?_) e').congr (λ_ _=>rfl) λj _=>by rw [List.take_length]
   have z:=zS hm
   rcases memN c hc with h | h
   ·exact hIX (z▸by simp [h])
   ·exact hIX (z▸List.mem_append_left _ h)
theorem zall:∀ p,zR p:=all1 zaux
end
end Z1
theorem add_code {w A s mg mb mN K x dx d mA NA EA SA N np su n t b₀ ps vs}:Z1.zQ w A s mg mb mN K x dx d mA NA EA SA N np su n t b₀ ps vs:=Z1.zall ((((w,A),(s,(mg,mb))),((mN,(K,x)),(dx,(d,mA)))),(((NA,EA),(SA,(N,np))),((su,(n,t)),(b₀,(ps,vs)))))
noncomputable def BW (h:Heap) (m it:Addr):Prop:=h.get? m=some { cls:=.type "method-wrapper",data:=.fields #[.builtin "list_iterator.__next__",.ref it] }
theorem check_bw {it:Addr}:checkBoundCall "list_iterator.__next__" ⟨[.ref it],[]⟩=pure ():=by first | kernel_rfl | rfl
theorem quiet_bw {a:Args}:(Code.builtin "list_iterator.__next__" a).quiet=true:=Code.quiet_builtin _ (by decide +kernel)
section
variable {w:World} {A:Around} {s:Shared}
theorem call_bw {m it:Addr} {Q:Value->Shared->Prop} {E:Value->Shared->Prop} (ho:BW s.heap m it)
  (h:wpAny (model Pg w) A.in1 (Builtin.«list_iterator.__next__» ⟨[.ref it],[]⟩) (λfin s'=>match fin with | .done (.ret v)=>Q v s' | _=>False) E s):wpAny (model Pg w) A (call (.ref m) []) Q E s:=by
 refine wpAny_call (codeAny_of_tree ?_)
 show wpAny _ A.in1 (callAny (.ref m) ⟨[],[]⟩) _ _ s
 simp only [callAny]
 refine wpAny_bind (wpAny_load ho ?_)
 simp only [show (Value.type "method-wrapper" == Value.type "method" || Value.type "method-wrapper" == Value.type "builtin_function_or_method" || Value.type "method-wrapper" == Value.type "method-wrapper")=true by decide,if_true]
 show wpAny _ _ (if (Value.type "method-wrapper" != Value.type "method")=true then (checkBoundCall "list_iterator.__next__" ⟨[.ref it],[]⟩ >>= λ_=>again (.builtin "list_iterator.__next__" ⟨[.ref it],[]⟩)) else again (.call (.builtin "list_iterator.__next__") ⟨[.ref it],[]⟩)) _ _ _
 rw [if_pos (by decide)]
 refine wpAny_bind (wpAny_of_eq (a:=()) check_bw ?_)
 refine wpAny_pure ?_
 refine⟨quiet_bw,codeAny_builtin entry_listiter_next (wpAny_mono h (λfin s' z=>?_) λ_ _ z=>z)⟩
 rcases fin with (_ | _ | _ | _) | _<;>first | exact z | exact z.elim
theorem next_item {m it l:Addr} {i:Nat} {items:Array Value} {x:Value} (ho:BW s.heap m it) (hit:s.heap.IsListIter it l i) (hl:s.heap.IsList l items) (hx:items[i]?=some x) :
  Wp w A (call (.ref m) []) (λv s'=>v=x/\Ev [it] s s'/\s'.heap.IsListIter it l (i+1)) s:=by
 refine byC0 λzn=>?_
 refine q1_3 (id hit) λo hoo hc hd=>?_
 refine q1_3 hl λol hol _ z1=>?_;clear hl;refine q1_1 z1 λnl hdl=>?_;clear z1
 refine zn ?_;clear zn
 refine call_bw ho ?_
 show wpAny _ _ (field (.ref it) 0 >>= _) _ _ s
 refine wpAny_bind (wpAny_field hoo hd (x:=.ref l) rfl ?_)
 show wpAny _ _ (if (Value.ref l == Value.none)=true then _ else _) _ _ s
 rw [if_neg (show ¬ ((Value.ref l == Value.none)=true) from Bool.false_ne_true)]
 show wpAny _ _ (field (.ref it) 1 >>= _) _ _ s
 refine wpAny_bind (wpAny_field hoo hd (x:=.int i 0) rfl ?_)
 show wpAny _ _ (seqItems? (.ref l) >>= _) _ _ s
 refine wpAny_bind (wpAny_seqItems hol hdl ?_)
 simp only [Int.toNat_natCast,hx]
 refine wpAny_bind (wpAny_setField hoo hd (by simp) (wpAny_pure ⟨rfl,⟨e2_1 _ _ rfl,λc o' hc' e=>?_⟩,?_⟩))
 ·exact (Heap.get?_update_ne _ _ _ _ (by simpa using hc')).trans e
 ·exact e1_3 _ (Heap.get?_update_self _ hoo (Obj.isFreed_of_fields (Obj.data_mapFields hd _))) ((Obj.cls_mapFields ..).trans hc) (by
   rw [Obj.data_mapFields hd];simp [rawInt])
noncomputable def NewStop (s s':Shared) (e:Addr):Prop:=s.heap.get? e=none/\∃ vs,s'.heap.get? e=some { cls:=.type "StopIteration",data:=.fields vs }/\vs[1]?=some .none
theorem next_end {m it l:Addr} {i:Nat} {items:Array Value} {Q:Value->Shared->Prop} {E:Value->Shared->Prop} (hh:A.handled=none) (ho:BW s.heap m it) (hit:s.heap.IsListIter it l i) (hl:s.heap.IsList l items) (hx:items[i]?=none)
  (h:∀ e s',Ev [it] s s'->NewStop s s' e->(∃ o,s'.heap.get? it=some o)->E (.ref e) s'):wpAny (model Pg w) A (call (.ref m) []) Q E s:=by
 refine byC0 λzn=>?_
 refine q1_3 (id hit) λo hoo hc hd=>?_
 refine q1_3 hl λol hol _ z1=>?_;clear hl;refine q1_1 z1 λnl hdl=>?_;clear z1
 refine zn ?_;clear zn
 refine call_bw ho ?_
 show wpAny _ _ (field (.ref it) 0 >>= _) _ _ s
 refine wpAny_bind (wpAny_field hoo hd (x:=.ref l) rfl ?_)
 show wpAny _ _ (if (Value.ref l == Value.none)=true then _ else _) _ _ s
 rw [if_neg (show ¬ ((Value.ref l == Value.none)=true) from Bool.false_ne_true)]
 show wpAny _ _ (field (.ref it) 1 >>= _) _ _ s
 refine wpAny_bind (wpAny_field hoo hd (x:=.int i 0) rfl ?_)
 show wpAny _ _ (seqItems? (.ref l) >>= _) _ _ s
 refine wpAny_bind (wpAny_seqItems hol hdl ?_)
 simp only [Int.toNat_natCast,hx]
 refine wpAny_bind (wpAny_rule (wpAny_bind (wpAny_setField hoo hd (by simp) ?_)))
 show wpAny _ _ (newExc (.type "StopIteration") [] >>= _) _ _ _
 refine wpAny_bind ?_
 simp only [newExc,newTuple]
 refine wpAny_bind (wpAny_newObj_type ?_ (by size_fits))
 refine wpAny_bind (m:=firstArgMember _ _) (wpAny_of_eq (a:=Value.none) (by first | rfl | (simp only [firstArgMember];rfl)) ?_)
 refine wpAny_newObj_type ?_ (by size_fits)
 simp only [raiseNew]
 refine wpAny_bind (wpAny_handled ?_)
 rw [show A.in1.handled=none from hh]
 refine wpAny_bind (wpAny_pure (wpAny_throw ?_))
 have hsz:(s.heap.update it (Obj.mapFields (·.setIfInBounds 0 Value.none))).objs.size=s.heap.objs.size:=Heap.size_after_update ..
 refine h _ _ ⟨e2_1 _ _ rfl,λc o' hc' e=>?_⟩ (e0_2 ?_ (e1_2 _ (Heap.get?_push_size _ rfl) rfl)) ?_
 ·exact Heap.get?_push_of_some _ (Heap.get?_push_of_some _ ((Heap.get?_update_ne _ _ _ _ (by simpa using hc')).trans e))
 ·refine none_ge ?_
  rw [Heap.size_push]
  omega
 ·exact⟨_,Heap.get?_push_of_some _ (Heap.get?_push_of_some _ (Heap.get?_update_self _ hoo (Obj.isFreed_of_fields (Obj.data_mapFields hd _))))⟩
end
section
open PySem PySem.Calls PyProof.Rows PySem.W Builtin Builtin.ObjectAttr
theorem li_ga:typeLookup (.type "list_iterator") "__getattribute__"=pure (some (.builtin "object.__getattribute__")):=by rw [typeLookup_type,builtinLookup_eq_fast];kernel_rfl
theorem li_gh:typeLookup (.type "list_iterator") "__getattr__"=pure none:=by rw [typeLookup_type,builtinLookup_eq_fast];kernel_rfl
theorem li_nx:typeLookup (.type "list_iterator") (sO "__next__")=pure (some (.builtin "list_iterator.__next__")):=by rw [typeLookup_type,builtinLookup_eq_fast];kernel_rfl
theorem ga_slot:Slot "list_iterator" "__getattribute__" "object.__getattribute__":=
 .of (owner:="object") (n:="__getattribute__") (by rw [typeLookup_type,builtinLookup_eq_fast];kernel_rfl) (by decide +kernel) (by decide +kernel) (by decide +kernel)
  (by first | exact .inl (by decide +kernel) | exact .inr (by decide +kernel)) (by rw [isSubtype_type];kernel_rfl)
theorem ga_entry:entryFor table "object.__getattribute__"=some Builtin.«object.__getattribute__»:=by first | exact entryFor_of_fast (by kernel_rfl) | exact entryFor_of_tree (by kernel_rfl)
theorem ga_args (a b:Value):argsOk "object.__getattribute__" ⟨[a,b],[]⟩:=by unfold argsOk;kernel_rfl
theorem wd_type:typeOf (.builtin "list_iterator.__next__")=pure (.type "wrapper_descriptor"):=by show builtinType _=_;rw [builtinType_eq_fast];kernel_rfl
theorem wd_get:typeLookup (.type "wrapper_descriptor") "__get__"=pure (some (.builtin "wrapper_descriptor.__get__")):=by rw [typeLookup_type,builtinLookup_eq_fast];kernel_rfl
theorem wd_set:typeLookup (.type "wrapper_descriptor") "__set__"=pure none:=by rw [typeLookup_type,builtinLookup_eq_fast];kernel_rfl
theorem wd_del:typeLookup (.type "wrapper_descriptor") "__delete__"=pure none:=by rw [typeLookup_type,builtinLookup_eq_fast];kernel_rfl
theorem wd_slot:Slot "wrapper_descriptor" "__get__" "wrapper_descriptor.__get__":=
 .of (owner:="wrapper_descriptor") (n:="__get__") (by rw [typeLookup_type,builtinLookup_eq_fast];kernel_rfl) (by decide +kernel) (by decide +kernel) (by decide +kernel)
  (by first | exact .inl (by decide +kernel) | exact .inr (by decide +kernel)) (by rw [isSubtype_type];kernel_rfl)
theorem wd_entry:entryFor table "wrapper_descriptor.__get__"=some Builtin.«wrapper_descriptor.__get__»:=by first | exact entryFor_of_fast (by kernel_rfl) | exact entryFor_of_tree (by kernel_rfl)
theorem wd_args (a b c:Value):argsOk "wrapper_descriptor.__get__" ⟨[a,b,c],[]⟩:=by unfold argsOk;kernel_rfl
theorem li_sub:isSubtype (.type "list_iterator") (.type "list_iterator")=pure true:=by rw [isSubtype_type];kernel_rfl
section
variable {w:World} {A:Around} {s:Shared}
theorem get_next {it:Addr} {o:Obj} {vs:Array Value} {Q:Value->Shared->Prop} {E:Value->Shared->Prop} (ho:s.heap.get? it=some o) (hc:o.cls=.type "list_iterator") (hd:o.data=.fields vs) (hn:o.dict=none)
  (h:Q (.ref s.heap.objs.size) { s with heap:=s.heap.push { cls:=.type "method-wrapper",data:=.fields #[.builtin "list_iterator.__next__",.ref it] },toks:=s.toks+1 }) :
  wpAny (model Pg w) A (getAttr (.ref it) (sO "__next__") true) Q E s:=by
 refine byC0 λzn=>?_
 rcases s with ⟨hp,g,d,tk,os⟩
 rcases o with ⟨c,dct,dat,sl⟩
 refine zn ?_;clear zn
 dsimp only at ho hc hd hn h
 subst hc hd hn
 have hT:∀ tk',(⟨hp,g,d,tk',os⟩:Shared).TypeIs (.ref it) "list_iterator":=λ_=>e1_2 _ ho rfl
 have f1:=li_ga
 have f2:=li_gh
 have f3:=ga_slot.bind (.ref it)
 unfold getAttr getAttrBy
 repeat (any_goals (first | assumption | exact hT _ | ((with_reducible show wpAny _ _ (call (Value.builtin "object.__getattribute__") _ _) _ _ _);refine wpAny_call_entry ga_slot (hT _) ga_entry ?_ (ga_args _ _)) | wp_step))
 dsimp only
 have hW:∀ s:Shared,s.TypeIs (.builtin "list_iterator.__next__") "wrapper_descriptor":=λ_=>wd_type
 refine wpAny_of_eq li_nx (wpAny_bind ?_)
 show wpAny _ _ (specialOf (.builtin "list_iterator.__next__") "__get__") _ _ _
 refine wpAny_specialOf (hW _) wd_get (wpAny_bind ?_)
 unfold dataDescriptor? takesStores
 dsimp only
 refine wpAny_bind (wpAny_bind (wpAny_specialOf (hW _) wd_set ?_))
 dsimp only [Option.isSome]
 rw [if_neg Bool.false_ne_true]
 refine wpAny_bind (wpAny_specialOf (hW _) wd_del (wpAny_pure ?_))
 dsimp only [Option.isSome]
 rw [if_neg Bool.false_ne_true]
 refine wpAny_pure ?_
 dsimp only
 unfold ownThenClass inOwnDict ObjectAttr.ownDict loadHead instanceDict
 refine wpAny_bind (wpAny_bind (wpAny_bind (wpAny_loadPart_at ho ?_)))
 dsimp only
 refine wpAny_bind (wpAny_loadPart_at ho ?_)
 dsimp only
 rw [if_pos (by rfl)]
 refine wpAny_pure ?_
 show wpAny _ _ (pure none) _ _ _
 refine wpAny_pure ?_
 dsimp only
 unfold copiedAttributeGuard byTheClass
 dsimp only
 rw [if_neg (by decide)]
 refine wpAny_bind (wpAny_pure (wpAny_bind (wpAny_rule (wpAny_pure ?_))))
 dsimp only
 unfold bindTo
 dsimp only
 refine wpAny_bind (wpAny_holding (wpAny_call_entry wd_slot (hW _) wd_entry ?_ (wd_args _ _ _)))
 unfold Builtin.«wrapper_descriptor.__get__»
 refine wpAny_bind (wpAny_of_eq (a:=(.builtin "list_iterator.__next__",some (.ref it),some (.type "list_iterator"))) (by first | rfl | kernel_rfl) ?_)
 refine wpAny_bind ?_
 refine wpAny_bind (wpAny_of_eq (a:=(sO "__next__",Value.type "list_iterator")) (by first | rfl | kernel_rfl) ?_)
 refine wpAny_bind (wpAny_isInstance (hT _) li_sub ?_)
 rw [if_neg (by decide)]
 refine wpAny_pure ?_
 refine wpAny_bind (wpAny_newObj_type (wpAny_pure (e1_2 _ rfl (wpAny_pure (e1_2 _ rfl ?_)))))
 exact wpAny_pure h
theorem iter_next {b:Heap} {env:Env} {x:Str} {p q apos:Pos} {e:Expr} {l:Addr} {items:Array Value} (hb:Le b s.heap) (V:Var s.heap env x (.builtin "iter")) (he:Yd w A b s.heap env e (IsV (.ref l))) (hl:s.heap.IsList l items) (hd:autoParam ((x == ("__debug__" : Str))=false) auD)
  (hst:autoParam (starEach [e] env=(false,eval e env)::starEach [] env) auR)
  (hE:autoParam (eval (.Attribute (.Call (.Name x p) [e] [] q) (sO "__next__") apos) env=(do
   let o ← eval (.Call (.Name x p) [e] [] q) env
   standAt apos.atName
   let r ← holding [o] (getAttr o (sO "__next__") true)
   letTemporaryGo (.Call (.Name x p) [e] [] q) o r
   pure r)) auK) :
  Wp w A (eval (.Attribute (.Call (.Name x p) [e] [] q) (sO "__next__") apos) env) (λv s'=>Kp s s'/\∃ m it,v=.ref m/\BW s'.heap m it/\s'.heap.IsListIter it l 0/\s.heap.get? m=none/\s.heap.get? it=none) s:=by
 refine Attribute_any_ ?_ hE
 refine PyProof.Rows.Call_Name rfl (wpAny_Name (V w A s _ _ (Le.refl _) (callWith_builtin1 ((Yds.one he hst s q hb (Le.refl _)).to λvs s1 k=>?_) hst)) hd)
 have q0:=k.2 s1.heap (hb.trans k.1.le) (Nw.self _ _)
 refine v1 q0 λy1 ey a=>?_;subst ey
 cases a
 have hl1:s1.heap.IsList l items:=hl.at λo e=>k.1.le.get _ o e
 refine Calls.call_function_entry (by decide +kernel) (by decide +kernel) kdk_entry_iter (kdk_args_iter _) ?_
 unfold Builtin.«iter»
 refine wpAny_bind (m:=someArgs "iter" 1 2 _) (wpAny_of_eq (a:=[Value.ref l]) (by first | rfl | kernel_rfl) ?_)
 show wpAny _ _ (pyIter (.ref l) >>= _) _ _ _
 refine wpAny_bind (wpAny_pyIter_list hl1 (wpAny_pure (e1_2 _ rfl ?_)))
 have hit:(s1.heap.push { cls:=.type "list_iterator",data:=.fields #[.ref l,.int 0 0] }).get? s1.heap.objs.size=some { cls:=.type "list_iterator",data:=.fields #[.ref l,.int 0 0] }:=Heap.get?_push_size _ rfl
 refine get_next hit rfl rfl rfl ?_
 refine e0_2 (k.1.trans ⟨e2_1 _ _ rfl,(Le.push _ _).trans (Le.push _ _)⟩) (e2_5 _ s1.heap.objs.size rfl (Heap.get?_push_size _ rfl) (e1_3 _ (Heap.get?_push_of_some _ hit) rfl rfl) ?_ (k.1.le.none (get_size_none _)))
 refine k.1.le.none (none_ge ?_)
 rw [Heap.size_push]
 exact Nat.le_succ _
end
end
noncomputable def frs (l:List Env):List Addr:=l.filterMap (·.frame)
noncomputable def FrOk (h:Heap) (l:List Env):Prop:=∀ e∈l,e.scope.kind≠.module/\∃ L o,e.frame=some L/\h.get? L=some o/\∀ vs,o.data≠.fields vs
noncomputable def Upf (L:Addr) (s s':Shared):Prop:=∀ o,s.heap.get? L=some o->∃ sl,s'.heap.get? L=some { o with slots:=sl }
theorem Upf.trans {L:Addr} {s1 s2 s3:Shared} (x:Upf L s1 s2) (y:Upf L s2 s3):Upf L s1 s3:=λo e=>q1_1 (x o e) λ_ e1=>q1_1 (y _ e1) λsl e2=>⟨sl,e2⟩
theorem Ev.upf {X:List Addr} {s s':Shared} {L:Addr} (x:Ev X s s') (h:L∉X):Upf L s s':=λo e=>⟨o.slots,x.get L o h e⟩
theorem FrOk.up {s s':Shared} {l:List Env} (x:FrOk s.heap l) (h:∀ L∈frs l,Upf L s s'):FrOk s'.heap l:=λe he=>by
 refine byC0 λzn=>?_
 refine s2_3 (x e he) λhk L o hf ho hd=>?_
 refine q1_1 (h L (List.mem_filterMap.mpr (e1_2 e he hf)) o ho) λsl hs=>?_
 refine zn ?_;clear zn
 exact e0_2 hk (e2_3 L _ hf hs hd)
theorem FrOk.fun {h:Heap} {base:Heap}:∀ {l:List Env},FrOk h l->(∀ L∈frs l,base.get? L=none)->h.FunFrames base l
 | [],_,_=>trivial
 | env::r,x,hb=>by
  refine s2_3 (x env (zH ..)) λhk L o hf ho hd=>?_
  refine⟨hk,e2_4 L o hf (hb L (List.mem_filterMap.mpr (e1_2 env (zH ..) hf))) ho hd,FrOk.fun (λe he=>x e (zT he)) λL' hL'=>hb L' ?_⟩
  refine q1_2 (List.mem_filterMap.mp hL') λe he hf'=>?_
  exact List.mem_filterMap.mpr (e1_2 e (zT he) hf')
section
variable {w:World} {A:Around} {s:Shared} {env:Env} {outer:List Env}
theorem note_first {base:Heap} {L e:Addr} {oe:Obj} {vs:Array Value} {Q:Unit->Shared->Prop} {E:Value->Shared->Prop}
  (hfr:A.frames=some (env::outer)) (hl:s.heap.FunFrames base (env::outer)) (hf:env.frame=some L)
  (he:s.heap.get? e=some oe) (hkb:base.StaysIn s.heap) (hen:base.get? e=none) (hd:oe.data=.fields vs) (h1:vs[1]?=some .none)
  (h:∀ h',Heap.Left base (env::outer) e oe.cls s.heap h'->Q () { s with heap:=h' }) :
  wpAny (model Pg w) A (noteFrame (.ref e) env) (λ_ s2=>wpAny (model Pg w) A (setFlight (.ref e) none) Q E s2) E s:=by
 unfold noteFrame
 simp only [hf]
 refine wpAny_bind (wpAny_field he hd h1 ?_)
 rw [if_neg (by decide)]
 exact wpAny_newEntry hfr hl hf he hkb hen hd (Array.getElem?_eq_some_iff.mp h1).1 h
theorem stop_exc:isSubtype (.type "StopIteration") (.type "BaseException")=pure true:=by rw [isSubtype_type];kernel_rfl
theorem stop_meta:isSubtype (.type ((Manifest.find? "StopIteration").elim "type" λx=>x.metatype)) (.type "tuple")=pure false:=by rw [isSubtype_type];kernel_rfl
theorem stop_self:isSubtype (.type "StopIteration") (.type "StopIteration")=pure true:=by rw [isSubtype_type];kernel_rfl
theorem ex_try {body:List Stmt} {x:Str} {px hp pos:Pos} {b₀:Stmt} {suite:List Stmt} {Q:Flow->Shared->Prop} (hfr:A.frames=some (env::outer))
  (h:wpAny (model Pg w) A (execs body env) (λf s1=>match f with | .next=>Wp w A (execs [] env) Q s1 | f=>Q f s1)
   (λe s1=>∃ a vs,e=.ref a/\s1.heap.get? a=some { cls:=.type "StopIteration",data:=.fields vs }/\vs[1]?=some .none/\FrOk s1.heap (env::outer)/\
    ∀ s2,Ev (a::frs (env::outer)) s1 s2->(∀ L∈frs (env::outer),Upf L s1 s2)->
     wpAny (model Pg w) (A.mark (some (.ref a))) (eval (.Name x px) env) (λc s3=>c=.type "StopIteration"/\s3=s2) Bot s2/\
     ∀ s3,Ev (a::frs (env::outer)) s1 s3->(∀ L∈frs (env::outer),Upf L s1 s3)->Wp w (A.mark (some (.ref a))) (execs (b₀::suite) env) Q s3) s) :
  Wp w A (exec (.Try body [.ExceptHandler (some (.Name x px)) none (b₀::suite) hp] [] [] pos) env) Q s:=by
 refine wpAny_Try_except (wpAny_mono h (λ_ _ z=>z) λe s1 z=>?_)
 refine byC0 λzn=>?_
 refine q2_2 z λa vs z1 z2=>?_;clear z;subst z1;refine q0_4 z2 λhe h1 fr k=>?_;clear z2
 refine s2_3 (fr env (zH ..)) λhk L oL hf hoL hdL=>?_
 refine zn ?_;clear zn
 have haL:∀ L∈frs (env::outer),L≠a:=λL' hL' z=>by
  refine byC0 λzn=>?_
  refine q1_2 (List.mem_filterMap.mp hL') λe' he' hf'=>?_
  refine s2_3 (fr e' he') λ_ L'' o hf'' ho hd=>?_
  refine zn ?_;clear zn
  rw [hf'] at hf''
  cases hf''
  rw [z,he] at ho
  cases ho
  exact hd vs rfl
 have bn:∀ c∈a::frs (env::outer),(hideAll s1.heap (a::frs (env::outer))).get? c=none:=λc hc=>hideAll_none _ hc
 refine note_first (base:=hideAll s1.heap (a::frs (env::outer))) hfr (fr.fun λL' hL'=>bn _ (zT hL')) hf he (λc o q=>of_hideAll _ q) (bn a (zH ..)) rfl h1 λh' left=>?_
 refine byC0 λzn=>?_
 refine q0_4 left λlb _ z1 up=>?_;clear left;refine q5_9 z1 λoe vs' T oT ts e1 e2 e3 e4 e5 e6 e7 e8 e9=>?_;clear z1
 have E2:Ev (a::frs (env::outer)) s1 { s1 with heap:=h' }:=⟨e2_1 _ _ rfl,λc o hc q=>lb c o (hideAll_get _ q hc)⟩
 have U2:∀ L∈frs (env::outer),Upf L s1 { s1 with heap:=h' }:=λL' hL' o q=>by
  refine q1_2 (List.mem_filterMap.mp hL') λe' he' hf'=>?_
  refine s2_3 (fr e' he') λ_ L'' o' hf'' ho hd=>?_
  rw [hf'] at hf''
  cases hf''
  rw [q] at ho
  cases ho
  exact up L' o q hd
 refine q0_2 (k _ E2 U2) λkx ks=>?_
 refine zn ?_;clear zn
 refine wpAny_handleBy_builtin (X:="StopIteration") (T:="StopIteration") (b:=true) stop_exc stop_meta stop_self (wpAny_mono kx (λc s3 q=>?_) λ_ _ z=>z.elim)
 refine byC0 λzn=>?_;refine q0_2 q λz1 z2=>?_;clear q;subst z1;subst z2;refine zn ?_;clear zn
 refine⟨rfl,e1_2 _ e1 e2,?_⟩
 simp only [if_true]
 refine wpAny_setFlight_none (s:={ s1 with heap:=h' }) e1 e3 e4 e7 e8 (Array.getElem?_eq_some_iff.mp e9).1 ?_
 have hT1:∀ c o,s1.heap.get? c=some o->c∉a::frs (env::outer)->c≠T:=λc o q hc z=>by
  have:=hideAll_get (a::frs (env::outer)) q hc
  rw [z,e5] at this;cases this
 refine wpAny_mono (ks _ ⟨e2_1 _ _ rfl,λc o hc q=>?_⟩ λL' hL' o q=>?_) (λ_ _ z=>z) λ_ _ z=>z.elim
 ·exact (Heap.get?_update_other _ _ (hT1 c o q hc).symm).trans (E2.get c o hc q)
 ·refine q1_1 (U2 L' hL' o q) λsl hs=>?_
  refine⟨sl,(Heap.get?_update_other _ _ λz=>?_).trans hs⟩
  refine byC0 λzn=>?_
  refine q1_2 (List.mem_filterMap.mp hL') λe' he' hf'=>?_
  refine s2_3 (fr e' he') λ_ L'' o' hf'' ho hd=>?_
  refine zn ?_;clear zn
  rw [hf'] at hf''
  cases hf''
  rw [q] at ho
  cases ho
  rw [← z] at hs
  rw [e7] at hs
  cases hs
  exact hd ts e8
end
section
variable {w:World} {A:Around} {s:Shared} {b h:Heap} {env:Env}
theorem Yd.dsub {o:Expr} {n:Str} {p pos:Pos} {d:Addr} {kvs:List (Int×Value)} {k:Int} {v:Value} (hd:h.DictOf (intKind Pg w) d kvs) (ho:Yd w A b h env o (IsV (.ref d))) (hn:Yd w A b h env (.Name n p) (IsI k)) (hv:valueAt kvs k=some v)
  (ht:autoParam (∀ o' r,letTemporaryGo o o' r=pure ()) auI2):Yd w A b h env (.Subscript o (.Name n p) pos) (IsV v):=λs hb hs=>by
 refine Subscript_Name ((ho s hb hs).to λu s1 q=>(hn s1 (hb.trans q.1.le) (hs.trans q.1.le)).to λi s2 q2=>?_) ht
 have e1:u=.ref d:=q.2 _ (hb.trans q.1.le) (Nw.self _ _)
 subst e1
 refine q1_1 (q2.2 s2.heap (hb.trans (q.1.le.trans q2.1.le)) (Nw.self _ _)) λt z1=>?_;subst z1
 have hd2:s2.heap.DictOf (intKind Pg w) d kvs:=hd.keep (hs.trans (q.1.le.trans q2.1.le)).get
 refine e2_3 ("dict") ("dict.__getitem__") slot_dict_getitem.lookup hd2.typeIs ?_
 exact wpAny_getItem_of (knd:=intKind Pg w) (k:=k) (by simp [intKind,Value.isInt]) hd2.mapOf hv ⟨(q.1.trans q2.1).trans (Kp.tok s2 _),λ_ _ _=>rfl⟩
theorem Yd.lsub {o:Expr} {n:Str} {p pos:Pos} {l:Addr} {items:Array Value} {k:Nat} {v:Value} (hl:h.IsList l items) (ho:Yd w A b h env o (IsV (.ref l))) (hn:Yd w A b h env (.Name n p) (IsI (k:Int))) (hv:items[k]?=some v) (hk:k<2 ^ 62)
  (ht:autoParam (∀ o' r,letTemporaryGo o o' r=pure ()) auI2):Yd w A b h env (.Subscript o (.Name n p) pos) (IsV v):=λs hb hs=>by
 refine Subscript_Name ((ho s hb hs).to λu s1 q=>(hn s1 (hb.trans q.1.le) (hs.trans q.1.le)).to λi s2 q2=>?_) ht
 have e1:u=.ref l:=q.2 _ (hb.trans q.1.le) (Nw.self _ _)
 subst e1
 refine q1_1 (q2.2 s2.heap (hb.trans (q.1.le.trans q2.1.le)) (Nw.self _ _)) λt z1=>?_;subst z1
 have hl2:s2.heap.IsList l items:=hl.at λo e=>(hs.trans (q.1.le.trans q2.1.le)).get _ _ e
 refine e2_3 ("list") ("list.__getitem__") slot_list_getitem.lookup (q1_3 hl2 λo e c _=>(e1_2 o e c)) ?_
 exact wpAny_getItem_list hl2 (by omega) (by omega) (by simpa using hv) ⟨q.1.trans q2.1,λ_ _ _=>rfl⟩
theorem Yd.last {o:Expr} {k:Nat} {p1 p2 pos:Pos} {l:Addr} {items:Array Value} {v:Value} (hl:h.IsList l items) (ho:Yd w A b h env o (IsV (.ref l))) (hv:items[items.size-1]?=some v)
  (ht:autoParam (∀ o' r,letTemporaryGo o o' r=pure ()) auI2):Yd w A b h env (.Subscript o (.UnaryOp .USub (.Constant (.int 1) k p1) p2) pos) (IsV v):=λs hb hs=>by
 refine Subscript_UnaryOp ((ho s hb hs).to λu s1 q=>wpAny_UnaryOp (wpAny_Constant_int (P.neg_int ?_))) ht
 have e1:u=.ref l:=q.2 _ (hb.trans q.1.le) (Nw.self _ _)
 subst e1
 have hpos:0<items.size:=by
  have:=(Array.getElem?_eq_some_iff.mp hv).1;omega
 have hl2:s1.heap.IsList l items:=hl.at λo e=>(hs.trans q.1.le).get _ _ e
 refine e2_3 ("list") ("list.__getitem__") slot_list_getitem.lookup (q1_3 hl2 λo e c _=>(e1_2 o e c)) ?_
 refine wpAny_getItem_list_neg hl2 (by decide) (by omega) (by decide) ?_ ⟨q.1.trans ((Kp.tok s1 _).trans (Kp.tok _ _)),λ_ _ _=>rfl⟩
 rw [← hv]
 congr 1
 omega
theorem Td.inSet {l r:Expr} {p:Pos} {a:Addr} {S:Int->Bool} {n:Nat} {k:Int} (x:Yd w A b h env l (IsI k)) (y:Yd w A b h env r (IsV (.ref a))) (hS:h.SetOf (intKind Pg w) a S n) (hm:autoParam (behindInMarks .In r=false) auR):Td w A b h env (.Compare l [.In] [r] p) (S k):=
 Td.cmp x y (λu v s _ hs hu hv=>by
  refine q1_1 hu λt z1=>?_;clear hu;subst z1
  cases hv
  refine wpAny_inSet_of (knd:=intKind Pg w) (k:=k) (by simp [intKind,Value.isInt]) rfl (n:=n) (S:=S) ?_ ⟨Kp.tok s _,rfl⟩
  refine q4_2 hS λo es ep t' e r=>?_;clear hS
  exact e4_2 o es ep t' (hs.get _ _ e) r) hm
theorem Td.inDict {l r:Expr} {p:Pos} {a:Addr} {kvs:List (Int×Value)} {k:Int} (x:Yd w A b h env l (IsI k)) (y:Yd w A b h env r (IsV (.ref a))) (hd:h.DictOf (intKind Pg w) a kvs) (hds:(a == sysModules)=false) (hm:autoParam (behindInMarks .In r=false) auR):Td w A b h env (.Compare l [.In] [r] p) (valueAt kvs k).isSome:=
 Td.cmp x y (λu v s _ hs hu hv=>by
  refine q1_1 hu λt z1=>?_;clear hu;subst z1
  cases hv
  exact wpAny_in_of (knd:=intKind Pg w) (k:=k) (by simp [intKind,Value.isInt]) hds (hd.keep hs.get).mapOf ⟨Kp.tok s _,rfl⟩) hm
theorem Td.lst {x:Str} {p:Pos} {l:Addr} {items:Array Value} (V:Var h env x (.ref l)) (hl:h.IsList l items) (hsz:items.size<2 ^ 62) (hd:autoParam ((x == ("__debug__" : Str))=false) auD)
  (he:autoParam (isTrue (.Name x p) env (eval (.Name x p) env)=(do let v ← eval (.Name x p) env;standAt (Expr.Name x p).pos;holding [v] (truthy v))) auR):Td w A b h env (.Name x p) (!items.isEmpty):=λs hb hs=>by
 refine isTrue_plain (wpAny_Name (V w A s _ _ hs ?_) hd) he
 exact wpAny_truthy_list (hl.at λo e=>hs.get _ _ e) (by omega) ⟨rfl,(Kp.tok s _)⟩
theorem ex_setadd {o e:Expr} {apos pos p:Pos} {a:Addr} {S:Int->Bool} {n:Nat} {k:Int} (hb:Le b s.heap) (ho:Yd w A b s.heap env o (IsV (.ref a))) (he:Yd w A b s.heap env e (IsI k)) (hS:s.heap.SetOf (intKind Pg w) a S n) (hn:n+1<4096)
  (hbase:autoParam (attributeBase o (sO "add") env (eval o env)=eval o env) auR) (hline:autoParam ((apos.endLine == pos.line)=true) auR) (hst:autoParam (backTo pos (starEach [e] env)=[(false,eval e env)]) auR)
  (hi:autoParam (interactive env=false) auR) (hs:autoParam (swapsWith (.Call (.Attribute o (sO "add") apos) [e] [] pos) none p.line env=pure false) auR) :
  Wp w A (exec (.Expr (.Call (.Attribute o (sO "add") apos) [e] [] pos) p) env) (λfl s'=>fl=.next/\Ev [a] s s'/\s'.heap.SetOf (intKind Pg w) a (λk'=>S k' || decide (k'=k)) (if S k then n else n+1)) s:=by
 refine wpAny_Expr_any ?_ hi hs
 refine wpAny_Call_method_lateS hbase (by rw [hst];rfl) hline ((ho s hb (Le.refl _)).to λu s1 q=>?_)
 have e1:u=.ref a:=q.2 _ (hb.trans q.1.le) (Nw.self _ _)
 subst e1
 have up:∀ {s s':Shared},Kp s s'->s.heap.SetOf (intKind Pg w) a S n->s'.heap.SetOf (intKind Pg w) a S n:=λk hS=>by
  refine q4_2 hS λo es ep t' e r=>?_;clear hS
  exact e4_2 o es ep t' (k.le.get _ _ e) r
 have h1:=up q.1 hS
 refine e2_6 ("set") ("set.add") F.plainAttrs_set F.slot_set_add F.type_set_add h1.typeIs h1.noDict ?_
 rw [hst]
 refine Calls.callWith_builtin rfl (Calls.evalArgs_plain (spliced_cons ((he s1 (hb.trans q.1.le) q.1.le).to λv s2 q2=>spliced_nil ?_)))
 refine byC0 λzn=>?_;refine q1_1 (q2.2 s2.heap (hb.trans (q.1.le.trans q2.1.le)) (Nw.self _ _)) λt z1=>?_;subst z1;refine zn ?_;clear zn
 refine call_set_add (knd:=intKind Pg w) (k:=k) (by simp [intKind,Value.isInt]) rfl (up q2.1 h1) (by show n+1<scanBound;exact hn) λh' hs' hS'=>?_
 exact⟨rfl,(q.1.trans q2.1).ev.trans ⟨e2_1 _ _ rfl,λc o hc e=>hs'.extBut c o (λz=>hc (by simp [z])) e⟩,hS'⟩
theorem eval_pop {o:Expr} {apos pos:Pos} {l:Addr} {items:Array Value} {y:Value} (hb:Le b s.heap) (ho:Yd w A b s.heap env o (IsV (.ref l))) (hl:s.heap.PlainList l items) (hy:items[items.size-1]?=some y) (hsz:items.size<=sizeLine)
  (hbase:autoParam (attributeBase o (sO "pop") env (eval o env)=eval o env) auR) (hline:autoParam ((apos.endLine == pos.line)=true) auR) (hst:autoParam (backTo pos (starEach [] env)=[]) auR) :
  Wp w A (eval (.Call (.Attribute o (sO "pop") apos) [] [] pos) env) (λv s'=>v=y/\Ev [l] s s'/\s'.heap.PlainList l (items.eraseIdxIfInBounds (items.size-1))) s:=by
 refine wpAny_Call_method_lateS hbase (by rw [hst];rfl) hline ((ho s hb (Le.refl _)).to λu s1 q=>?_)
 have e1:u=.ref l:=q.2 _ (hb.trans q.1.le) (Nw.self _ _)
 subst e1
 refine q1_1 (hl.at λo e=>q.1.le.get _ o e) λn e=>?_
 refine e2_6 ("list") ("list.pop") F.plainAttrs_list F.slot_list_pop F.type_list_pop (e1_2 _ e rfl) (λa z=>by cases z;exact e1_2 _ e rfl) ?_
 rw [hst]
 refine P.pop_list e hy ⟨rfl,q.1.ev.trans ⟨e2_1 _ _ rfl,λc o hc e'=>(Heap.get?_update_ne _ _ _ _ (by simpa using hc)).trans e'⟩,?_⟩ hsz
 have:=Heap.get?_update_self (Obj.mapSeq λxs=>xs.eraseIdxIfInBounds (items.size-1)) e rfl
 exact⟨_,this⟩
theorem ex_pop {o:Expr} {apos pos p:Pos} {l:Addr} {items:Array Value} {y:Value} (hb:Le b s.heap) (ho:Yd w A b s.heap env o (IsV (.ref l))) (hl:s.heap.PlainList l items) (hy:items[items.size-1]?=some y) (hsz:items.size<=sizeLine)
  (hbase:autoParam (attributeBase o (sO "pop") env (eval o env)=eval o env) auR) (hline:autoParam ((apos.endLine == pos.line)=true) auR) (hst:autoParam (backTo pos (starEach [] env)=[]) auR)
  (hi:autoParam (interactive env=false) auR) (hs:autoParam (swapsWith (.Call (.Attribute o (sO "pop") apos) [] [] pos) none p.line env=pure false) auR) :
  Wp w A (exec (.Expr (.Call (.Attribute o (sO "pop") apos) [] [] pos) p) env) (λfl s'=>fl=.next/\Ev [l] s s'/\s'.heap.PlainList l (items.eraseIdxIfInBounds (items.size-1))) s:=
 wpAny_Expr_any ((eval_pop hb ho hl hy hsz hbase hline hst).to λv s' q=>⟨rfl,q.2⟩) hi hs
theorem del_dict {d:Addr} {kvs:List (Int×Value)} {k:Int} {t:Tok} (hd:s.heap.DictOf (intKind Pg w) d kvs) (hv:(valueAt kvs k).isSome=true) (hsz:kvs.length<=sizeLine) :
  Wp w A (delItem (.ref d) (.int k t)) (λ_ s'=>Ev [d] s s'/\s'.heap.DictOf (intKind Pg w) d (without kvs k)) s:=by
 refine wpAny_delItem_slot hd.typeIs (by decide) F.slot_dict_delitem ?_
 refine call_meetsIn F.slot_dict_delitem hd.typeIs F.entry_dict_delitem (F.args_dict_delitem_2 _ _) (meets_dict_delitem_pairs (intKind Pg w) d (k:=k) (by simp [intKind,Value.isInt])) ?_
 exact e1_4 kvs hd hsz hv (λh' hd' hs'=>⟨⟨e2_1 _ _ rfl,λc o hc e=>hs'.extBut c o (λz=>hc (by simp [z])) e⟩,hd'⟩)
end
section
variable {w:World} {A:Around} {s:Shared} {b h:Heap} {env:Env}
theorem callWith_bw {pos:Pos} {m it:Addr} {Q:Value->Shared->Prop} {E:Value->Shared->Prop} (ho:BW s.heap m it) (h:wpAny (model Pg w) A (call (.ref m) []) Q E s):wpAny (model Pg w) A (callWith pos (.ref m) [] [] []) Q E s:=by
 unfold callWith
 refine wpAny_bind (wpAny_holding (PySem.evalArgs_none ?_))
 refine wpAny_bind (wpAny_standAt ?_)
 simp only [List.any_nil,Bool.or_false]
 refine wpAny_bind (m:=keeperOf (.ref m)) ?_
 unfold keeperOf
 refine wpAny_bind (wpAny_load ho ?_)
 simp only [show (Value.type "method-wrapper" != Value.type "method")=true by decide,show (Value.type "method-wrapper" == Value.type "builtin_function_or_method" || Value.type "method-wrapper" == Value.type "method-wrapper")=true by decide,if_true]
 refine wpAny_pure ?_
 exact wpAny_bind (wpAny_mono h (λr s2 hr=>wpAny_bind (wpAny_holding (wpAny_point (wpAny_pure hr)))) λ_ _ x=>x)
theorem Call_sub0 {o i:Expr} {p pos:Pos} {f:Value} {Q:Value->Shared->Prop} {E:Value->Shared->Prop} (hb:Le b s.heap) (he:Yd w A b s.heap env (.Subscript o i p) (IsV f)) (h:∀ s',Kp s s'->wpAny (model Pg w) A (callWith pos f [] [] []) Q E s')
  (hE:autoParam (eval (.Call (.Subscript o i p) [] [] pos) env=(do callWith pos (← eval (.Subscript o i p) env) [] [] [])) auR):wpAny (model Pg w) A (eval (.Call (.Subscript o i p) [] [] pos) env) Q E s:=by
 rw [hE]
 refine wpAny_bind (Wp.to (he s hb (Le.refl _)) λv s' q=>?_)
 have e1:v=f:=q.2 _ (hb.trans q.1.le) (Nw.self _ _)
 subst e1
 exact h s' q.1
theorem Itr.keys {d:Addr} {kvs:List (Int×Value)} (hA:A.handled=none) (hd:h.DictOf (intKind Pg w) d kvs) (hds:(d == sysModules)=false) (hs:Le h s.heap):Itr w A h (.ref d) kvs.length (λj v=>∃ b,(kvs.map (·.1))[j]?=some b/\∃ t,v=.int b t) s:=by
 refine q1_1 (hd.dictAt) λep hm=>?_
 have hm':s.heap.DictAt (intKind Pg w) d kvs ep:=hm.keep hs.get
 have hlt:d<s.heap.objs.size:=hm'.lt_size
 have hne:d≠s.heap.objs.size:=Nat.ne_of_lt hlt
 refine wpAny_pyIter_dict hds hm' ?_
 have W:=Walks.dictKeys (prog:=Pg) (w:=w) (A:=A) (knd:=intKind Pg w) hA s.heap.objs.size d hne kvs ep
 refine e3_8 s.heap.objs.size [s.heap.objs.size,d] (λi h=>h.IsKeyIter s.heap.objs.size d i kvs.length ep/\h.DictAt (intKind Pg w) d kvs ep) rfl ?_ ?_ (Kp.push _ _) (get_size_none _) (λi h' st=>?_) (λb hb hn=>?_) (λi v target s' _ st=>?_)
 ·refine⟨W.sub,W.frame,λi s Q E hi st hQ=>W.item i s Q E hi st λv h' tk hv=>hQ v h' tk ?_,W.done,W.self⟩
  refine q2_2 hv λk x hx hk=>?_;clear hv
  exact e1_2 k (by simp [hx]) (Value.isInt_shape hk)
 ·exact⟨e1_3 _ (Heap.get?_push_size _ rfl) rfl rfl,hm'.push _⟩
 ·refine q1_2 (st.1) λo ho _=>?_;exact⟨o,ho⟩
 ·rcases zC hb with e | hb
  ·exact absurd e hn
  ·refine q2_2 hm λo _ e _=>?_;clear hm
   rw [zS hb];exact⟨o,e⟩
 ·refine q1_3 (st.1) λo ho hc hd=>?_
  exact letGo_other ho hc hd (by decide)
theorem Src.keys {e:Expr} {d:Addr} {NA:Nat->Addr} {N:Nat} (hA:A.handled=none) (he:Yd w A b h env e (IsV (.ref d))) (hd:b.DictOf (intKind Pg w) d (kvs NA N)) (hds:(d == sysModules)=false) (hf:autoParam (∀ x,foldedSetIterable e env x=pure x) auI1) :
  Src w A b h env e (List.range N) IsN:=⟨hf,λs hb hs=>(he s hb hs).to λv s1 q=>by
 have e1:v=.ref d:=q.2 _ (hb.trans q.1.le) (Nw.self _ _)
 subst e1
 refine⟨q.1,?_⟩
 have:=Itr.keys (w:=w) (s:=s1) hA hd hds (hb.trans q.1.le)
 rw [kvs_len] at this
 rw [List.length_range]
 refine Wp.to this λit s' z=>?_
 refine q3_3 z λI fp St e1 W r=>?_;clear z
 refine e3_8 I fp St e1 ⟨W.sub,W.frame,λi s Q E hi st hQ=>W.item i s Q E hi st λv h' tk hv=>hQ v h' tk ?_,W.done,W.self⟩ r.1 r.2.1 r.2.2.1 r.2.2.2.1 r.2.2.2.2.1 (λi v target s' hP=>r.2.2.2.2.2 i v target s' ?_)
 ·refine byC0 λzn=>?_
  refine q1_2 hv λk hk z1=>?_;clear hv;refine q1_1 z1 λt z2=>?_;clear z1;subst z2
  simp only [kvs,List.map_map,List.getElem?_map,Option.map_eq_some_iff,Function.comp] at hk
  refine q1_2 hk λj hj z1=>?_;clear hk;subst z1
  refine zn ?_;clear zn
  exact e1_2 j hj (e1_1 t rfl)
 ·refine byC0 λzn=>?_;refine q1_2 hP λj hj z1=>?_;clear hP;refine q1_1 z1 λt z2=>?_;clear z1;subst z2;refine zn ?_;clear zn
  exact e1_2 (j:Int) (by simp [kvs,hj]) (e1_1 t rfl)⟩
end
theorem InF.ev2 {s₀ s s':Shared} {b:Heap} {X:List Addr} {env:Env} {own:List (Str×Addr)} {m cm:SoV} {Y:List Addr} {m' cm':SoV} (I:InF s₀ b X env own m cm s) (E:Ev Y s s') (hY:∀ a∈Y,b.get? a=none) (F':Fs s'.heap env own m' cm') (lv:∀ a∈X,a∈Y->∃ o,s'.heap.get? a=some o):InF s₀ b X env own m' cm' s':=
 ⟨same_trans I.same E.same,E.le I.le hY,F',I.off,λa ha=>by
  by_cases hm:a∈Y
  ·exact lv a ha hm
  ·refine q1_1 (I.live a ha) λo ho=>?_;exact⟨o,E.get a o hm ho⟩,I.apart⟩
structure Dfs (w:World) (h:Heap) (N:Nat) (SA:Nat->Addr) (su:Nat->List Nat) (Sa Ta Ea Da:Addr) (sn:List Nat) (st:List (Nat×Nat×Addr×Addr)):Prop where
 stk:NatL h Sa (st.map (·.1))
 its:h.PlainList Ta (st.map λx=>Value.ref x.2.2.1).toArray
 seen:∃ S,h.SetOf (intKind Pg w) Ea S sn.length/\∀ i:Nat,S (i:Int)=decide (i∈sn)
 dic:∃ kv,h.DictOf (intKind Pg w) Da kv/\kv.map (·.1)=st.map λx=>(x.1:Int)
 it:∀ x∈st,BW h x.2.2.1 x.2.2.2/\h.IsListIter x.2.2.2 (SA x.1) x.2.1/\x.2.1<=(su x.1).length
 nd:(st.map λx=>x.2.2.2).Nodup
 inc:(st.map (·.1)).Pairwise (· < ·)
 sub:∀ x∈st,x.1∈sn/\x.1<N
 snd:sn.Nodup/\∀ i∈sn,i<N
theorem Dfs.get {w:World} {h h':Heap} {N:Nat} {SA:Nat->Addr} {su:Nat->List Nat} {Sa Ta Ea Da:Addr} {sn:List Nat} {st:List (Nat×Nat×Addr×Addr)} (D:Dfs w h N SA su Sa Ta Ea Da sn st)
  (k:∀ a,a=Sa\/a=Ta\/a=Ea\/a=Da\/(∃ x∈st,a=x.2.2.1\/a=x.2.2.2)->∀ o,h.get? a=some o->h'.get? a=some o):Dfs w h' N SA su Sa Ta Ea Da sn st:=
 ⟨D.stk.at (k _ (.inl rfl)),D.its.at (k _ (.inr (.inl rfl))),q1_2 D.seen λS z q=>z.elim λo z=>z.elim λes z=>z.elim λep z=>z.elim λt z=>e1_2 S (e4_2 o es ep t (k _ (.inr (.inr (.inl rfl))) _ z.1) z.2) q,
  q1_2 D.dic λkv h1 h2=>e1_2 kv (h1.at (k _ (.inr (.inr (.inr (.inl rfl)))))) h2,
  λx hx=>q0_3 (D.it x hx) λa b c=>⟨k _ (.inr (.inr (.inr (.inr (e1_2 x hx (.inl rfl)))))) _ a,b.at (k _ (.inr (.inr (.inr (.inr (e1_2 x hx (.inr rfl))))))),c⟩,D.nd,D.inc,D.sub,D.snd⟩
noncomputable def meas (su:Nat->List Nat) (N:Nat) (sn:List Nat) (st:List (Nat×Nat×Addr×Addr)):Nat:=
 (((List.range N).filter λi=>decide (i∉sn)).map λi=>(su i).length+2).sum+(st.map λx=>(su x.1).length-x.2.1+1).sum
structure MV (m:SoV) (d Sa Ta Ea Da:Addr):Prop where
 n2i:m (sO "n2i")=some (.ref d)
 stk:m (sO "stack")=some (.ref Sa)
 its:m (sO "itstack")=some (.ref Ta)
 seen:m (sO "seen")=some (.ref Ea)
 dic:m (sO "node2stacki")=some (.ref Da)
theorem MV.up {m:SoV} {d Sa Ta Ea Da:Addr} {v:Value} (M:MV m d Sa Ta Ea Da):MV (up m (sO "node") v) d Sa Ta Ea Da:=
 ⟨by simp [Mine.Internal.up];exact M.n2i,by simp [Mine.Internal.up];exact M.stk,by simp [Mine.Internal.up];exact M.its,by simp [Mine.Internal.up];exact M.seen,by simp [Mine.Internal.up];exact M.dic⟩
structure Fz (s₀ sA:Shared) (bc:Heap) (X:List Addr) (env:Env) (outer:List Env) (m cm:SoV) (s:Shared):Prop where
 inF:InF s₀ bc X env [] m cm s
 ev:Ev (ft env []++X) sA s
 up:∀ L∈frs outer,Upf L s₀ s
theorem Fz.step {s₀ sA:Shared} {bc:Heap} {X Y:List Addr} {env:Env} {outer:List Env} {m cm m' cm':SoV} {s s':Shared} (Z:Fz s₀ sA bc X env outer m cm s) (E:Ev Y s s')
  (hY:∀ y∈Y,y∈ft env []\/y∈X\/(sA.heap.get? y=none/\bc.get? y=none)) (hU:∀ L∈frs outer,Upf L s s') (F':Fs s'.heap env [] m' cm') (lv:∀ a∈X,a∈Y->∃ o,s'.heap.get? a=some o):Fz s₀ sA bc X env outer m' cm' s':=
 ⟨Z.inF.ev2 E (λa ha=>by
   rcases hY a ha with h | h | h
   ·exact Z.inF.off a (.inl h)
   ·exact Z.inF.off a (.inr h)
   ·exact h.2) F' lv,
  ⟨same_trans Z.ev.same E.same,λc o hc e=>E.get c o (λhm=>by
   rcases hY c hm with h | h | h
   ·exact hc (List.mem_append_left _ h)
   ·exact hc (List.mem_append_right _ h)
   ·rw [h.1] at e;cases e) (Z.ev.get c o hc e)⟩,λL hL=>(Z.up L hL).trans (hU L hL)⟩
theorem Fz.kp {s₀ sA:Shared} {bc:Heap} {X:List Addr} {env:Env} {outer:List Env} {m cm:SoV} {s s':Shared} (Z:Fz s₀ sA bc X env outer m cm s) (k:Kp s s'):Fz s₀ sA bc X env outer m cm s':=
 ⟨Z.inF.kp k,Z.ev.trans k.ev,λL hL=>(Z.up L hL).trans ((k.ev (X:=[])).upf (by simp))⟩
section
variable {w:World} {A:Around} {mg mb mN:SoV} {K:Frag} {s₀ sA:Shared} {bc:Heap} {X:List Addr} {outer:List Env} {d Sa Ta Ea Da:Addr} {NA EA SA:Nat->Addr} {N:Nat} {np:Nat->Int} {su:Nat->List Nat} {pm cd:Value} {L:Addr}
noncomputable abbrev fcEnv (pm cd:Value) (L:Addr):Env:=callEnvC (fdOf (meth 10 8) (sO "TopologicalSorter._find_cycle") .none pm cd) L 141
structure Fg (w:World) (mg mb mN:SoV) (K:Frag) (A:Around) (s₀ sA:Shared) (bc:Heap) (X:List Addr) (outer:List Env) (d Sa Ta Ea Da:Addr) (NA EA SA:Nat->Addr) (N:Nat) (np:Nat->Int) (su:Nat->List Nat) (pm cd:Value) (L:Addr):Prop where
 S:St w mg mb mN K bc
 C:Con mg mb mN K
 G:Gr w bc d NA EA SA N np su
 hds:(d == sysModules)=false
 hdd:(Da == sysModules)=false
 up:∀ i,i<N->∀ j∈su i,i<j/\j<N
 len:N<=100/\∀ i,i<N->(su i).length<=20000
 hfr:A.frames=some (fcEnv pm cd L::outer)
 fr:FrOk s₀.heap outer
 new:∀ a∈([Sa,Ta,Ea,Da]:List Addr),a∈X
 ne:Sa≠Ta
 old:∀ a∈X,∃ o,sA.heap.get? a=some o
 frX:∀ L'∈frs outer,s₀.heap.get? L'≠none/\L'∉([Sa,Ta,Ea,Da]:List Addr)/\L'∉ft (fcEnv pm cd L) []/\L'∈X
 sa0:∀ a,sA.heap.get? a=none->s₀.heap.get? a=none
 ok:A.handled=none
 bc0:Le bc s₀.heap
variable (Gd:Fg w mg mb mN K A s₀ sA bc X outer d Sa Ta Ea Da NA EA SA N np su pm cd L)
include Gd
theorem Fg.frok {m cm:SoV} {s:Shared} (Z:Fz s₀ sA bc X (fcEnv pm cd L) outer m cm s):FrOk s.heap (fcEnv pm cd L::outer):=by
 intro e he
 refine byC0 λzn=>?_;((rcases zC he with rfl | he))<;>(refine zn ?_;clear zn)
 ·refine q3_3 (Z.inF.fs.ns) λo es ep h1 h2 _=>?_
  exact e0_2 (show ScopeKind.function≠ScopeKind.module from by decide) (e2_3 _ o rfl h1 (λvs q=>by rw [h2] at q;cases q))
 ·exact (Gd.fr.up Z.up) e he
theorem Fg.new' {m cm:SoV} {s:Shared} (Z:Fz s₀ sA bc X (fcEnv pm cd L) outer m cm s) {e:Addr} (he:s.heap.get? e=none):sA.heap.get? e=none/\bc.get? e=none:=by
 refine⟨?_,Z.inF.le.none he⟩
 cases q:sA.heap.get? e with
 | none=>rfl
 | some o=>
  exfalso
  by_cases hm:e∈ft (fcEnv pm cd L) []++X
  ·rcases List.mem_append.mp hm with h | h
   ·refine q1_1 (Z.inF.fs.live e h) λo' q'=>?_;rw [he] at q';cases q'
   ·refine q1_1 (Z.inF.live e h) λo' q'=>?_;rw [he] at q';cases q'
  ·have:=Z.ev.get e o hm q
   rw [he] at this;cases this
theorem Fg.notfr {m cm:SoV} {s:Shared} (Z:Fz s₀ sA bc X (fcEnv pm cd L) outer m cm s) {a:Addr} (ha:sA.heap.get? a=none):a∉frs outer:=λhm=>(Gd.frX a hm).1 (Gd.sa0 a ha)
omit Gd in
theorem Fs.upf {s s':Shared} {env:Env} {m cm:SoV} (F:Fs s.heap env [] m cm) (U:Upf env.locals s s'):Fs s'.heap env [] m cm:=by
 refine byC0 λzn=>?_
 refine q3_3 (F.ns) λo es ep h1 h2 r=>?_
 refine q1_1 (U o h1) λsl h3=>?_
 refine zn ?_;clear zn
 exact⟨e3_3 _ es ep h3 h2 r,λ_ _ h=>(nomatch h),λ_ _ h=>(nomatch h),List.Pairwise.nil,λ_ _ h=>(nomatch h)⟩
omit Gd in
theorem meas_top {sn:List Nat} {st:List (Nat×Nat×Addr×Addr)} {v p:Nat} {a b:Addr} (hp:p<(su v).length):meas su N sn (st++[(v,p+1,a,b)])<meas su N sn (st++[(v,p,a,b)]):=by
 unfold meas
 simp only [List.map_append,List.map_cons,List.map_nil,List.sum_append,List.sum_cons,List.sum_nil]
 omega
omit Gd in
theorem meas_pop {sn:List Nat} {st:List (Nat×Nat×Addr×Addr)} {x:Nat×Nat×Addr×Addr}:meas su N sn st<=meas su N sn (st++[x]):=by
 unfold meas
 simp only [List.map_append,List.sum_append]
 omega
end
theorem inc_len:∀ (n:Nat) (l:List Nat) (N:Nat),l.length=n->l.Pairwise (· < ·)->(∀ x∈l,x<N)->n<=N:=by
 intro n
 induction n with
 | zero=>intros;omega
 | succ n ih=>
  intro l N hl hp hx
  (rcases List.eq_nil_or_concat l with z0 | z1)<;>(first | subst z0 | (refine q2_1 z1 λl' x z2=>?_;clear z1;subst z2) | skip)
  ·simp at hl
  ·rw [List.concat_eq_append,List.pairwise_append] at hp
   have h1:=ih l' x (by simpa using hl) hp.1 (λy hy=>hp.2.2 y hy x (by simp))
   have h2:=hx x (by simp)
   omega
theorem popL {α:Type} (l:List α) (u:α):((l++[u]).toArray).eraseIdxIfInBounds ((l++[u]).toArray.size-1)=l.toArray:=by
 rw [List.eraseIdxIfInBounds_toArray]
 congr 1
 simp [List.eraseIdx_append_of_length_le]
theorem Paired.unsnoc {β γ:Type} {F:β->γ->Prop}:∀ {l:List β} {x:β} {k:List γ},Paired F (l++[x]) k->∃ k' y,k=k'++[y]/\Paired F l k'/\F x y:=by
 intro l
 induction l with
 | nil=>
  intro x k h
  cases h with
  | cons a t=>cases t;exact e2_3 [] _ rfl .nil a
 | cons b l ih=>
  intro x k h
  cases h with
  | cons a t=>exact q2_3 (ih t) λk' y e p q=>e2_3 (_::k') y (by rw [e];rfl) (.cons a p) q
section
variable {w:World} {h h':Heap} {N:Nat} {SA:Nat->Addr} {su:Nat->List Nat} {Sa Ta Ea Da:Addr} {sn:List Nat} {st:List (Nat×Nat×Addr×Addr)} {x:Nat×Nat×Addr×Addr}
theorem ne_cls {h:Heap} {a b:Addr} {o o':Obj} (ha:h.get? a=some o) (hb:h.get? b=some o') (hc:o.cls≠o'.cls):a≠b:=by
 (intro zr;subst zr)
 rw [ha] at hb;cases hb;exact hc rfl
theorem Dfs.clsS (D:Dfs w h N SA su Sa Ta Ea Da sn st):(∃ o,h.get? Sa=some o/\o.cls=.type "list")/\(∃ o,h.get? Ta=some o/\o.cls=.type "list")/\(∃ o,h.get? Ea=some o/\o.cls=.type "set")/\(∃ o,h.get? Da=some o/\o.cls=.type "dict"):=by
 refine byC0 λzn=>?_
 refine q1_2 (D.seen) λS z1 _=>?_;refine q4_3 z1 λo es ep t e z2 _=>?_;clear z1;refine q0_2 z2 λc _=>?_;clear z2
 refine q1_2 (D.dic) λkv z1 _=>?_;refine q3_3 z1 λo' es' ep' e' z2 _=>?_;clear z1;refine q0_2 z2 λc' _=>?_;clear z2
 refine q1_1 (D.its) λn q=>?_
 refine zn ?_;clear zn
 exact⟨D.stk.live,e1_2 _ q rfl,e1_2 o e c,e1_2 o' e' c'⟩
theorem Dfs.clsI (D:Dfs w h N SA su Sa Ta Ea Da sn st) (hx:x∈st):(∃ o,h.get? x.2.2.1=some o/\o.cls=.type "method-wrapper")/\(∃ o,h.get? x.2.2.2=some o/\o.cls=.type "list_iterator"):=
 let ⟨a,⟨o,b,c,_⟩,_⟩:=D.it x hx;⟨e1_2 _ a rfl,e1_2 o b c⟩
theorem Dfs.adv {v p:Nat} {mm it:Addr} (D:Dfs w h N SA su Sa Ta Ea Da sn (st++[(v,p,mm,it)])) (k:∀ a o,a≠it->h.get? a=some o->h'.get? a=some o) (hit:h'.IsListIter it (SA v) (p+1)) (hp:p+1<=(su v).length) :
  Dfs w h' N SA su Sa Ta Ea Da sn (st++[(v,p+1,mm,it)]):=by
 refine byC0 λzn=>?_
 refine q0_4 (D.clsS) λz1 z2 z3 z4=>?_;refine q1_2 z1 λo1 a1 c1=>?_;clear z1;refine q1_2 z2 λo2 a2 c2=>?_;clear z2;refine q1_2 z3 λo3 a3 c3=>?_;clear z3;refine q1_2 z4 λo4 a4 c4=>?_;clear z4
 refine s1_2 (D.clsI (x:=(v,p,mm,it)) (by simp)) λz1 oi ai ci=>?_;clear z1
 refine zn ?_;clear zn
 dsimp only at ai
 have n1:Sa≠it:=ne_cls a1 ai (by rw [c1,ci];simp)
 have n2:Ta≠it:=ne_cls a2 ai (by rw [c2,ci];simp)
 have n3:Ea≠it:=ne_cls a3 ai (by rw [c3,ci];simp)
 have n4:Da≠it:=ne_cls a4 ai (by rw [c4,ci];simp)
 have stk:=D.stk
 have its:=D.its
 have nd:=D.nd
 have inc:=D.inc
 refine q1_2 (D.dic) λkv hk hkv=>?_
 simp only [List.map_append,List.map_cons,List.map_nil] at stk its nd inc hkv
 refine⟨?_,?_,let ⟨S,⟨o,es,ep,t,e,r⟩,q⟩:=D.seen;(e1_2 S (e4_2 o es ep t (k _ _ n3 e) r) q),e1_2 kv (hk.at λo e=>k _ o n4 e) ?_,λx hx=>?_,?_,?_,λx hx=>?_,D.snd⟩
 ·simp only [List.map_append,List.map_cons,List.map_nil];exact stk.at λo e=>k _ o n1 e
 ·simp only [List.map_append,List.map_cons,List.map_nil];exact its.at λo e=>k _ o n2 e
 ·simp only [List.map_append,List.map_cons,List.map_nil];exact hkv
 ·rcases List.mem_append.mp hx with hx | hx
  ·refine byC0 λzn=>?_
   refine q0_2 (D.clsI (x:=x) (by simp [hx])) λz1 z2=>?_;refine q1_2 z1 λom am cm=>?_;clear z1;clear z2
   refine q0_3 (D.it x (by simp [hx])) λa b c=>?_
   refine zn ?_;clear zn
   refine⟨k _ _ (ne_cls am ai (by rw [cm,ci];simp)) a,b.at λo e=>k _ o (λz=>?_) e,c⟩
   rw [List.nodup_append] at nd
   exact nd.2.2 x.2.2.2 (List.mem_map.mpr (e1_2 x hx rfl)) it (by simp) z
  ·rw [zS hx]
   refine byC0 λzn=>?_;refine q0_2 (D.clsI (x:=(v,p,mm,it)) (by simp)) λz1 z2=>?_;refine q1_2 z1 λom am cm=>?_;clear z1;clear z2;refine zn ?_;clear zn
   exact⟨k _ _ (ne_cls am ai (by rw [cm,ci];simp)) (D.it (v,p,mm,it) (by simp)).1,hit,hp⟩
 ·simp only [List.map_append,List.map_cons,List.map_nil];exact nd
 ·simp only [List.map_append,List.map_cons,List.map_nil];exact inc
 ·rcases List.mem_append.mp hx with hx | hx
  ·exact D.sub x (by simp [hx])
  ·rw [zS hx]
   exact D.sub (v,p,mm,it) (by simp)
theorem Dfs.pop {kv:List (Int×Value)} (D:Dfs w h N SA su Sa Ta Ea Da sn (st++[x])) (k:∀ a o,(a=Ea\/∃ y∈st,a=y.2.2.1\/a=y.2.2.2)->a≠Sa->a≠Ta->a≠Da->a≠x.2.2.2->h.get? a=some o->h'.get? a=some o) (h1:NatL h' Sa (st.map (·.1))) (h2:h'.PlainList Ta (st.map λx=>Value.ref x.2.2.1).toArray)
  (hkv:kv.map (·.1)=(st++[x]).map λx=>(x.1:Int)) (h3:h'.DictOf (intKind Pg w) Da (without kv (x.1:Int))):Dfs w h' N SA su Sa Ta Ea Da sn st:=by
 refine byC0 λzn=>?_
 refine q0_4 (D.clsS) λz1 z2 z3 z4=>?_;refine q1_2 z1 λo1 a1 c1=>?_;clear z1;refine q1_2 z2 λo2 a2 c2=>?_;clear z2;refine q1_2 z3 λo3 a3 c3=>?_;clear z3;refine q1_2 z4 λo4 a4 c4=>?_;clear z4
 refine s1_2 (D.clsI (x:=x) (by simp)) λz1 ox ax cx=>?_;clear z1
 refine zn ?_;clear zn
 have nd:=D.nd
 have inc:=D.inc
 simp only [List.map_append,List.map_cons,List.map_nil] at nd inc hkv
 refine⟨h1,h2,let ⟨S,⟨o,es,ep,t,e,r⟩,q⟩:=D.seen;(e1_2 S (e4_2 o es ep t (k _ _ (.inl rfl) (ne_cls a3 a1 (by rw [c3,c1];simp)) (ne_cls a3 a2 (by rw [c3,c2];simp)) (ne_cls a3 a4 (by rw [c3,c4];simp)) (ne_cls a3 ax (by rw [c3,cx];simp)) e) r) q),e1_2 _ h3 ?_,λy hy=>?_,(List.nodup_append.mp nd).1,(List.pairwise_append.mp inc).1,λy hy=>D.sub y (by simp [hy]),D.snd⟩
 ·have e:((without kv (x.1:Int)).map (·.1))=(kv.map (·.1)).filter λi=>decide (i≠(x.1:Int)):=by
   unfold without
   rw [List.filter_map];rfl
  rw [e,hkv,List.filter_append]
  have e2:((st.map λx=>(x.1:Int)).filter λi=>decide (i≠(x.1:Int)))=st.map λx=>(x.1:Int):=by
   rw [List.filter_eq_self]
   intro i hi
   refine byC0 λzn=>?_;refine q1_2 (List.mem_map.mp hi) λy hy z1=>?_;subst z1;refine zn ?_;clear zn
   have:=(List.pairwise_append.mp inc).2.2 y.1 (List.mem_map.mpr (e1_2 y hy rfl)) x.1 (by simp)
   simp;omega
  rw [e2]
  simp
 ·refine byC0 λzn=>?_
  refine q0_2 (D.clsI (x:=y) (by simp [hy])) λz1 z2=>?_;refine q1_2 z1 λom am cm=>?_;clear z1;refine q1_2 z2 λoi ai ci=>?_;clear z2
  refine q0_3 (D.it y (by simp [hy])) λa b c=>?_
  refine zn ?_;clear zn
  exact⟨k _ _ (.inr (e1_2 y hy (.inl rfl))) (ne_cls am a1 (by rw [cm,c1];simp)) (ne_cls am a2 (by rw [cm,c2];simp)) (ne_cls am a4 (by rw [cm,c4];simp)) (ne_cls am ax (by rw [cm,cx];simp)) a,
   b.at λo e=>k _ o (.inr (e1_2 y hy (.inr rfl))) (ne_cls ai a1 (by rw [ci,c1];simp)) (ne_cls ai a2 (by rw [ci,c2];simp)) (ne_cls ai a4 (by rw [ci,c4];simp)) ((List.nodup_append.mp nd).2.2 y.2.2.2 (List.mem_map.mpr (e1_2 y hy rfl)) x.2.2.2 (by simp)) e,c⟩
end
noncomputable abbrev forBody:Stmt->List Stmt:=fBody
noncomputable abbrev whBody:Stmt->List Stmt:=fBody
noncomputable abbrev fcIn:Stmt:=nth (whBody (nth (forBody (nth (fBody (meth 10 8)) 5)) 1)) 1
section
variable {w:World} {A:Around} {mg mb mN:SoV} {K:Frag} {s₀ sA:Shared} {bc:Heap} {X:List Addr} {outer:List Env} {d Sa Ta Ea Da:Addr} {NA EA SA:Nat->Addr} {N:Nat} {np:Nat->Int} {su:Nat->List Nat} {pm cd:Value} {L:Addr}
theorem Fg.dfsft (Gd:Fg w mg mb mN K A s₀ sA bc X outer d Sa Ta Ea Da NA EA SA N np su pm cd L) {m cm:SoV} {s:Shared} {sn:List Nat} {st:List (Nat×Nat×Addr×Addr)} (Z:Fz s₀ sA bc X (fcEnv pm cd L) outer m cm s) (D:Dfs w s.heap N SA su Sa Ta Ea Da sn st)
  {a:Addr} (ha:a=Sa\/a=Ta\/a=Ea\/a=Da\/(∃ x∈st,a=x.2.2.1\/a=x.2.2.2)):a∉ft (fcEnv pm cd L) []:=by
 refine q3_3 (Z.inF.fs.ns) λo2 es ep h4 h5 _=>?_
 have rcd:∀ {o:Obj} {vs:Array Value},s.heap.get? a=some o->o.data=.fields vs->a∉ft (fcEnv pm cd L) []:=λh hd hm=>by
  simp only [ft,List.map_nil,List.mem_singleton] at hm
  rw [hm,h4] at h;cases h;rw [h5] at hd;cases hd
 (rcases ha with z0 | z0 | z0 | z0 | z1)<;>(first | (replace z0:=Eq.symm z0;subst z0) | (refine q1_2 z1 λx hx z2=>?_;clear z1;((rcases z2 with rfl | rfl))) | skip)
 ·exact Z.inF.apart _ (Gd.new _ (by simp))
 ·exact Z.inF.apart _ (Gd.new _ (by simp))
 ·exact Z.inF.apart _ (Gd.new _ (by simp))
 ·exact Z.inF.apart _ (Gd.new _ (by simp))
 ·exact rcd (D.it x hx).1 rfl
 ·refine q1_3 ((D.it x hx).2.1) λo e _ hd=>?_
  exact rcd e hd
theorem Fg.stepX (Gd:Fg w mg mb mN K A s₀ sA bc X outer d Sa Ta Ea Da NA EA SA N np su pm cd L) {m cm:SoV} {s s':Shared} (Z:Fz s₀ sA bc X (fcEnv pm cd L) outer m cm s) {a:Addr} (ha:a∈([Sa,Ta,Ea,Da]:List Addr)) (E:Ev [a] s s') (lv:∃ o,s'.heap.get? a=some o):Fz s₀ sA bc X (fcEnv pm cd L) outer m cm s':=
 Z.step E (λy hy=>.inr (.inl (zS hy▸Gd.new a ha))) (λL' hL'=>E.upf λhm=>(Gd.frX L' hL').2.1 (zS hm▸ha))
  (Z.inF.fs.get λc hc o e=>E.get c o (λz=>Z.inF.apart a (Gd.new a ha) (zS z▸hc)) e) (λc _ hc=>zS hc▸lv)
theorem at_some {kv:List (Int×Value)} {k:Int} (h:k∈kv.map (·.1)):(valueAt kv k).isSome=true:=by
 refine q1_2 (List.mem_map.mp h) λx hx z1=>?_;subst z1
 unfold valueAt
 rw [Option.isSome_map,List.find?_isSome]
 exact e1_2 x hx (by simp)
theorem at_none {kv:List (Int×Value)} {k:Int} (h:k∉kv.map (·.1)):valueAt kv k=none:=by
 unfold valueAt
 rw [Option.map_eq_none_iff,List.find?_eq_none]
 intro x hx
 have:x.1≠k:=λe=>h (e▸List.mem_map.mpr (e1_2 x hx rfl))
 simpa using this
noncomputable def Found' (w:World) (s₀ sA:Shared) (bc:Heap) (X:List Addr) (outer:List Env) (d Sa Ta Ea Da:Addr) (SA:Nat->Addr) (N:Nat) (su:Nat->List Nat) (pm cd:Value) (L:Addr) (cm:SoV) (sn:List Nat) (bound:Nat) (s:Shared):Prop:=
 ∃ m v t st,Fz s₀ sA bc X (fcEnv pm cd L) outer m cm s/\MV m d Sa Ta Ea Da/\m (sO "node")=some (.int ((v:Nat):Int) t)/\v<N/\(∀ x∈st,x.1<v)/\Dfs w s.heap N SA su Sa Ta Ea Da sn st/\meas su N sn st<bound/\
  ∀ x∈st,sA.heap.get? x.2.2.2=none/\sA.heap.get? x.2.2.1=none
noncomputable def Left' (w:World) (s₀ sA:Shared) (bc:Heap) (X:List Addr) (outer:List Env) (d Sa Ta Ea Da:Addr) (SA:Nat->Addr) (N:Nat) (su:Nat->List Nat) (pm cd:Value) (L:Addr) (cm:SoV) (sn:List Nat) (bound:Nat) (st:List (Nat×Nat×Addr×Addr)) (s:Shared):Prop:=
 ∃ m,Fz s₀ sA bc X (fcEnv pm cd L) outer m cm s/\MV m d Sa Ta Ea Da/\Dfs w s.heap N SA su Sa Ta Ea Da sn st/\meas su N sn st<=bound/\∀ x∈st,sA.heap.get? x.2.2.2=none/\sA.heap.get? x.2.2.1=none
end
namespace Z4
noncomputable section
def zQ (w:World) (A:Around) (mg mb mN:SoV) (K:Frag) (s₀ sA:Shared) (bc:Heap) (X:List Addr) (outer:List Env) (d Sa Ta Ea Da:Addr) (NA EA SA:Nat->Addr) (N:Nat) (np:Nat->Int) (su:Nat->List Nat) (pm cd:Value) (L:Addr) (cm:SoV) (s:Shared) (sn:List Nat) (bound:Nat) (st:List (Nat×Nat×Addr×Addr)):Prop:=∀ (Gd:Fg w mg mb mN K A s₀ sA bc X outer d Sa Ta Ea Da NA EA SA N np su pm cd L) (h0:Left' w s₀ sA bc X outer d Sa Ta Ea Da SA N su pm cd L cm sn bound st s),Wp w A (exec fcIn (fcEnv pm cd L)) (λfl s'=>(fl=.brk/\Left' w s₀ sA bc X outer d Sa Ta Ea Da SA N su pm cd L cm sn bound [] s')\/(fl=.next/\Found' w s₀ sA bc X outer d Sa Ta Ea Da SA N su pm cd L cm sn bound s')) s
abbrev zY:=((((World×(Around×SoV))×((SoV×SoV)×(Frag×Shared)))×(((Shared×Heap)×((List Addr)×(List Env)))×((Addr×Addr)×(Addr×Addr))))×(((Addr×((Nat->Addr)×(Nat->Addr)))×(((Nat->Addr)×Nat)×((Nat->Int)×(Nat->List Nat))))×(((Value×Value)×(Addr×SoV))×((Shared×(List Nat))×(Nat×(List (Nat×Nat×Addr×Addr)))))))
def zR (p:zY):=zQ p.1.1.1.1 p.1.1.1.2.1 p.1.1.1.2.2 p.1.1.2.1.1 p.1.1.2.1.2 p.1.1.2.2.1 p.1.1.2.2.2 p.1.2.1.1.1 p.1.2.1.1.2 p.1.2.1.2.1 p.1.2.1.2.2 p.1.2.2.1.1 p.1.2.2.1.2 p.1.2.2.2.1 p.1.2.2.2.2 p.2.1.1.1 p.2.1.1.2.1 p.2.1.1.2.2 p.2.1.2.1.1 p.2.1.2.1.2 p.2.1.2.2.1 p.2.1.2.2.2 p.2.2.1.1.1 p.2.2.1.1.2 p.2.2.1.2.1 p.2.2.1.2.2 p.2.2.2.1.1 p.2.2.2.1.2 p.2.2.2.2.1 p.2.2.2.2.2
def zc:zY:=eps1 (neP (neP (neP (neP neW (neP neA neI)) (neP neI (neP neI neS))) (neP (neP (neP neS neI) neI) neI)) (neP neI (neP neI (neP (neP neS neI) neI)))) zR
def w:=zc.1.1.1.1
def A:=zc.1.1.1.2.1
def mg:=zc.1.1.1.2.2
def mb:=zc.1.1.2.1.1
def mN:=zc.1.1.2.1.2
def K:=zc.1.1.2.2.1
def s₀:=zc.1.1.2.2.2
def sA:=zc.1.2.1.1.1
def bc:=zc.1.2.1.1.2
def X:=zc.1.2.1.2.1
def outer:=zc.1.2.1.2.2
def d:=zc.1.2.2.1.1
def Sa:=zc.1.2.2.1.2
def Ta:=zc.1.2.2.2.1
def Ea:=zc.1.2.2.2.2
def Da:=zc.2.1.1.1
def NA:=zc.2.1.1.2.1
def EA:=zc.2.1.1.2.2
def SA:=zc.2.1.2.1.1
def N:=zc.2.1.2.1.2
def np:=zc.2.1.2.2.1
def su:=zc.2.1.2.2.2
def pm:=zc.2.2.1.1.1
def cd:=zc.2.2.1.1.2
def L:=zc.2.2.1.2.1
def cm:=zc.2.2.1.2.2
def s:=zc.2.2.2.1.1
def sn:=zc.2.2.2.1.2
def bound:=zc.2.2.2.2.1
def st:=zc.2.2.2.2.2
theorem zaux:zQ w A mg mb mN K s₀ sA bc X outer d Sa Ta Ea Da NA EA SA N np su pm cd L cm s sn bound st:=by
 intro Gd h0
 refine wpAny_While (codeAny_mono (R:=λr s'=>∃ fl,r=.ok fl/\((fl=.brk/\Left' w s₀ sA bc X outer d Sa Ta Ea Da SA N su pm cd L cm sn bound [] s')\/(fl=.next/\Found' w s₀ sA bc X outer d Sa Ta Ea Da SA N su pm cd L cm sn bound s')))
  (codeAny_whileLoop (λk s'=>∃ st,k=st.length+1/\Left' w s₀ sA bc X outer d Sa Ta Ea Da SA N su pm cd L cm sn bound st s') ?turn (st.length+1) (e1_2 st rfl h0)) λr s' q=>?_)
 case turn=>
  (intro k s' zr;refine byC0 λzn=>?_;refine q1_2 zr λst z1 z2=>?_;clear zr;subst z1;refine q1_5 z2 λm Z M D hb itn=>?_;clear z2;refine zn ?_;clear zn)
  refine q1_2 (D.stk) λvs hvs hpv=>?_
  have hvl:vs.length=st.length:=by have:=hpv.length;simpa using this.symm
  have hinc:=D.inc
  have hstN:st.length<=N:=inc_len _ (st.map (·.1)) N (by simp) D.inc (λx hx=>by refine q1_2 (List.mem_map.mp hx) λy hy z1=>?_;subst z1;exact (D.sub y hy).2)
  refine Wp.to (Td.lst (Z.inF.fs.var (x:=sO "stack") rfl rfl M.stk) hvs.isList (by simp;have:=Gd.len.1;omega) (by decide) rfl s' Z.inF.le (Le.refl _)) λc s2 q=>?_
  refine byC0 λzn=>?_;refine q0_2 q λz1 k2=>?_;clear q;subst z1;refine zn ?_;clear zn
  have Z2:=Z.kp k2
  have D2:=D.get (h':=s2.heap) λa _ o e=>k2.le.get a o e
  refine byC0 λzn=>?_;((rcases List.eq_nil_or_concat st with z0 | z1)<;>(first | subst z0 | (refine q2_1 z1 λst' z2 z3=>?_;clear z1;rcases z2 with ⟨v,p,mm,it⟩;subst z3) | skip))<;>(refine zn ?_;clear zn)
  ·have:vs=[]:=by simpa using hvl
   subst this
   simp only [List.isEmpty_toArray,List.isEmpty_nil,Bool.not_true,Bool.false_eq_true,if_false]
   refine Wp.to (seqk (Q:=λf s3=>f=.brk/\Left' w s₀ sA bc X outer d Sa Ta Ea Da SA N su pm cd L cm sn bound [] s3) (wpAny_Break (e0_2 rfl (e1_5 m Z2 M D2 hb itn)))) λf s3 q=>e1_2 f rfl (.inl q)
  ·have hne:vs.toArray.isEmpty=false:=by
    cases vs with
    | nil=>simp at hvl
    | cons _ _=>rfl
   simp only [hne,Bool.not_false,if_true]
   rw [List.concat_eq_append] at *
   have hx:=D2.it (v,p,mm,it) (by simp)
   refine q0_3 hx λhbw hit hpl=>?_;clear hx
   dsimp only at hbw hit hpl
   have hvN:v<N:=(D2.sub (v,p,mm,it) (by simp)).2
   refine q1_2 (Gd.G.list v hvN) λws hws hpw=>?_
   have hin:=itn (v,p,mm,it) (by simp)
   dsimp only at hin
   have itft:it∉ft (fcEnv pm cd L) []:=λhm=>by
    refine byC0 λzn=>?_
    refine q1_1 (Z.inF.fs.live it hm) λo q=>?_
    simp only [ft,List.map_nil,List.mem_singleton] at hm
    refine q1_3 hit λo1 h1 h2 h3=>?_;clear hit
    refine q3_3 (Z2.inF.fs.ns) λo2 es ep h4 h5 _=>?_
    refine zn ?_;clear zn
    rw [hm,h4] at h1;cases h1;rw [h5] at h3;cases h3
   have itX:it∉X:=λhm=>by refine q1_1 (Gd.old it hm) λo q=>?_;rw [hin.1] at q;cases q
   refine Wp.to (Φ:=λf s3=>(f=.brk/\Found' w s₀ sA bc X outer d Sa Ta Ea Da SA N su pm cd L cm sn bound s3)\/(f=.next/\Left' w s₀ sA bc X outer d Sa Ta Ea Da SA N su pm cd L cm sn bound st' s3))
    (seqk (Wp.to (Φ:=λf s3=>(f=.brk/\Found' w s₀ sA bc X outer d Sa Ta Ea Da SA N su pm cd L cm sn bound s3)\/(f=.next/\Left' w s₀ sA bc X outer d Sa Ta Ea Da SA N su pm cd L cm sn bound st' s3))
     (ex_try Gd.hfr ?_) λf s3 q=>?_)) λf s3 q=>?_
   ·have hit':(λx:Nat×Nat×Addr×Addr=>Value.ref x.2.2.1) (v,p,mm,it)=.ref mm:=rfl
    refine wpAny_execs_cons (wpAny_Assign_Name (Call_sub0 Z2.inF.le (Yd.last (v:=.ref mm) D2.its.isList (Yd.namV (Z2.inF.fs.var (x:=sO "itstack") rfl rfl M.its)) (by simp)) λs3 k3=>?_) rfl)
    have Z3:=Z2.kp k3
    have D3:=D2.get (h':=s3.heap) λa _ o e=>k3.le.get a o e
    refine q0_3 (D3.it (v,p,mm,it) (by simp)) λhbw3 hit3 _=>?_
    dsimp only at hbw3 hit3
    have hws3:s3.heap.PlainList (SA v) ws.toArray:=hws.at λo e=>Z3.inF.le.get _ _ e
    have hwl:ws.length=(su v).length:=hpw.length.symm
    refine callWith_bw hbw3 ?_
    by_cases hp:p<(su v).length
    ·have hwp:p<ws.length:=by omega
     refine byC0 λzn=>?_;refine q1_2 (Paired.getAt hpw p ws[p] (List.getElem?_eq_getElem hwp)) λu hu z1=>?_;refine q1_1 z1 λt hwu=>?_;clear z1;refine zn ?_;clear zn
     refine Wp.to (next_item hbw3 hit3 hws3.isList (x:=.int (u:Int) t) (by rw [← hwu];simp [hwp])) λz s4 q=>?_
     refine byC0 λzn=>?_;refine q0_2 q λz1 z2=>?_;clear q;subst z1;refine q0_2 z2 λE4 hit4=>?_;clear z2;refine zn ?_;clear zn
     have Z₄:=Z3.step E4 (λy hy=>.inr (.inr (by rw [zS hy];exact⟨hin.1,Gd.bc0.none (Gd.sa0 _ hin.1)⟩))) (λL' hL'=>E4.upf λhm=>Gd.notfr Z3 hin.1 (zS hm▸hL')) (Z3.inF.fs.get λc hc o e=>E4.get c o (λz=>itft (zS z▸hc)) e) (λc hc hm=>absurd (zS hm▸hc) itX)
     have D4:=D3.adv (h':=s4.heap) (λa o ha e=>E4.get a o (by simpa using ha) e) hit4 hp
     refine Wp.to (sto_loc Z₄.inF.fs rfl rfl) λ_ s5 q5=>?_
     have Z5:=Z₄.step q5.1 (λy hy=>.inl hy) (λL' hL'=>q5.1.upf (Gd.frX L' hL').2.2.1) q5.2 (λc hc hm=>absurd hm (Z₄.inF.apart c hc))
     have D5:=D4.get (h':=s5.heap) λa ha o e=>q5.1.get a o (Gd.dfsft Z₄ D4 ha) e
     have hvu:=Gd.up v hvN u (List.mem_of_getElem? hu)
     refine wpAny_execs_cons (wpAny_Break (.inl (e0_2 rfl (e4_8 _ u t _ Z5 M.up (by simp [up]) hvu.2 (λx hx=>?_) D5 (Nat.lt_of_lt_of_le (meas_top hp) hb) (λx hx=>?_)))))
     ·have inc:=D4.inc
      simp only [List.map_append,List.map_cons,List.map_nil] at inc
      rcases List.mem_append.mp hx with hx | hx
      ·have:=(List.pairwise_append.mp inc).2.2 x.1 (List.mem_map.mpr (e1_2 x hx rfl)) v (by simp)
       omega
      ·rw [zS hx];exact hvu.1
     ·rcases List.mem_append.mp hx with hx | hx
      ·exact itn x (by simp [hx])
      ·rw [zS hx];exact hin
    ·refine next_end Gd.ok hbw3 hit3 hws3.isList (by simp;omega) λe s4 E4 hst hlive=>?_
     refine byC0 λzn=>?_;refine s1_2 hst λhne evs hev hev1=>?_;clear hst;refine zn ?_;clear zn
     have Z₄:=Z3.step E4 (λy hy=>.inr (.inr (by rw [zS hy];exact⟨hin.1,Gd.bc0.none (Gd.sa0 _ hin.1)⟩))) (λL' hL'=>E4.upf λhm=>Gd.notfr Z3 hin.1 (zS hm▸hL')) (Z3.inF.fs.get λc hc o e=>E4.get c o (λz=>itft (zS z▸hc)) e) (λc hc hm=>absurd (zS hm▸hc) itX)
     have enew:=Fg.new' Gd Z3 hne
     have memY:∀ y∈e::frs (fcEnv pm cd L::outer),y=e\/y∈ft (fcEnv pm cd L) []\/y∈frs outer:=λy hy=>by
      rcases zC hy with h | h
      ·exact .inl h
      ·rcases zC (show y∈L::frs outer from h) with h | h
       ·exact .inr (.inl (by rw [h];exact zH ..))
       ·exact .inr (.inr h)
     have bY:∀ y∈e::frs (fcEnv pm cd L::outer),bc.get? y=none:=λy hy=>by
      rcases memY y hy with h | h | h
      ·rw [h];exact enew.2
      ·exact Z₄.inF.off y (.inl h)
      ·exact Z₄.inF.off y (.inr (Gd.frX y h).2.2.2)
     have VS:Var bc (fcEnv pm cd L) (sO "StopIteration") (.type "StopIteration"):=Var.blt rfl rfl Gd.S.g (Gd.C.blt _ (by simp)).1 Gd.S.b ((Gd.C.blt _ (by simp)).2.trans (by decide +kernel))
     refine e2_5 e evs rfl hev hev1 (Gd.frok Z₄) (λs5 E5 U5=>⟨wpAny_Name (VS w _ s5 _ _ (E5.le Z₄.inF.le bY) ⟨rfl,rfl⟩) (by decide),λs6 E6 U6=>?_⟩)
     have Z6:=Z₄.step E6 (λy hy=>by
       rcases memY y hy with h | h | h
       ·rw [h];exact .inr (.inr enew)
       ·exact .inl h
       ·exact .inr (.inl (Gd.frX y h).2.2.2)) (λL' hL'=>U6 L' (zT hL')) (Fs.upf Z₄.inF.fs (U6 L (zH ..))) (λc hc hm=>by
       rcases zC hm with h | h
       ·exfalso;rw [h] at hc;refine q1_1 (Z3.inF.live e hc) λo q=>?_;rw [hne] at q;cases q
       ·refine byC0 λzn=>?_
        refine q1_1 (Z₄.inF.live c hc) λo q=>?_
        refine q1_1 (U6 c h o q) λsl q=>?_
        refine zn ?_;clear zn
        exact⟨_,q⟩)
     have keep:∀ a o,a≠it->a∉ft (fcEnv pm cd L) []->a∉frs outer->s3.heap.get? a=some o->s6.heap.get? a=some o:=λa o h1 h2 h3 h4=>
      E6.get a o (λhm=>by
       rcases memY a hm with h | h | h
       ·rw [h,hne] at h4;cases h4
       ·exact h2 h
       ·exact h3 h) (E4.get a o (by simpa using h1) h4)
     refine byC0 λzn=>?_
     refine q0_4 (D3.clsS) λz1 z2 z3 z4=>?_;refine q1_2 z1 λo1 a1 c1=>?_;clear z1;refine q1_2 z2 λo2 a2 c2=>?_;clear z2;refine q1_2 z3 λo3 a3 c3=>?_;clear z3;refine q1_2 z4 λo4 a4 c4=>?_;clear z4
     refine s1_2 (D3.clsI (x:=(v,p,mm,it)) (by simp)) λz1 oi ai ci=>?_;clear z1
     refine zn ?_;clear zn
     dsimp only at ai
     have nfr:∀ a∈([Sa,Ta,Ea,Da]:List Addr),a∉frs outer:=λa ha hm=>(Gd.frX a hm).2.1 ha
     have nft:∀ a∈([Sa,Ta,Ea,Da]:List Addr),a∉ft (fcEnv pm cd L) []:=λa ha=>Z.inF.apart a (Gd.new a ha)
     have kS:=λo (e:s3.heap.get? Sa=some o)=>keep Sa o (ne_cls a1 ai (by rw [c1,ci];simp)) (nft _ (by simp)) (nfr _ (by simp)) e
     have kT:=λo (e:s3.heap.get? Ta=some o)=>keep Ta o (ne_cls a2 ai (by rw [c2,ci];simp)) (nft _ (by simp)) (nfr _ (by simp)) e
     have kD:=λo (e:s3.heap.get? Da=some o)=>keep Da o (ne_cls a4 ai (by rw [c4,ci];simp)) (nft _ (by simp)) (nfr _ (by simp)) e
     refine byC0 λzn=>?_
     refine q1_2 (D3.stk) λvs3 hvs3 hpv3=>?_
     rw [List.map_append,List.map_cons,List.map_nil] at hpv3
     refine q2_2 (Paired.unsnoc hpv3) λvs' y z1 z2=>?_;subst z1;refine s1_1 z2 λhpv' t z4=>?_;clear z2;subst z4
     refine q1_2 (D3.dic) λkv hkv hkvm=>?_
     refine zn ?_;clear zn
     have its3:=D3.its
     rw [List.map_append,List.map_cons,List.map_nil] at its3
     have hst1:st'.length+1<=N:=by simpa using hstN
     have hN100:=Gd.len.1
     have hl1:vs'.length<=100:=by
      have h1:=hpv'.length
      simp at h1
      omega
     refine seqk (wpAny_Delete (wpAny_deleteEach_cons (wpAny_delete_Subscript ?_)))
     refine Wp.to (Yd.namV (Z6.inF.fs.var (x:=sO "node2stacki") rfl rfl M.dic) (by decide) s6 Z6.inF.le (Le.refl _)) λov s7 q=>?_
     have Z7:=Z6.kp q.1
     have e1:ov=.ref Da:=q.2 _ Z7.inF.le (Nw.self _ _)
     subst e1
     have hS7:s7.heap.PlainList Sa (vs'++[Value.int (v:Int) t]).toArray:=(hvs3.at kS).at λo e=>q.1.le.get _ o e
     refine Wp.to (eval_pop Z7.inF.le (Yd.namV (Z7.inF.fs.var (x:=sO "stack") rfl rfl M.stk)) hS7 (y:=.int (v:Int) t) (by simp) (by rw [sizeLine_eq];simp;omega)) λiv s8 q8=>?_
     refine byC0 λzn=>?_;refine q0_2 q8 λz1 z2=>?_;clear q8;subst z1;refine q0_2 z2 λE78 hS8=>?_;clear z2;refine zn ?_;clear zn
     rw [popL] at hS8
     have Z8:=Gd.stepX Z7 (a:=Sa) (by simp) E78 (q1_1 hS8 λn q=>⟨_,q⟩)
     have SD:Sa≠Da:=ne_cls a1 a4 (by rw [c1,c4];simp)
     have TD:Ta≠Da:=ne_cls a2 a4 (by rw [c2,c4];simp)
     have hD8:s8.heap.DictOf (intKind Pg w) Da kv:=(hkv.at kD).at λo e=>E78.get _ o (by simpa using SD.symm) (q.1.le.get _ _ e)
     refine Wp.to (del_dict hD8 (at_some (by rw [hkvm];simp)) (by
       have:=congrArg List.length hkvm
       simp at this
       rw [sizeLine_eq];omega)) λ_ s9 q9=>?_
     refine q0_2 q9 λE89 hD9=>?_;clear q9
     have Z9:=Gd.stepX Z8 (a:=Da) (by simp) E89 (q3_2 hD9 λo _ _ q _=>⟨o,q⟩)
     refine wpAny_deleteEach_nil ?_
     have hT9:s9.heap.PlainList Ta ((st'.map λ(x:Nat×Nat×Addr×Addr)=>Value.ref x.2.2.1)++[Value.ref mm]).toArray:=(its3.at kT).at λo e=>E89.get _ o (by simpa using TD) (E78.get _ o (by simpa using Gd.ne.symm) (q.1.le.get _ _ e))
     refine seqk (Wp.to (ex_pop Z9.inF.le (Yd.namV (Z9.inF.fs.var (x:=sO "itstack") rfl rfl M.its)) hT9 (y:=.ref mm) (by simp) (by rw [sizeLine_eq];simp;omega)) λfl s10 q10=>?_)
     refine byC0 λzn=>?_;refine q0_2 q10 λz1 z2=>?_;clear q10;subst z1;refine q0_2 z2 λE910 hT10=>?_;clear z2;refine zn ?_;clear zn
     rw [popL] at hT10
     have Z10:=Gd.stepX Z9 (a:=Ta) (by simp) E910 (q1_1 hT10 λn q=>⟨_,q⟩)
     refine nil_ (.inr (e0_2 rfl (e1_5 m Z10 M (D3.pop (kv:=kv) (x:=(v,p,mm,it)) (λa o h0 h1 h2 h3 h4 h5=>?_) (e1_2 vs' (hS8.at λo e=>E910.get _ o (by simpa using Gd.ne) (E89.get _ o (by simpa using SD) e)) hpv') hT10 hkvm (hD9.at λo e=>E910.get _ o (by simpa using TD.symm) e)) (Nat.le_trans meas_pop hb) (λx hx=>itn x (by simp [hx])))))
     have hft:a∉ft (fcEnv pm cd L) []:=Gd.dfsft Z3 D3 (h0.elim (λz=>.inr (.inr (.inl z))) λz=>q1_2 z λy hy z=>.inr (.inr (.inr (.inr (e1_2 y (by simp [hy]) z)))))
     have hfr:a∉frs outer:=by
      (rcases h0 with z0 | z1)<;>(first | subst z0 | (refine q1_2 z1 λy hy z2=>?_;clear z1;((rcases z2 with rfl | rfl))) | skip)
      ·exact nfr _ (by simp)
      ·exact Gd.notfr Z3 (itn y (by simp [hy])).2
      ·exact Gd.notfr Z3 (itn y (by simp [hy])).1
     exact E910.get a o (by simpa using h2) (E89.get a o (by simpa using h3) (E78.get a o (by simpa using h1) (q.1.le.get a o (keep a o h4 hft hfr h5))))
   ·refine byC0 λzn=>?_;((rcases q with z1 | z3)<;>(first | (refine q0_2 z1 λz2 q=>?_;clear z1;subst z2) | (refine q0_2 z3 λz4 q=>?_;clear z3;subst z4) | skip))<;>(refine zn ?_;clear zn)
    ·exact .inl ⟨rfl,q⟩
    ·exact nil_ (.inr ⟨rfl,q⟩)
   ·refine byC0 λzn=>?_;((rcases q with z1 | z3)<;>(first | (refine q0_2 z1 λz2 q=>?_;clear z1;subst z2) | (refine q0_2 z3 λz4 q=>?_;clear z3;subst z4) | skip))<;>(refine zn ?_;clear zn)
    ·exact e1_2 .next rfl (.inr ⟨rfl,q⟩)
    ·exact e1_2 (st'.length+1) (by simp) (e1_2 st' rfl q)
 ·refine byC0 λzn=>?_;refine q1_2 q λfl z1 z2=>?_;clear q;subst z1;revert z2;intro q;refine zn ?_;clear zn
  exact q
theorem zall:∀ p,zR p:=all1 zaux
end
end Z4
theorem inner_loop {w A mg mb mN K s₀ sA bc X outer d Sa Ta Ea Da NA EA SA N np su pm cd L cm s sn bound st}:Z4.zQ w A mg mb mN K s₀ sA bc X outer d Sa Ta Ea Da NA EA SA N np su pm cd L cm s sn bound st:=Z4.zall ((((w,(A,mg)),((mb,mN),(K,s₀))),(((sA,bc),(X,outer)),((d,Sa),(Ta,Ea)))),(((Da,(NA,EA)),((SA,N),(np,su))),(((pm,cd),(L,cm)),((s,sn),(bound,st)))))
theorem sum_take {f:Nat->Nat} {v:Nat} {P:Nat->Bool}:∀ {l:List Nat},l.Nodup->v∈l->P v=true->((l.filter λi=>P i && decide (i≠v)).map f).sum+f v=((l.filter P).map f).sum
 | a::l,hn,hv,hP=>by
  rw [List.nodup_cons] at hn
  by_cases h:a=v
  ·subst h
   have e:(l.filter λi=>P i && decide (i≠a))=l.filter P:=by
    apply List.filter_congr
    intro x hx
    have:x≠a:=λe=>hn.1 (e▸hx)
    simp [this]
   simp only [List.filter_cons,hP,Bool.true_and,ne_eq,not_true_eq_false,decide_false,Bool.false_eq_true,if_false,if_true,List.map_cons,List.sum_cons]
   rw [show (l.filter λi=>P i && decide (¬ i=a))=l.filter P from e]
   omega
  ·have hv':v∈l:=(zC hv).resolve_left λe=>h e.symm
   have ih:=sum_take (f:=f) hn.2 hv' hP
   cases hPa:P a with
   | true=>
    simp only [List.filter_cons,hPa,Bool.true_and,ne_eq,h,not_false_eq_true,decide_true,if_true,List.map_cons,List.sum_cons] at ih ⊢
    omega
   | false=>
    simp only [List.filter_cons,hPa,Bool.false_and,Bool.false_eq_true,if_false] at ih ⊢
    exact ih
theorem meas_push {su:Nat->List Nat} {N:Nat} {sn:List Nat} {st:List (Nat×Nat×Addr×Addr)} {v:Nat} {a b:Addr} (hv:v<N) (hs:v∉sn):meas su N (v::sn) (st++[(v,0,a,b)])<meas su N sn st:=by
 unfold meas
 have h:=sum_take (f:=λi=>(su i).length+2) (v:=v) (P:=λi=>decide (i∉sn)) (List.nodup_range (n:=N)) (List.mem_range.mpr hv) (by simpa using hs)
 have e:((List.range N).filter λi=>decide (i∉v::sn))=(List.range N).filter λi=>decide (i∉sn) && decide (i≠v):=by
  apply List.filter_congr
  intro x _
  by_cases h1:x=v<;>by_cases h2:x∈sn<;>simp [h1,h2]
 rw [e]
 simp only [List.map_append,List.map_cons,List.map_nil,List.sum_append,List.sum_cons,List.sum_nil]
 omega
theorem nodup_len:∀ (N:Nat) (l:List Nat),l.Nodup->(∀ x∈l,x<N)->l.length<=N
 | 0,l,_,h=>by
  cases l with
  | nil=>simp
  | cons a r=>exact absurd (h a (by simp)) (Nat.not_lt_zero _)
 | N+1,l,hn,h=>by
  by_cases hm:N∈l
  ·have h1:=nodup_len N (l.erase N) (hn.erase _) (λx hx=>by
    have h2:=(hn.mem_erase_iff).mp hx
    have:=h x h2.2
    have:=h2.1
    omega)
   rw [List.length_erase_of_mem hm] at h1
   omega
  ·have:=nodup_len N l hn (λx hx=>by
    have:=h x hx
    have:x≠N:=λe=>hm (e▸hx)
    omega)
   omega
section
variable {w:World} {A:Around} {s:Shared} {b h:Heap} {env:Env}
theorem Yd.iternext {x:Str} {p q apos:Pos} {e:Expr} {l:Addr} {items:Array Value} (V:Var h env x (.builtin "iter")) (he:Yd w A b h env e (IsV (.ref l))) (hl:h.IsList l items) (hd:autoParam ((x == ("__debug__" : Str))=false) auD)
  (hst:autoParam (starEach [e] env=(false,eval e env)::starEach [] env) auR)
  (hE:autoParam (eval (.Attribute (.Call (.Name x p) [e] [] q) (sO "__next__") apos) env=(do
   let o ← eval (.Call (.Name x p) [e] [] q) env
   standAt apos.atName
   let r ← holding [o] (getAttr o (sO "__next__") true)
   letTemporaryGo (.Call (.Name x p) [e] [] q) o r
   pure r)) auK) :
  Yd w A b h env (.Attribute (.Call (.Name x p) [e] [] q) (sO "__next__") apos) (λv g=>∃ m it,v=.ref m/\BW g m it/\g.IsListIter it l 0/\h.get? m=Option.none/\h.get? it=Option.none):=λs hb hs=>by
 refine (iter_next (b:=b) hb (V.up hs) (he.up hs) (hl.at λo e=>hs.get _ _ e) hd hst hE).to λv s' z=>?_
 refine byC0 λzn=>?_;refine s2_2 z λk m it z2 z3=>?_;clear z;subst z2;refine q0_4 z3 λh1 z4 n1 n2=>?_;clear z3;refine q1_2 z4 λo h2 h3=>?_;clear z4;refine zn ?_;clear zn
 exact⟨k,λg hg nw=>e2_5 m it rfl (nw.get _ _ n1 h1) (e1_2 o (nw.get _ _ n2 h2) h3) (hs.none n1) (hs.none n2)⟩
theorem Yd.lenl {x:Str} {p q:Pos} {e:Expr} {l:Addr} {items:Array Value} (V:Var h env x (.builtin "len")) (he:Yd w A b h env e (IsV (.ref l))) (hl:h.IsList l items) (hsz:items.size<2 ^ 62) (hd:autoParam ((x == ("__debug__" : Str))=false) auD) (hst:autoParam (starEach [e] env=(false,eval e env)::starEach [] env) auR) :
  Yd w A b h env (.Call (.Name x p) [e] [] q) (IsI (items.size:Int)):=
 Yd.callB V (Yds.one he hst) (λws s' hb' hs' q=>by
   refine v1 q λy1 ey a=>?_;subst ey
   cases a
   exact call_len_list (items:=items) (hl.at λo e=>hs'.get _ _ e) (by omega) ⟨Kp.tok s' _,λg _ _=>⟨_,rfl⟩⟩) hd hst
end
noncomputable abbrev fcW:Stmt:=nth (forBody (nth (fBody (meth 10 8)) 5)) 1
namespace Z10
noncomputable section
def zQ (w:World) (A:Around) (mg mb mN:SoV) (K:Frag) (s₀ sA:Shared) (bc:Heap) (X:List Addr) (outer:List Env) (d Sa Ta Ea Da:Addr) (NA EA SA:Nat->Addr) (N:Nat) (np:Nat->Int) (su:Nat->List Nat) (pm cd:Value) (L:Addr) (cm:SoV) (s:Shared) (sn:List Nat) (bound:Nat):Prop:=∀ (Gd:Fg w mg mb mN K A s₀ sA bc X outer d Sa Ta Ea Da NA EA SA N np su pm cd L) (h0:Found' w s₀ sA bc X outer d Sa Ta Ea Da SA N su pm cd L cm sn bound s),Wp w A (exec fcW (fcEnv pm cd L)) (λfl s'=>fl=.next/\∃ sn' bound',Left' w s₀ sA bc X outer d Sa Ta Ea Da SA N su pm cd L cm sn' bound' [] s') s
abbrev zY:=((((World×(Around×SoV))×((SoV×SoV)×(Frag×Shared)))×((Shared×(Heap×(List Addr)))×(((List Env)×Addr)×(Addr×Addr))))×(((Addr×(Addr×(Nat->Addr)))×(((Nat->Addr)×(Nat->Addr))×(Nat×(Nat->Int))))×((((Nat->List Nat)×Value)×(Value×Addr))×((SoV×Shared)×((List Nat)×Nat)))))
def zR (p:zY):=zQ p.1.1.1.1 p.1.1.1.2.1 p.1.1.1.2.2 p.1.1.2.1.1 p.1.1.2.1.2 p.1.1.2.2.1 p.1.1.2.2.2 p.1.2.1.1 p.1.2.1.2.1 p.1.2.1.2.2 p.1.2.2.1.1 p.1.2.2.1.2 p.1.2.2.2.1 p.1.2.2.2.2 p.2.1.1.1 p.2.1.1.2.1 p.2.1.1.2.2 p.2.1.2.1.1 p.2.1.2.1.2 p.2.1.2.2.1 p.2.1.2.2.2 p.2.2.1.1.1 p.2.2.1.1.2 p.2.2.1.2.1 p.2.2.1.2.2 p.2.2.2.1.1 p.2.2.2.1.2 p.2.2.2.2.1 p.2.2.2.2.2
def zc:zY:=eps1 (neP (neP (neP (neP neW (neP neA neI)) (neP neI (neP neI neS))) (neP (neP neS neI) neI)) (neP neI (neP neI (neP (neP neI neS) neI)))) zR
def w:=zc.1.1.1.1
def A:=zc.1.1.1.2.1
def mg:=zc.1.1.1.2.2
def mb:=zc.1.1.2.1.1
def mN:=zc.1.1.2.1.2
def K:=zc.1.1.2.2.1
def s₀:=zc.1.1.2.2.2
def sA:=zc.1.2.1.1
def bc:=zc.1.2.1.2.1
def X:=zc.1.2.1.2.2
def outer:=zc.1.2.2.1.1
def d:=zc.1.2.2.1.2
def Sa:=zc.1.2.2.2.1
def Ta:=zc.1.2.2.2.2
def Ea:=zc.2.1.1.1
def Da:=zc.2.1.1.2.1
def NA:=zc.2.1.1.2.2
def EA:=zc.2.1.2.1.1
def SA:=zc.2.1.2.1.2
def N:=zc.2.1.2.2.1
def np:=zc.2.1.2.2.2
def su:=zc.2.2.1.1.1
def pm:=zc.2.2.1.1.2
def cd:=zc.2.2.1.2.1
def L:=zc.2.2.1.2.2
def cm:=zc.2.2.2.1.1
def s:=zc.2.2.2.1.2
def sn:=zc.2.2.2.2.1
def bound:=zc.2.2.2.2.2
theorem zaux:zQ w A mg mb mN K s₀ sA bc X outer d Sa Ta Ea Da NA EA SA N np su pm cd L cm s sn bound:=by
 intro Gd h0
 refine wpAny_While (codeAny_mono (R:=λr s'=>r=.ok .next/\∃ sn' bound',Left' w s₀ sA bc X outer d Sa Ta Ea Da SA N su pm cd L cm sn' bound' [] s')
  (codeAny_whileLoop (λk s'=>∃ sn,Found' w s₀ sA bc X outer d Sa Ta Ea Da SA N su pm cd L cm sn k s') ?turn bound ⟨sn,h0⟩) λr s' q=>?_)
 case turn=>
  (intro k s' zr;refine q5_8 zr λsn m v t st Z M hv hvN hlt D hb itn=>?_;clear zr)
  refine isTrue_plain (wpAny_Constant_bool (wpAny_truthy_bool ?_))
  simp only [if_true]
  refine Wp.to (Φ:=λf s3=>(f=.brk/\∃ sn' bound',Left' w s₀ sA bc X outer d Sa Ta Ea Da SA N su pm cd L cm sn' bound' [] s3)\/(f=.next/\∃ m,m<k/\∃ sn,Found' w s₀ sA bc X outer d Sa Ta Ea Da SA N su pm cd L cm sn m s3)) ?_ λf s3 q=>?_
  ·refine q1_2 (D.seen) λS hS hSi=>?_
   have hN100:=Gd.len.1
   have Vn:=Z.inF.fs.var (x:=sO "node") rfl rfl hv
   have hsnl:sn.length<=N:=nodup_len N sn D.snd.1 D.snd.2
   refine seq (Φ:=λf s4=>f=.next/\∃ sn' st' bnd,bnd<k/\Left' w s₀ sA bc X outer d Sa Ta Ea Da SA N su pm cd L cm sn' bnd st' s4) (ex_if Z.inF.le (Td.inSet (Yd.namI Vn) (Yd.namV (Z.inF.fs.var (x:=sO "seen") rfl rfl M.seen)) hS) λs2 k2=>?_) λf s4 q=>?_
   ·have Z2:=Z.kp k2
    have D2:=D.get (h':=s2.heap) λa _ o e=>k2.le.get a o e
    rw [hSi v]
    by_cases hsn:v∈sn
    ·simp only [hsn,decide_true,if_true]
     refine q1_2 (D2.dic) λkv hkv hkvm=>?_
     have hno:(valueAt kv (v:Int)).isSome=false:=by
      rw [at_none]
      ·rfl
      ·rw [hkvm]
       intro hm
       refine q1_2 (List.mem_map.mp hm) λx hx e=>?_
       have:=hlt x hx
       omega
     refine seqk (ex_if Z2.inF.le (Td.inDict (Yd.namI (Vn.up k2.le)) (Yd.namV (Z2.inF.fs.var (x:=sO "node2stacki") rfl rfl M.dic)) hkv Gd.hdd) λs3 k3=>?_)
     rw [hno]
     simp only [Bool.false_eq_true,if_false]
     exact nil_ (nil_ (e0_2 rfl (e3_2 sn st _ hb (e1_5 m (Z2.kp k3) M (D2.get (h':=s3.heap) λa _ o e=>k3.le.get a o e) (Nat.le_refl _) itn))))
    ·simp only [hsn,decide_false,Bool.false_eq_true,if_false]
     refine byC0 λzn=>?_;refine q0_4 (D2.clsS) λz1 z2 z3 z4=>?_;refine q1_2 z1 λo1 a1 c1=>?_;clear z1;refine q1_2 z2 λo2 a2 c2=>?_;clear z2;refine q1_2 z3 λo3 a3 c3=>?_;clear z3;refine q1_2 z4 λo4 a4 c4=>?_;clear z4;refine zn ?_;clear zn
     have ST:Sa≠Ta:=Gd.ne
     have SE:Sa≠Ea:=ne_cls a1 a3 (by rw [c1,c3];simp)
     have SD:Sa≠Da:=ne_cls a1 a4 (by rw [c1,c4];simp)
     have TE:Ta≠Ea:=ne_cls a2 a3 (by rw [c2,c3];simp)
     have TD:Ta≠Da:=ne_cls a2 a4 (by rw [c2,c4];simp)
     have ED:Ea≠Da:=ne_cls a3 a4 (by rw [c3,c4];simp)
     have hS2:s2.heap.SetOf (intKind Pg w) Ea S sn.length:=by
      refine q4_2 hS λo es ep t' e r=>?_;clear hS
      exact e4_2 o es ep t' (k2.le.get _ _ e) r
     have Vn2:=Z2.inF.fs.var (x:=sO "node") rfl rfl hv
     refine seqn (ex_setadd Z2.inF.le (Yd.namV (Z2.inF.fs.var (x:=sO "seen") rfl rfl M.seen)) (Yd.namI Vn2) hS2 (by omega)) λs3 q=>?_
     refine byC0 λzn=>?_
     refine q0_2 q λE23 hS3=>?_;clear q
     rw [hSi v] at hS3
     simp only [hsn,decide_false,Bool.false_eq_true,if_false] at hS3
     have Z3:=Gd.stepX Z2 (a:=Ea) (by simp) E23 (q4_2 hS3 λo _ _ _ q _=>⟨o,q⟩)
     have its3:s3.heap.PlainList Ta _:=D2.its.at λo e=>E23.get _ o (by simpa using TE) e
     have hs3:Le bc s3.heap:=Z3.inF.le
     have xv:=Gd.G.info v hvN
     refine q2_1 (xv.obj) λt1 t2 xq=>?_
     refine q1_2 (Gd.G.list v hvN) λws hws hpw=>?_
     refine zn ?_;clear zn
     have bi:=Gd.C.blt (sO "iter") (by simp)
     have hstN:st.length<=N:=inc_len _ (st.map (·.1)) N (by simp) D.inc (λx hx=>by refine q1_2 (List.mem_map.mp hx) λy hy z1=>?_;subst z1;exact (D.sub y hy).2)
     have Vn3:=Z3.inF.fs.var (x:=sO "node") rfl rfl hv
     refine seqn (ex_append hs3 (Yd.namV (Z3.inF.fs.var (x:=sO "itstack") rfl rfl M.its)) (Yd.iternext (Z3.inF.fs.blt (Gd.S.le hs3).g bi.1 (Gd.S.le hs3).b (bi.2.trans (by decide +kernel:bootBuiltins (sO "iter")=some (.builtin "iter"))) rfl rfl rfl rfl)
      (Yd.slt (Gd.S.le hs3).k Gd.C.nk.su (inst_ni (hs3.get _ _ xq) (hs3.get _ _ xv.dict)) rfl rfl (Yd.dsub (Gd.G.le hs3).dict (Yd.namV (Z3.inF.fs.var (x:=sO "n2i") rfl rfl M.n2i)) (Yd.namI Vn3) (kvs_at hvN)) (λ_=>rfl)) (hws.isList.at λo e=>hs3.get _ _ e)) its3 (by rw [sizeLine_eq];simp;omega)) λs4 q=>?_
     refine byC0 λzn=>?_
     refine s2_4 q λE34 vm s3' k3' hP E34' its4=>?_;clear q
     refine q2_2 (hP _ (hs3.trans k3'.le) (Nw.self _ _)) λmm it z1 z2=>?_;subst z1;refine q0_4 z2 λhbw hit nm nit=>?_;clear z2
     have Z4:=Gd.stepX Z3 (a:=Ta) (by simp) E34 (q1_1 its4 λn q=>⟨_,q⟩)
     have hs4:Le bc s4.heap:=Z4.inF.le
     refine q1_2 (D2.stk) λvs hvs hpv=>?_
     refine zn ?_;clear zn
     have hvs4:s4.heap.PlainList Sa vs.toArray:=hvs.at λo e=>E34.get _ o (by simpa using ST) (E23.get _ o (by simpa using SE) e)
     have hvl:vs.length=st.length:=by have:=hpv.length;simpa using this.symm
     refine q1_2 (D2.dic) λkv hkv hkvm=>?_
     have hkv4:s4.heap.DictOf (intKind Pg w) Da kv:=hkv.at λo e=>E34.get _ o (by simpa using TD.symm) (E23.get _ o (by simpa using ED.symm) e)
     have hkvl:kv.length=st.length:=by have:=congrArg List.length hkvm;simpa using this
     have bl:=Gd.C.blt (sO "len") (by simp)
     have Vn4:=Z4.inF.fs.var (x:=sO "node") rfl rfl hv
     refine seqn (Φ:=λs5=>Ev [Da] s4 s5/\∃ u,s5.heap.DictOf (intKind Pg w) Da (stored kv (v:Int) u)) (wpAny_Assign_Subscript ((Yd.lenl (Z4.inF.fs.blt (Gd.S.le hs4).g bl.1 (Gd.S.le hs4).b (bl.2.trans (by decide +kernel:bootBuiltins (sO "len")=some (.builtin "len"))) rfl rfl rfl rfl) (Yd.namV (Z4.inF.fs.var (x:=sO "stack") rfl rfl M.stk)) hvs4.isList (by simp;omega) (by decide) rfl s4 hs4 (Le.refl _)).to λu s5 q5=>
       (Yd.namV (Z4.inF.fs.var (x:=sO "node2stacki") rfl rfl M.dic) (by decide) s5 (hs4.trans q5.1.le) q5.1.le).to λz s6 q6=>(Yd.namI Vn4 (by decide) s6 ((hs4.trans q5.1.le).trans q6.1.le) (q5.1.le.trans q6.1.le)).to λz' s7 q7=>?_)) λs5 q=>?_
     ·have k7:=(q5.1.trans q6.1).trans q7.1
      have e1:z=.ref Da:=q6.2 _ (hs4.trans (q5.1.le.trans q6.1.le)) (Nw.self _ _)
      subst e1
      refine byC0 λzn=>?_;refine q1_1 (q7.2 _ (hs4.trans k7.le) (Nw.self _ _)) λt' z1=>?_;subst z1;refine zn ?_;clear zn
      exact wpAny_setItem_pairs (knd:=intKind Pg w) (k:=(v:Int)) (by simp [intKind,Value.isInt]) (hkv4.keep k7.le.get) (λh' hd' hs'=>e0_3 rfl (k7.ev.trans ⟨e2_1 _ _ rfl,λc o hc e=>hs'.extBut c o (λz=>hc (by simp [z])) e⟩) (e1_1 u hd')) (by rw [sizeLine_eq];omega)
     refine byC0 λzn=>?_;refine s1_1 q λE45 u hkv5=>?_;clear q;refine zn ?_;clear zn
     have Z5:=Gd.stepX Z4 (a:=Da) (by simp) E45 (q3_2 hkv5 λo _ _ q _=>⟨o,q⟩)
     have Vn5:=Z5.inF.fs.var (x:=sO "node") rfl rfl hv
     refine seqn (ex_append Z5.inF.le (Yd.namV (Z5.inF.fs.var (x:=sO "stack") rfl rfl M.stk)) (Yd.namI Vn5) (hvs4.at λo e=>E45.get _ o (by simpa using SD) e) (by rw [sizeLine_eq];simp;omega)) λs6 q=>?_
     refine byC0 λzn=>?_
     refine s2_4 q λE56 vn s5' k5' hPn E56' stk6=>?_;clear q
     refine q1_1 (hPn _ (Z5.inF.le.trans k5'.le) (Nw.self _ _)) λtn z1=>?_;subst z1
     refine zn ?_;clear zn
     have Z6:=Gd.stepX Z5 (a:=Sa) (by simp) E56 (q1_1 stk6 λn q=>⟨_,q⟩)
     have vns:(v:Int)∉kv.map (·.1):=by
      rw [hkvm]
      intro hm
      refine q1_2 (List.mem_map.mp hm) λx hx e=>?_
      have:=hlt x hx
      omega
     have new34:=Fg.new' Gd Z3 nm
     have new34':=Fg.new' Gd Z3 nit
     have k26:∀ a o,a≠Sa->a≠Ta->a≠Ea->a≠Da->s2.heap.get? a=some o->s6.heap.get? a=some o:=λa o h1 h2 h3 h4 e=>E56.get a o (by simpa using h1) (E45.get a o (by simpa using h4) (E34.get a o (by simpa using h2) (E23.get a o (by simpa using h3) e)))
     have k46:∀ a o,a≠Sa->a≠Ta->a≠Da->s3'.heap.get? a=some o->s6.heap.get? a=some o:=λa o h1 h2 h4 e=>E56.get a o (by simpa using h1) (E45.get a o (by simpa using h4) (E34'.get a o (by simpa using h2) e))
     have l3:∀ a∈([Sa,Ta,Ea,Da]:List Addr),∃ o,s3.heap.get? a=some o:=λa ha=>Z3.inF.live a (Gd.new a ha)
     have nX:∀ c,s3.heap.get? c=none->∀ a∈([Sa,Ta,Ea,Da]:List Addr),c≠a:=λc hc a ha z=>by refine q1_1 (l3 a ha) λo q=>?_;rw [← z,hc] at q;cases q
     refine nil_ (e0_2 rfl (e3_2 (v::sn) (st++[(v,0,mm,it)]) _ (Nat.lt_of_lt_of_le (meas_push hvN hsn) (Nat.le_of_lt hb)) (e1_5 m Z6 M ⟨?_,?_,e1_2 (λk'=>S k' || decide (k'=(v:Int))) ?_ (λi=>?_),e1_2 _ (hkv5.at λo e=>E56.get _ o (by simpa using SD.symm) e) ?_,λx hx=>?_,?_,?_,λx hx=>?_,?_⟩ (Nat.le_refl _) (λx hx=>?_))))
     ·refine e1_2 (vs++[.int (v:Int) tn]) (by simpa using stk6) ?_
      rw [List.map_append]
      exact Paired.app hpv (.cons ⟨tn,rfl⟩ .nil)
     ·have:=its4.at (h':=s6.heap) λo e=>E56.get _ o (by simpa using ST.symm) (E45.get _ o (by simpa using TD) e)
      simpa using this
     ·refine q4_2 hS3 λo es ep t' e r=>?_;clear hS3
      exact e4_2 o es ep t' (E56.get _ _ (by simpa using SE.symm) (E45.get _ _ (by simpa using ED) (E34.get _ _ (by simpa using TE.symm) e))) r
     ·show (S i || decide ((i:Int)=(v:Int)))=_
      rw [hSi i]
      by_cases h1:i=v<;>by_cases h2:i∈sn<;>simp [h1,h2]
      ·intro z;omega
     ·unfold stored
      rw [if_neg (by
       intro z
       refine q1_2 (List.any_eq_true.mp z) λx hx hx'=>?_
       exact vns (List.mem_map.mpr (e1_2 x hx (by simpa using hx'))))]
      rw [List.map_append,hkvm,List.map_append]
      simp
     ·rcases List.mem_append.mp hx with hx | hx
      ·refine byC0 λzn=>?_
       refine q0_2 (D2.clsI hx) λz1 z2=>?_;refine q1_2 z1 λom am cm'=>?_;clear z1;refine q1_2 z2 λoi ai ci=>?_;clear z2
       refine q0_3 (D2.it x hx) λb1 b2 b3=>?_
       refine zn ?_;clear zn
       exact⟨k26 _ _ (ne_cls am a1 (by rw [cm',c1];simp)) (ne_cls am a2 (by rw [cm',c2];simp)) (ne_cls am a3 (by rw [cm',c3];simp)) (ne_cls am a4 (by rw [cm',c4];simp)) b1,
        b2.at λo e=>k26 _ o (ne_cls ai a1 (by rw [ci,c1];simp)) (ne_cls ai a2 (by rw [ci,c2];simp)) (ne_cls ai a3 (by rw [ci,c3];simp)) (ne_cls ai a4 (by rw [ci,c4];simp)) e,b3⟩
      ·rw [zS hx]
       exact⟨k46 _ _ (nX _ nm _ (by simp)) (nX _ nm _ (by simp)) (nX _ nm _ (by simp)) hbw,hit.at λo e=>k46 _ o (nX _ nit _ (by simp)) (nX _ nit _ (by simp)) (nX _ nit _ (by simp)) e,Nat.zero_le _⟩
     ·rw [List.map_append,List.nodup_append]
      refine⟨D2.nd,by simp,λa ha b hb' z=>?_⟩
      refine byC0 λzn=>?_
      refine q1_2 (List.mem_map.mp ha) λx hx z1=>?_;subst z1
      refine s1_2 (D2.clsI hx) λ_ oi ai ci=>?_
      refine zn ?_;clear zn
      have e2:b=it:=by simpa using hb'
      have e3:=E23.get x.2.2.2 oi (by simpa using ne_cls ai a3 (by rw [ci,c3];simp)) ai
      rw [z,e2,nit] at e3;cases e3
     ·rw [List.map_append,List.pairwise_append]
      refine⟨D2.inc,by simp,λa ha b hb'=>?_⟩
      refine q1_2 (List.mem_map.mp ha) λx hx z1=>?_;subst z1
      have e2:b=v:=by simpa using hb'
      rw [e2];exact hlt x hx
     ·rcases List.mem_append.mp hx with hx | hx
      ·exact⟨zT (D2.sub x hx).1,(D2.sub x hx).2⟩
      ·rw [zS hx];exact⟨zH ..,hvN⟩
     ·refine⟨List.nodup_cons.mpr ⟨hsn,D2.snd.1⟩,λi hi=>?_⟩
      (rcases zD hi with rfl | hi)
      ·exact hvN
      ·exact D2.snd.2 i hi
     ·rcases List.mem_append.mp hx with hx | hx
      ·exact itn x hx
      ·rw [zS hx];exact⟨new34'.1,new34.1⟩
   ·refine byC0 λzn=>?_;refine q0_2 q λz1 z2=>?_;clear q;subst z1;refine q3_2 z2 λsn' st' bnd hbnd hL=>?_;clear z2;refine zn ?_;clear zn
    refine seqk (Wp.to (inner_loop Gd hL) λf s5 q=>?_)
    refine byC0 λzn=>?_;((rcases q with z1 | z3)<;>(first | (refine q0_2 z1 λz2 q=>?_;clear z1;subst z2) | (refine q0_2 z3 λz4 q=>?_;clear z3;subst z4) | skip))<;>(refine zn ?_;clear zn)
    ·exact .inl (e0_2 rfl (e2_1 sn' bnd q))
    ·exact nil_ (.inr (e0_2 rfl (e1_2 bnd hbnd (e1_1 sn' q))))
  ·refine byC0 λzn=>?_;((rcases q with z1 | z3)<;>(first | (refine q0_2 z1 λz2 q=>?_;clear z1;subst z2) | (refine q0_2 z3 λz4 q=>?_;clear z3;subst z4) | skip))<;>(refine zn ?_;clear zn)
   ·exact⟨trivial,q⟩
   ·exact q
 ·refine byC0 λzn=>?_;refine q0_2 q λz1 z2=>?_;clear q;subst z1;revert z2;intro q;refine zn ?_;clear zn
  exact⟨rfl,q⟩
theorem zall:∀ p,zR p:=all1 zaux
end
end Z10
theorem outer_loop {w A mg mb mN K s₀ sA bc X outer d Sa Ta Ea Da NA EA SA N np su pm cd L cm s sn bound}:Z10.zQ w A mg mb mN K s₀ sA bc X outer d Sa Ta Ea Da NA EA SA N np su pm cd L cm s sn bound:=Z10.zall ((((w,(A,mg)),((mb,mN),(K,s₀))),((sA,(bc,X)),((outer,d),(Sa,Ta)))),(((Ea,(Da,NA)),((EA,SA),(N,np))),(((su,pm),(cd,L)),((cm,s),(sn,bound)))))
section
variable {w:World} {A:Around} {s:Shared} {b h:Heap} {env:Env}
theorem Yd.set0 {x:Str} {p pos:Pos} (V:Var h env x (.type "set")) (hd:autoParam ((x == ("__debug__" : Str))=false) auD):Yd w A b h env (.Call (.Name x p) [] [] pos) (λv g=>(∃ a,v=.ref a/\g.SetOf (intKind Pg w) a (λ_=>false) 0)/\Nu h v):=
 Yd.callT0 V (λs hb hs=>call_set_0 λled=>⟨Kp.push _ _,λg hg n=>e0_2 (e1_2 _ rfl (e4_8 _ (#[]) 0 _ (n.get _ _ (get_size_none _) (Heap.get?_push_size _ rfl)) ⟨rfl,rfl,rfl⟩ rfl (λe he=>by simp at he) (λk=>by simp) (by decide) (by cases led<;>rfl) rfl)) (e1_2 _ rfl (hs.none (get_size_none _)))⟩) hd
theorem Yd.dict0 {pos:Pos}:Yd w A b h env (.Dict [] [] pos) (λv g=>(∃ a,v=.ref a/\g.DictOf (intKind Pg w) a [])/\Nu h v):=λs hb hs=>
 wpAny_Dict_empty ⟨Kp.push _ _,λg hg n=>e0_2 (e1_2 _ rfl (e3_6 _ (#[]) 0 (n.get _ _ (get_size_none _) (Heap.get?_push_size _ rfl)) ⟨rfl,rfl,rfl⟩ rfl (λe he=>by simp at he) .nil (by simp))) (e1_2 _ rfl (hs.none (get_size_none _)))⟩
end
theorem InF.down {s₀ s:Shared} {b b':Heap} {X:List Addr} {env:Env} {own:List (Str×Addr)} {m cm:SoV} (I:InF s₀ b X env own m cm s) (l:Le b' b):InF s₀ b' X env own m cm s:=
 ⟨I.same,l.trans I.le,I.fs,λa ha=>l.none (I.off a ha),I.live,I.apart⟩
namespace Z11
noncomputable section
def zQ (w:World) (A:Around) (s:Shared) (mg mb mN:SoV) (K:Frag) (x dx d:Addr) (mA:SoV) (NA EA SA:Nat->Addr) (N:Nat) (np:Nat->Int) (su:Nat->List Nat) (outer:List Env) (n:Nat) (bq:Heap):Prop:=∀ (ok:Ok (n+1) A) (hfr:A.frames=some outer) (fr:FrOk s.heap outer) (frq:∀ L∈frs outer,bq.get? L=none) (S:St w mg mb mN K bq) (hb:Le bq s.heap) (C:Con mg mb mN K) (I:IA bq x dx mA) (h2:mA (sO "_node2info")=some (.ref d)) (G:Gr w bq d NA EA SA N np su) (hds:(d == sysModules)=false) (hup:∀ i,i<N->∀ j∈su i,i<j/\j<N) (hlen:N<=100/\∀ i,i<N->(su i).length<=20000),Wp w A (call (.ref 141) [.ref x]) (λv s'=>v=.none/\Ev (frs outer) s s'/\∀ L∈frs outer,Upf L s s') s
abbrev zY:=((((World×Around)×(Shared×(SoV×SoV)))×((SoV×Frag)×(Addr×(Addr×Addr))))×(((SoV×(Nat->Addr))×((Nat->Addr)×((Nat->Addr)×Nat)))×(((Nat->Int)×(Nat->List Nat))×((List Env)×(Nat×Heap)))))
def zR (p:zY):=zQ p.1.1.1.1 p.1.1.1.2 p.1.1.2.1 p.1.1.2.2.1 p.1.1.2.2.2 p.1.2.1.1 p.1.2.1.2 p.1.2.2.1 p.1.2.2.2.1 p.1.2.2.2.2 p.2.1.1.1 p.2.1.1.2 p.2.1.2.1 p.2.1.2.2.1 p.2.1.2.2.2 p.2.2.1.1 p.2.2.1.2 p.2.2.2.1 p.2.2.2.2.1 p.2.2.2.2.2
def zc:zY:=eps1 (neP (neP (neP (neP neW neA) (neP neS neI)) neI) neI) zR
def w:=zc.1.1.1.1
def A:=zc.1.1.1.2
def s:=zc.1.1.2.1
def mg:=zc.1.1.2.2.1
def mb:=zc.1.1.2.2.2
def mN:=zc.1.2.1.1
def K:=zc.1.2.1.2
def x:=zc.1.2.2.1
def dx:=zc.1.2.2.2.1
def d:=zc.1.2.2.2.2
def mA:=zc.2.1.1.1
def NA:=zc.2.1.1.2
def EA:=zc.2.1.2.1
def SA:=zc.2.1.2.2.1
def N:=zc.2.1.2.2.2
def np:=zc.2.2.1.1
def su:=zc.2.2.1.2
def outer:=zc.2.2.2.1
def n:=zc.2.2.2.2.1
def bq:=zc.2.2.2.2.2
theorem zaux:zQ w A s mg mb mN K x dx d mA NA EA SA N np su outer n bq:=by
 intro ok hfr fr frq S hb C I h2 G hds hup hlen
 refine q2_1 ((S.le hb).f141) λpm cd F=>?_
 refine wpAny_call (call_fn0 (n:=n) (binds:=[(sO "self",.ref x)]) ok F (S.le hb).lim rfl (by kernel_rfl) rfl (by kernel_rfl) (λ_=>by kernel_rfl) (λ_=>by kernel_rfl) λs1 L m cm B I1 ok'=>?_)
 have hb1:=hb.trans I1.le
 refine seqn (ex_asg I1 rfl rfl (Yd.atr (I1.fs.var (x:=sO "self") rfl rfl (B 0 _ _ rfl)) (S.le hb1).ts (I.le hb1) h2 (C.mN0 _ (by simp)) (C.mN0 _ (by simp)) rfl tl0) rfl) λs2 q=>?_
 refine byC0 λzn=>?_;refine s2_3 q λE1 v1 b1 l1 I2 e1=>?_;clear q;refine zn ?_;clear zn
 cases e1
 refine seqn (ex_asg I2 rfl rfl (Yd.lstN Yds.nil) rfl) λs3 q=>?_
 refine byC0 λzn=>?_;refine s2_4 q λE2 v2 b2 l2 I3 z2 z5=>?_;clear q;refine q2_2 z2 λSa vs z3 z4=>?_;clear z2;subst z3;refine q0_2 z4 λhSa hvs=>?_;clear z4;refine q1_2 z5 λ_ z nSa=>?_;clear z5;refine zn ?_;clear zn
 cases z;cases hvs
 refine seqn (ex_asg I3 rfl rfl (Yd.lstN Yds.nil) rfl) λs4 q=>?_
 refine byC0 λzn=>?_;refine s2_4 q λE3 v3 b3 l3 I4 z2 z5=>?_;clear q;refine q2_2 z2 λTa vs z3 z4=>?_;clear z2;subst z3;refine q0_2 z4 λhTa hvs=>?_;clear z4;refine q1_2 z5 λ_ z nTa=>?_;clear z5;refine zn ?_;clear zn
 cases z;cases hvs
 have hb4:=(((hb.trans l1).trans l2).trans l3).trans I4.le
 have bs:=C.blt (sO "set") (by simp)
 refine seqn (ex_asg I4 rfl rfl (Yd.set0 (I4.fs.blt (S.le hb4).g bs.1 (S.le hb4).b (bs.2.trans (by decide +kernel:bootBuiltins (sO "set")=some (.type "set"))) rfl rfl rfl rfl)) rfl) λs5 q=>?_
 refine byC0 λzn=>?_;refine s2_4 q λE4 v4 b4 l4 I5 z2 z4=>?_;clear q;refine q1_2 z2 λEa z3 hEa=>?_;clear z2;subst z3;refine q1_2 z4 λ_ z nEa=>?_;clear z4;refine zn ?_;clear zn
 cases z
 refine seqn (ex_asg I5 rfl rfl Yd.dict0 rfl) λs6 q=>?_
 refine byC0 λzn=>?_;refine s2_4 q λE5 v5 b5 l5 I6 z2 z4=>?_;clear q;refine q1_2 z2 λDa z3 hDa=>?_;clear z2;subst z3;refine q1_2 z4 λ_ z nDa=>?_;clear z4;refine zn ?_;clear zn
 cases z
 have lb1:Le s.heap b5:=(((l1.trans l2).trans l3).trans l4).trans l5
 have hSa5:b5.PlainList Sa #[]:=hSa.at λo e=>(l3.trans (l4.trans l5)).get _ _ e
 have hTa5:b5.PlainList Ta #[]:=hTa.at λo e=>(l4.trans l5).get _ _ e
 have hEa5:b5.SetOf (intKind Pg w) Ea (λ_=>false) 0:=by
  refine q4_2 hEa λo es ep t e r=>?_;clear hEa
  exact e4_2 o es ep t (l5.get _ _ e) r
 have l62:∀ a o,a∉ft (fcEnv pm cd L) []->s2.heap.get? a=some o->s6.heap.get? a=some o:=λa o h e=>E5.get a o h (E4.get a o h (E3.get a o h (E2.get a o h e)))
 have E16:Ev (ft (fcEnv pm cd L) []) s1 s6:=(((E1.trans E2).trans E3).trans E4).trans E5
 have ls:∀ a o,s.heap.get? a=some o->s6.heap.get? a=some o:=λa o e=>I6.le.get _ _ (lb1.get _ _ e)
 have s0n:∀ c,(s2.heap.get? c=none\/s3.heap.get? c=none\/s4.heap.get? c=none\/s5.heap.get? c=none)->s.heap.get? c=none/\c∉ft (fcEnv pm cd L) []:=λc hc=>by
  have nf:c∉ft (fcEnv pm cd L) []:=λhm=>by
   rcases hc with h | h | h | h
   ·refine q1_1 (I2.fs.live c hm) λo q=>?_;rw [h] at q;cases q
   ·refine q1_1 (I3.fs.live c hm) λo q=>?_;rw [h] at q;cases q
   ·refine q1_1 (I4.fs.live c hm) λo q=>?_;rw [h] at q;cases q
   ·refine q1_1 (I5.fs.live c hm) λo q=>?_;rw [h] at q;cases q
  refine⟨?_,nf⟩
  cases q:s.heap.get? c with
  | none=>rfl
  | some o=>
   have q2:=E1.get c o nf (I1.le.get _ _ q)
   have q3:=E2.get c o nf q2
   have q4:=E3.get c o nf q3
   have q5:=E4.get c o nf q4
   rcases hc with h | h | h | h
   ·rw [h] at q2;cases q2
   ·rw [h] at q3;cases q3
   ·rw [h] at q4;cases q4
   ·rw [h] at q5;cases q5
 have nS:=s0n Sa (.inl nSa)
 have nT:=s0n Ta (.inr (.inl nTa))
 have nE:=s0n Ea (.inr (.inr (.inl nEa)))
 have nD:=s0n Da (.inr (.inr (.inr nDa)))
 have new4:∀ a∈([Sa,Ta,Ea,Da]:List Addr),s.heap.get? a=none/\a∉ft (fcEnv pm cd L) []:=λa ha=>by
  replace ha:=mem4 ha
  ((rcases ha with z0 | z0 | z0 | z0)<;>(replace z0:=Eq.symm z0;subst z0))<;>assumption
 have live4:∀ a∈([Sa,Ta,Ea,Da]:List Addr),∃ o,s6.heap.get? a=some o:=λa ha=>by
  replace ha:=mem4 ha
  (rcases ha with z0 | z0 | z0 | z0)<;>(replace z0:=Eq.symm z0;subst z0)
  ·refine q1_1 hSa5 λn q=>?_;clear hSa5;exact⟨_,I6.le.get _ _ q⟩
  ·refine q1_1 hTa5 λn q=>?_;clear hTa5;exact⟨_,I6.le.get _ _ q⟩
  ·refine q4_2 hEa5 λo _ _ _ q _=>?_;clear hEa5;exact⟨_,I6.le.get _ _ q⟩
  ·refine q3_2 hDa λo _ _ q _=>?_;clear hDa;exact⟨_,I6.le.get _ _ q⟩
 have frl:∀ L'∈frs outer,∃ o,s.heap.get? L'=some o:=λL' hL'=>by
  refine byC0 λzn=>?_
  refine q1_2 (List.mem_filterMap.mp hL') λe he hf=>?_
  refine s2_3 (fr e he) λ_ L'' o hf' ho _=>?_
  refine zn ?_;clear zn
  rw [hf] at hf';cases hf'
  exact⟨o,ho⟩
 have frn:∀ L'∈frs outer,L'∉([Sa,Ta,Ea,Da]:List Addr)/\L'∉ft (fcEnv pm cd L) []:=λL' hL'=>by
  refine q1_1 (frl L' hL') λo q=>?_
  exact⟨(λhm=>by rw [(new4 L' hm).1] at q;cases q),I1.notft q⟩
 have ST:Sa≠Ta:=λz=>by
  refine q1_1 hSa λn q=>?_;clear hSa
  rw [← z] at nTa
  rw [I3.le.get _ _ q] at nTa;cases nTa
 have I7:InF s bq ([Sa,Ta,Ea,Da]++frs outer) (fcEnv pm cd L) [] _ cm s6:=⟨I6.same,(hb.trans lb1).trans I6.le,I6.fs,λa ha=>by
   rcases ha with ha | ha
   ·exact (hb.trans lb1).none (I6.off a (.inl ha))
   ·rcases List.mem_append.mp ha with ha | ha
    ·exact hb.none (new4 a ha).1
    ·exact frq a ha,λa ha=>by
   rcases List.mem_append.mp ha with ha | ha
   ·exact live4 a ha
   ·refine q1_1 (frl a ha) λo q=>?_;exact⟨o,ls a o q⟩,λa ha=>by
   rcases List.mem_append.mp ha with ha | ha
   ·exact (new4 a ha).2
   ·exact (frn a ha).2⟩
 have M0:MV (up (up (up (up (up m (sO "n2i") (.ref d)) (sO "stack") (.ref Sa)) (sO "itstack") (.ref Ta)) (sO "seen") (.ref Ea)) (sO "node2stacki") (.ref Da)) d Sa Ta Ea Da:=
  ⟨by simp +decide [up],by simp +decide [up],by simp +decide [up],by simp +decide [up],by simp +decide [up]⟩
 have D0:∀ s',Kp s6 s'->Dfs w s'.heap N SA su Sa Ta Ea Da [] []:=λs' k=>by
  have lk:=I6.le.trans k.le
  refine⟨e1_2 [] (hSa5.at λo e=>lk.get _ _ e) .nil,hTa5.at λo e=>lk.get _ _ e,e1_2 (λ_=>false) ?_ (λi=>by simp),e1_2 [] (hDa.at λo e=>lk.get _ _ e) rfl,(λ_ h=>nomatch h),.nil,.nil,(λ_ h=>nomatch h),.nil,(λ_ h=>nomatch h)⟩
  refine q4_2 hEa5 λo es ep t e r=>?_;clear hEa5
  exact e4_2 o es ep t (lk.get _ _ e) r
 refine seq (ex_for (xs:=List.range N) (B:=IsN) (λv m cm m' cm'=>∃ u,IsN v u/\m'=up m (sO "node") u/\cm'=cm)
  (λi b' m' cm' s'=>Le bq b'/\Le b' s.heap/\MV m' d Sa Ta Ea Da/\(∃ sn,Dfs w s'.heap N SA su Sa Ta Ea Da sn [])/\(∀ L'∈frs outer,Upf L' s s')/\∀ a o,a∉frs outer->s.heap.get? a=some o->s'.heap.get? a=some o)
  I7 (Src.keys ok'.hd (Yd.namV (I6.fs.var (x:=sO "n2i") rfl rfl M0.n2i)) G.dict hds)
  (λs' k=>⟨Le.refl _,hb,M0,⟨[],D0 s' k⟩,λL' hL'=>λo e=>⟨o.slots,k.le.get _ _ (ls _ _ e)⟩,λa o _ e=>k.le.get _ _ (ls _ _ e)⟩)
  (λv u s' m' cm' hp hB hs' F'=>(asg_loc F' rfl rfl).to λ_ s'' q=>e0_2 q.1 (e2_2 _ _ q.2 (e1_3 u hB rfl rfl)))
  λi v Ik b' m1 cm1 t1 m2 cm2 t2 hi hl' Iin hIX hI0 hJ E12 hK J2=>?_) λfl s7 q=>?_
 ·refine byC0 λzn=>?_
  refine q0_6 hJ λlb lbs M z1 hU hk=>?_;clear hJ;refine q1_1 z1 λsn D=>?_;clear z1
  refine q1_3 hK λu z1 z3 z4=>?_;clear hK;refine q1_1 z1 λt z2=>?_;clear z1;subst z2;subst z3;rcases z4.symm with rfl
  refine zn ?_;clear zn
  have hvN:v<N:=List.mem_range.mp (List.mem_of_getElem? hi)
  have IkX:∀ a∈([Sa,Ta,Ea,Da]:List Addr)++frs outer,a∉Ik::ft (fcEnv pm cd L) []:=λa ha hm=>by
   rcases zC hm with h | h
   ·exact hIX (h▸ha)
   ·rcases List.mem_append.mp ha with ha | ha
    ·exact (new4 a ha).2 h
    ·exact (frn a ha).2 h
  have sIk:s.heap.get? Ik=none:=by
   cases q:s.heap.get? Ik with
   | none=>rfl
   | some o=>rw [ls _ _ q] at hI0;cases hI0
  have D2:Dfs w t2.heap N SA su Sa Ta Ea Da sn []:=D.get λa ha o e=>E12.get a o (IkX a (List.mem_append_left _ (by
   (rcases ha with h | h | h | h | z1)<;>(first | (refine q1_2 z1 λy hy _=>?_;clear z1) | skip)
   ·simp [h]
   ·simp [h]
   ·simp [h]
   ·simp [h]
   ·cases hy))) e
  have hU2:∀ L'∈frs outer,Upf L' s t2:=λL' hL'=>(hU L' hL').trans (E12.upf (IkX L' (List.mem_append_right _ hL')))
  have hk2:∀ a o,a∉frs outer->s.heap.get? a=some o->t2.heap.get? a=some o:=λa o hf e=>E12.get a o (λhm=>by
   rcases zC hm with h | h
   ·rw [h,sIk] at e;cases e
   ·exact I1.notft e h) (hk a o hf e)
  have Gd:Fg w mg mb mN K (A.deeper (fcEnv pm cd L)) s t2 b' ([Sa,Ta,Ea,Da]++frs outer) outer d Sa Ta Ea Da NA EA SA N np su pm cd L:=
   ⟨S.le lb,C,G.le lb,hds,S.nmod (hb.none (new4 Da (by simp)).1),hup,hlen,Around.frames_deeper hfr,fr,λa ha=>List.mem_append_left _ ha,ST,λa ha=>J2.live a (zT ha),
    λL' hL'=>⟨(λz=>by refine q1_1 (frl L' hL') λo q=>?_;rw [z] at q;cases q),(frn L' hL').1,(frn L' hL').2,List.mem_append_right _ hL'⟩,(λa ha=>by
     cases q:s.heap.get? a with
     | none=>rfl
     | some o=>
      exfalso
      by_cases hf:a∈frs outer
      ·refine q1_1 (hU2 a hf o q) λsl q2=>?_
       rw [ha] at q2;cases q2
      ·have:=hk2 a o hf q
       rw [ha] at this;cases this),ok'.hd,lbs⟩
  have Z:Fz s t2 b' ([Sa,Ta,Ea,Da]++frs outer) (fcEnv pm cd L) outer (up m1 (sO "node") (.int (v:Int) t)) _ t2:=⟨J2.sub λa ha=>zT ha,Ev.refl _ _,hU2⟩
  have fin:∀ s3 m3 cm3,Fz s t2 b' ([Sa,Ta,Ea,Da]++frs outer) (fcEnv pm cd L) outer m3 cm3 s3->MV m3 d Sa Ta Ea Da->(∃ sn,Dfs w s3.heap N SA su Sa Ta Ea Da sn [])->∃ b₃ m3 cm3,Le b' b₃/\Ev (ft (fcEnv pm cd L) []++([Sa,Ta,Ea,Da]++frs outer)) t2 s3/\InF s b₃ (Ik::([Sa,Ta,Ea,Da]++frs outer)) (fcEnv pm cd L) [] m3 cm3 s3/\
    (Le bq b₃/\Le b₃ s.heap/\MV m3 d Sa Ta Ea Da/\(∃ sn,Dfs w s3.heap N SA su Sa Ta Ea Da sn [])/\(∀ L'∈frs outer,Upf L' s s3)/\∀ a o,a∉frs outer->s.heap.get? a=some o->s3.heap.get? a=some o):=λs3 m3 cm3 Z' M' D'=>by
   have Ikn:Ik∉ft (fcEnv pm cd L) []++([Sa,Ta,Ea,Da]++frs outer):=λhm=>by
    rcases List.mem_append.mp hm with h | h
    ·exact J2.apart Ik (zH ..) h
    ·exact hIX h
   refine e3_9 b' m3 cm3 (Le.refl _) Z'.ev ⟨Z'.inF.same,Z'.inF.le,Z'.inF.fs,J2.off,λa ha=>?_,J2.apart⟩ lb lbs M' D' Z'.up (λa o hf e=>Z'.ev.get a o (λhm=>?_) (hk2 a o hf e))
   ·rcases zC ha with rfl | ha
    ·refine q1_1 (J2.live a (zH ..)) λo q=>?_
     exact⟨o,Z'.ev.get _ _ Ikn q⟩
    ·exact Z'.inF.live a ha
   ·rcases List.mem_append.mp hm with h | h
    ·exact I1.notft e h
    ·rcases List.mem_append.mp h with h | h
     ·rw [(new4 a h).1] at e;cases e
     ·exact hf h
  refine q1_2 (D2.seen) λS' hS' hSi=>?_
  refine seqk (ex_if J2.le (Td.inSet (Yd.namI (J2.fs.var (x:=sO "node") (v:=.int (v:Int) t) rfl rfl (by simp [up]))) (Yd.namV (J2.fs.var (x:=sO "seen") rfl rfl M.up.seen)) hS') λs3 k3=>?_)
  have D3:=D2.get (h':=s3.heap) λa _ o e=>k3.le.get a o e
  rw [hSi v]
  by_cases hsn:v∈sn
  ·simp only [hsn,decide_true,if_true]
   exact seqk (wpAny_Continue ⟨.inr rfl,fin s3 _ _ (Z.kp k3) M.up ⟨sn,D3⟩⟩)
  ·simp only [hsn,decide_false,Bool.false_eq_true,if_false]
   refine nil_ (seqk (Wp.to (outer_loop Gd (bound:=meas su N sn []+1) (e4_8 _ v t [] (Z.kp k3) M.up (by simp [up]) hvN (λ_ h=>nomatch h) D3 (Nat.lt_succ_self _) (λ_ h=>nomatch h))) λf s4 q=>?_))
   refine byC0 λzn=>?_;refine q0_2 q λz1 z2=>?_;clear q;subst z1;refine q3_5 z2 λsn' bd m4 Z4 M4 D4 z3 z4=>?_;clear z2;clear z3;clear z4;refine zn ?_;clear zn
   exact nil_ ⟨.inl rfl,fin s4 _ _ Z4 M4 ⟨sn',D4⟩⟩
 ·refine byC0 λzn=>?_;refine q0_2 q λz1 z2=>?_;clear q;subst z1;refine q5_9 z2 λIk b' m' cm' s8 l' I8 hIf hIX hIn I9 z3 E89 E79=>?_;clear z2;refine q0_6 z3 λz4 z5 z6 z7 hU hkeep=>?_;clear z3;clear z4;clear z5;clear z6;clear z7;refine zn ?_;clear zn
  have lb7:∀ a o,a∉frs outer->s.heap.get? a=some o->s7.heap.get? a=some o:=λa o hf e=>E89.get a o (λhm=>by
   rw [zS hm] at e
   rw [ls _ _ e] at hIn;cases hIn) (hkeep a o hf e)
  refine ret_ I8.le Yd.none λv s9 k q=>⟨q _ (I8.le.trans k.le) (Nw.self _ _),⟨same_trans I8.same k.same,λc o hc e=>k.le.get _ _ (lb7 c o hc e)⟩,λL' hL'=>?_⟩
  refine ((hU L' hL').trans (E89.upf λhm=>?_)).trans ((k.ev (X:=[])).upf (by simp))
  refine q1_1 (frl L' hL') λo e=>?_
  rw [zS hm] at e
  rw [ls _ _ e] at hIn;cases hIn
theorem zall:∀ p,zR p:=all1 zaux
end
end Z11
theorem fc_call {w A s mg mb mN K x dx d mA NA EA SA N np su outer n bq}:Z11.zQ w A s mg mb mN K x dx d mA NA EA SA N np su outer n bq:=Z11.zall ((((w,A),(s,(mg,mb))),((mN,K),(x,(dx,d)))),(((mA,NA),(EA,(SA,N))),((np,su),(outer,(n,bq)))))
section
variable {w:World} {A:Around} {s:Shared} {b h:Heap} {env:Env}
theorem Src.vals {o:Expr} {apos pos:Pos} {d:Addr} {NA:Nat->Addr} {N:Nat} (hA:A.handled=none) (ho:Yd w A b h env o (IsV (.ref d))) (hd:b.DictOf (intKind Pg w) d (kvs NA N)) (hds:(d == sysModules)=false)
  (hbase:autoParam (attributeBase o (sO "values") env (eval o env)=eval o env) auR) (hline:autoParam ((apos.endLine == pos.line)=true) auR) (hst:autoParam (backTo pos (starEach [] env)=[]) auR)
  (hf:autoParam (∀ x,foldedSetIterable (.Call (.Attribute o (sO "values") apos) [] [] pos) env x=pure x) auI1) :
  Src w A b h env (.Call (.Attribute o (sO "values") apos) [] [] pos) (List.range N) (λi v=>v=.ref (NA i)):=by
 refine⟨hf,λs hb hs=>?_⟩
 refine wpAny_Call_method_lateS hbase (by rw [hst];rfl) hline ((ho s hb hs).to λu s1 q=>?_)
 have hb1:=hb.trans q.1.le
 have e1:u=.ref d:=q.2 _ hb1 (Nw.self _ _)
 subst e1
 have hd1:s1.heap.DictOf (intKind Pg w) d (kvs NA N):=hd.keep hb1.get
 refine e2_6 ("dict") ("dict.values") F.plainAttrs_dict F.slot_dict_values F.type_dict_values hd1.typeIs hd1.mapOf.noDict ?_
 rw [hst]
 refine Calls.callWith_builtin rfl (PySem.evalArgs_none ?_)
 refine call_meetsIn F.slot_dict_values hd1.typeIs F.entry_dict_values (F.args_dict_values_1 _) (meets_dict_values (intKind Pg w) d hds) ⟨⟨_,hd1⟩,?_⟩
 have hv:(s1.heap.push { cls:=.type "dict_values",data:=.fields #[.ref d] }).IsValuesView s1.heap.objs.size d:=e1_3 _ (Heap.get?_push_size _ rfl) rfl rfl
 refine⟨q.1.trans (Kp.push _ _),?_⟩
 refine q1_1 (hd.dictAt) λep hm=>?_
 generalize hH:s1.heap.push { cls:=.type "dict_values",data:=.fields #[.ref d] }=H at hv
 have hbH:Le b H:=by rw [← hH];exact hb1.trans (Le.push _ _)
 have hm':H.DictAt (intKind Pg w) d (kvs NA N) ep:=hm.keep hbH.get
 have hne:d≠H.objs.size:=Nat.ne_of_lt hm'.lt_size
 refine wpAny_pyIter_values hv hm' ?_
 have W:=Walks.dictValues (prog:=Pg) (w:=w) (A:=A) (knd:=intKind Pg w) hA H.objs.size d hne (kvs NA N) ep
 rw [kvs_len] at W
 rw [List.length_range]
 refine e3_8 H.objs.size [H.objs.size,d] (λi h=>h.IsValIter H.objs.size d i N ep/\h.DictAt (intKind Pg w) d (kvs NA N) ep) rfl ?_ ?_ (Kp.push _ _) (get_size_none _) (λi h' st=>?_) (λc hc hn=>?_) (λi v target s' _ st=>?_)
 ·refine⟨W.sub,W.frame,λi s Q E hi st hQ=>W.item i s Q E hi st λv h' tk hv=>hQ v h' tk ?_,W.done,W.self⟩
  refine byC0 λzn=>?_
  refine q1_1 hv λk hk=>?_;clear hv
  simp only [kvs,List.getElem?_map,Option.map_eq_some_iff] at hk
  refine q1_2 hk λj hj e=>?_;clear hk
  refine zn ?_;clear zn
  cases e
  exact e1_2 j hj rfl
 ·exact⟨e1_3 _ (Heap.get?_push_size _ rfl) rfl (by rw [kvs_len];rfl),hm'.push _⟩
 ·refine q1_2 (st.1) λo ho _=>?_;exact⟨o,ho⟩
 ·rcases zC hc with e | hc
  ·exact absurd e hn
  ·refine q2_2 hm λo _ e _=>?_;clear hm
   rw [zS hc];exact⟨o,e⟩
 ·refine q1_3 (st.1) λo ho hc hd=>?_
  exact letGo_other ho hc hd (by decide)
end
noncomputable def tsN:List Str:=[sO "_node2info",sO "_ready_nodes",sO "_npassedout",sO "_nfinished"]
theorem Within.up {m:SoV} {ns:List Str} {x:Str} {v:Value} (W:Within m ns) (hx:x∈ns):Within (up m x v) ns:=λy hy=>by
 by_cases h:y=x
 ·rw [h];exact hx
 ·exact W y (by simpa [Mine.Internal.up,h] using hy)
theorem Within.no {m:SoV} {ns:List Str} {x:Str} (W:Within m ns) (hx:x∉ns):m x=none:=by
 cases h:m x with
 | none=>rfl
 | some v=>exact absurd (W x (by rw [h];simp)) hx
noncomputable abbrev prEnv (pm cd:Value) (L:Addr):Env:=callEnvC (fdOf (meth 10 3) (sO "TopologicalSorter.prepare") .none pm cd) L 106
namespace Z17
noncomputable section
def zQ (w:World) (A:Around) (s:Shared) (mg mb mN:SoV) (K:Frag) (x dx d:Addr) (mA:SoV) (NA EA SA:Nat->Addr) (N:Nat) (np:Nat->Int) (su:Nat->List Nat) (outer:List Env) (n:Nat) (b₀:Heap):Prop:=∀ (ok:Ok (n+3) A) (hfr:A.frames=some outer) (fr:FrOk s.heap outer) (frq:∀ L∈frs outer,b₀.get? L=none) (S:St w mg mb mN K b₀) (hb:Le b₀ s.heap) (C:Con mg mb mN K) (I:IA s.heap x dx mA) (W:Within mA tsN) (h2:mA (sO "_node2info")=some (.ref d)) (hr:mA (sO "_ready_nodes")=some .none) (G:Gr w s.heap d NA EA SA N np su) (hds:(d == sysModules)=false) (hup:∀ i,i<N->∀ j∈su i,i<j/\j<N) (hlen:N<=100/\∀ i,i<N->(su i).length<=20000) (frx:∀ L∈frs outer,L≠x/\L≠dx/\L∉gA d NA EA SA N) (hx:x∉gA d NA EA SA N) (hdx:dx∉gA d NA EA SA N) (offx:b₀.get? x=none/\b₀.get? dx=none),Wp w A (call (.ref 106) [.ref x]) (λv s'=>v=.none/\Ev (x::dx::frs outer) s s'/\(∀ L∈frs outer,Upf L s s')/\∃ rd,IA s'.heap x dx (up mA (sO "_ready_nodes") (.ref rd))/\NatL s'.heap rd ((List.range N).filter λi=>np i == 0)/\s.heap.get? rd=none) s
abbrev zY:=((((World×Around)×(Shared×(SoV×SoV)))×((SoV×Frag)×(Addr×(Addr×Addr))))×(((SoV×(Nat->Addr))×((Nat->Addr)×((Nat->Addr)×Nat)))×(((Nat->Int)×(Nat->List Nat))×((List Env)×(Nat×Heap)))))
def zR (p:zY):=zQ p.1.1.1.1 p.1.1.1.2 p.1.1.2.1 p.1.1.2.2.1 p.1.1.2.2.2 p.1.2.1.1 p.1.2.1.2 p.1.2.2.1 p.1.2.2.2.1 p.1.2.2.2.2 p.2.1.1.1 p.2.1.1.2 p.2.1.2.1 p.2.1.2.2.1 p.2.1.2.2.2 p.2.2.1.1 p.2.2.1.2 p.2.2.2.1 p.2.2.2.2.1 p.2.2.2.2.2
def zc:zY:=eps1 (neP (neP (neP (neP neW neA) (neP neS neI)) neI) neI) zR
def w:=zc.1.1.1.1
def A:=zc.1.1.1.2
def s:=zc.1.1.2.1
def mg:=zc.1.1.2.2.1
def mb:=zc.1.1.2.2.2
def mN:=zc.1.2.1.1
def K:=zc.1.2.1.2
def x:=zc.1.2.2.1
def dx:=zc.1.2.2.2.1
def d:=zc.1.2.2.2.2
def mA:=zc.2.1.1.1
def NA:=zc.2.1.1.2
def EA:=zc.2.1.2.1
def SA:=zc.2.1.2.2.1
def N:=zc.2.1.2.2.2
def np:=zc.2.2.1.1
def su:=zc.2.2.1.2
def outer:=zc.2.2.2.1
def n:=zc.2.2.2.2.1
def b₀:=zc.2.2.2.2.2
theorem zaux:zQ w A s mg mb mN K x dx d mA NA EA SA N np su outer n b₀:=by
 intro ok hfr fr frq S hb C I W h2 hr G hds hup hlen frx hx hdx offx
 refine q2_1 ((S.le hb).f106) λpm cd F=>?_
 refine wpAny_call (call_fn0 (n:=n+2) (binds:=[(sO "self",.ref x)]) ok F (S.le hb).lim rfl (by kernel_rfl) rfl (by kernel_rfl) (λ_=>by kernel_rfl) (λ_=>by kernel_rfl) λs1 L m cm B I1 ok'=>?_)
 have frl:∀ L'∈frs outer,∃ o,s.heap.get? L'=some o:=λL' hL'=>by
  refine byC0 λzn=>?_
  refine q1_2 (List.mem_filterMap.mp hL') λe he hf=>?_
  refine s2_3 (fr e he) λ_ L'' o hf' ho _=>?_
  refine zn ?_;clear zn
  rw [hf] at hf';cases hf'
  exact⟨o,ho⟩
 refine q1_2 (I.obj) λox hox _=>?_
 obtain ⟨odx,hodx⟩:∃ o,s.heap.get? dx=some o:=q3_2 I.ns.ns λo _ _ e _=>⟨o,e⟩
 have liveX:∀ a∈x::dx::frs outer,∃ o,s.heap.get? a=some o:=λa ha=>by
  (rcases zC ha with rfl | ha)
  ·exact⟨_,hox⟩
  ·(rcases zC ha with rfl | ha)
   ·exact⟨_,hodx⟩
   ·exact frl a ha
 have offX:∀ a∈x::dx::frs outer,b₀.get? a=none:=λa ha=>by
  (rcases zC ha with rfl | ha)
  ·exact offx.1
  ·(rcases zC ha with rfl | ha)
   ·exact offx.2
   ·exact frq a ha
 have I2:=(I1.hide (x::dx::frs outer) (λc hc=>q1_1 (liveX c hc) λo e=>⟨o,I1.le.get _ _ e⟩) (λc hc=>q1_1 (liveX c hc) λo e=>I1.notft e)).down (le_hide hb offX)
 have hb1:=hb.trans I1.le
 refine seqk (ex_if (r:=false) I2.le (Td.cmp (Yd.atr (I2.fs.var (x:=sO "self") rfl rfl (B 0 _ _ rfl)) (S.le hb1).ts (I.le I1.le) hr (C.mN0 _ (by simp)) (C.mN0 _ (by simp)) rfl tl1) Yd.none (λu v s _ _ hu hv=>by cases hu;cases hv;exact isnot_none_none ⟨Kp.refl s,rfl⟩)) λs2 k2=>?_)
 simp only [Bool.false_eq_true,if_false]
 refine nil_ ?_
 have I3:=I2.kp k2
 have l02:Le s.heap s2.heap:=I1.le.trans k2.le
 have hb2:=hb.trans l02
 have G2:=G.le l02
 have V2:=I3.fs.var (x:=sO "self") rfl rfl (B 0 _ _ rfl)
 refine seq (Φ:=λf s3=>f=.next/\Ev [x,dx] s2 s3/\∃ rd,IA s3.heap x dx (up mA (sO "_ready_nodes") (.ref rd))/\NatL s3.heap rd ((List.range N).filter λi=>np i == 0)/\s2.heap.get? rd=none) (plainObj_wpAny_Assign_Attribute ?_ (by rfl)) λf s3 q=>?_
 ·refine Wp.to (Yd.compN (cl:=[]) (B:=λi v=>v=.ref (NA i)) (xs:=List.range N) (p:=λi=>np i == 0) (f:=λi=>[i]) (R:=λi v _=>IsN i v) (K₁:=λi m _=>m (sO "i")=some (.ref (NA i))) (b:=b₀) (r:=s2.heap) rfl rfl (by decide) rfl (by intro g' h;cases h) (by intro C n c h;cases h) hb2
   (Src.vals ok'.hd (Yd.atr V2 (S.le hb2).ts (I.le l02) h2 (C.mN0 _ (by simp)) (C.mN0 _ (by simp)) rfl tl0) G2.dict hds) ?_ ?_ s2 hb2 (Le.refl _)) λv s3 q=>?_
  ·rw [sizeLine_eq,List.flatMap_singleton']
   have:=List.length_filter_le (λi=>np i == 0) (List.range N)
   rw [List.length_range] at this
   omega
  ·intro Cc D O
   refine⟨λi v s m cm hx hB hs F=>?_,λi hh m cm hi hr F hK=>?_,λi hi hp=>?_⟩
   ·cases hB
    exact (asg_loc F rfl rfl).to λ_ s' q=>e0_2 q.1 (e2_2 _ _ q.2 (by simp [up]))
   ·have xi:=G2.info i (List.mem_range.mp hi)
    refine q2_1 (xi.obj) λt1 t2 xq=>?_
    exact Ts.one (Td.eq (Yd.slt (S.le (hb2.trans hr)).k C.nk.np (inst_ni (hr.get _ _ xq) (hr.get _ _ xi.dict)) (v:=.int (np i) t2) rfl rfl (Yd.namV (F.var (x:=sO "i") rfl rfl hK)) (λ_=>⟨t2,rfl⟩)) Yd.int)
   ·have xi:=G2.info i (List.mem_range.mp hi)
    refine q2_1 (xi.obj) λt1 t2 xq=>?_
    refine emit_leaf rfl hb2 O λhh m' cm' hr F hK=>?_
    exact Yd.slt (S.le (hb2.trans hr)).k C.nk.node (inst_ni (hr.get _ _ xq) (hr.get _ _ xi.dict)) (v:=.int (i:Int) t1) rfl rfl (Yd.namV (F.var (x:=sO "i") rfl rfl hK)) (λ_=>⟨t1,rfl⟩)
  ·refine byC0 λzn=>?_;refine q0_2 (q.2 _ (hb2.trans q.1.le) (Nw.self _ _)) λz1 z4=>?_;refine q2_2 z1 λD ys z2 z3=>?_;clear z1;subst z2;refine q0_2 z3 λhD hys=>?_;clear z3;refine q1_2 z4 λ_ z nD=>?_;clear z4;refine zn ?_;clear zn
   cases z
   rw [List.flatMap_singleton'] at hys
   refine wpAny_Name (V2 w _ s3 _ _ q.1.le ?_) (by decide)
   refine (set_ia (S.le (hb2.trans q.1.le)).ts (I.le (l02.trans q.1.le)) (C.mN0 _ (by simp)) (C.mN0 _ (by simp)) tl1 W (by rw [sizeLine_eq];decide)).to λ_ s4 q4=>e0_3 rfl (q.1.ev.trans q4.1) (e1_3 D q4.2 (e1_2 ys.toList ?_ hys) nD)
   refine (show s3.heap.PlainList D ys.toList.toArray by simpa using hD).at λo e=>q4.1.get _ o (λhm=>?_) e
   have:D=x\/D=dx:=by simpa using hm
   (rcases this with rfl | rfl)
   ·rw [l02.get _ _ hox] at nD;cases nD
   ·rw [l02.get _ _ hodx] at nD;cases nD
 ·refine byC0 λzn=>?_;refine q0_2 q λz1 z2=>?_;clear q;subst z1;refine q0_2 z2 λE23 z3=>?_;clear z2;refine q1_3 z3 λrd I4 hrd nrd=>?_;clear z3;refine zn ?_;clear zn
  have nX:∀ a∈([x,dx]:List Addr),a∉ft (prEnv pm cd L) []/\a∉frs outer/\b₀.get? a=none:=λa ha=>by
   replace ha:=mem2 ha
   refine byC0 λzn=>?_;((rcases ha with rfl | rfl))<;>(refine zn ?_;clear zn)
   ·exact⟨I1.notft hox,λhm=>(frx _ hm).1 rfl,offx.1⟩
   ·exact⟨I1.notft hodx,λhm=>(frx _ hm).2.1 rfl,offx.2⟩
  have liveXd:∀ a∈([x,dx]:List Addr),∃ o,s3.heap.get? a=some o:=λa ha=>by
   replace ha:=mem2 ha
   (rcases ha with rfl | rfl)
   ·refine q1_2 (I4.obj) λo e _=>?_;exact⟨o,e⟩
   ·refine q3_2 (I4.ns) λo _ _ e _=>?_;exact⟨o,e⟩
  have I5:=I3.ev2 E23 (λa ha=>(nX a ha).2.2) (I3.fs.get λc hc o e=>E23.get c o (λhm=>(nX c hm).1 hc) e) (λa _ hm=>liveXd a hm)
  have hb3:Le b₀ s3.heap:=I5.le
  have frL:∀ L'∈frs (prEnv pm cd L::outer),L'=L\/L'∈frs outer:=λL' h=>zC (show L'∈L::frs outer from h)
  have U3:∀ L'∈frs outer,Upf L' s s3:=λL' hL' o e=>⟨o.slots,E23.get _ _ (λhm=>(nX L' hm).2.1 hL') (l02.get _ _ e)⟩
  have fr3:FrOk s3.heap (prEnv pm cd L::outer):=by
   intro e he
   refine byC0 λzn=>?_;((rcases zC he with rfl | he))<;>(refine zn ?_;clear zn)
   ·refine q3_3 (I5.fs.ns) λo es ep h1 h2 _=>?_
    exact e0_2 (show ScopeKind.function≠ScopeKind.module from by decide) (e2_3 _ o rfl h1 (λvs q=>by rw [h2] at q;cases q))
   ·exact (fr.up U3) e he
  have offF:∀ a∈frs (prEnv pm cd L::outer),b₀.get? a=none:=λa ha=>by
   (rcases frL a ha with z0 | h)<;>(first | (replace z0:=Eq.symm z0;subst z0) | skip)
   ·exact I5.off _ (.inl (zH ..))
   ·exact frq a h
  have gne:∀ a∈gA d NA EA SA N,a∉frs (prEnv pm cd L::outer)/\a∉([x,dx]:List Addr):=λa ha=>by
   refine q1_1 (G.live a ha) λo e=>?_
   refine⟨λhm=>?_,λhm=>?_⟩
   ·(rcases frL a hm with z0 | h)<;>(first | (replace z0:=Eq.symm z0;subst z0) | skip)
    ·exact I1.notft e (zH ..)
    ·exact (frx a h).2.2 ha
   ·replace hm:=mem2 hm
    (rcases hm with rfl | rfl)
    ·exact hx ha
    ·exact hdx ha
  have I4b:IA (hideAll s3.heap (frs (prEnv pm cd L::outer))) x dx (up mA (sO "_ready_nodes") (.ref rd)):=I4.get λa ha o e=>hideAll_get _ e λhm=>by
   have ha':a∈([x,dx]:List Addr):=by ((rcases ha with rfl | rfl))<;>simp
   (rcases frL a hm with z0 | h)<;>(first | (replace z0:=Eq.symm z0;subst z0) | skip)
   ·exact (nX _ ha').1 (zH ..)
   ·exact (nX _ ha').2.1 h
  have G4b:Gr w (hideAll s3.heap (frs (prEnv pm cd L::outer))) d NA EA SA N np su:=(G2.get (h':=s3.heap) λa ha o e=>E23.get a o (gne a ha).2 e).get λa ha o e=>hideAll_get _ e (gne a ha).1
  refine seq (Φ:=λf s5=>f=.next/\Ev (L::frs outer) s3 s5/\(∀ L'∈frs outer,Upf L' s3 s5)/\Fs s5.heap (prEnv pm cd L) [] (up m (sO "cycle") .none) cm) (wpAny_Assign_Name (eval_meth0 (I5.fs.var (x:=sO "self") rfl rfl (B 0 _ _ rfl)) (S.le hb3).ts I4 C.fc (S.le hb3).f141.choose_spec.choose_spec (C.mN0 _ (by simp)) (C.mN0 _ (by simp)) (by rw [show (up mA (sO "_ready_nodes") (Value.ref rd)) (sO "_find_cycle")=mA (sO "_find_cycle") from by simp +decide [up]];exact Mine.Internal.Within.no W (by decide)) tl10
   ((fc_call (n:=n+1) ok' (Around.frames_deeper hfr) fr3 (λa ha=>hideAll_none _ ha) (S.le (le_hide hb3 offF)) ⟨λa o e=>of_hideAll _ e⟩ C I4b (by simp +decide [up];exact h2) G4b hds hup hlen).to λv s4 q=>?_)) rfl) λf s5 q=>?_
  ·refine byC0 λzn=>?_;refine q0_2 q λz1 z2=>?_;clear q;subst z1;refine q0_2 z2 λE34 U34=>?_;clear z2;refine zn ?_;clear zn
   have F4:=Fs.upf I5.fs (U34 L (zH ..))
   refine (sto_loc F4 rfl rfl).to λ_ s5 q5=>⟨rfl,?_,λL' hL'=>(U34 L' (zT hL')).trans (q5.1.upf λhm=>?_),q5.2⟩
   ·exact Ev.trans (E34.mono λa ha=>ha) (q5.1.mono λa ha=>by
     simp only [ft,List.map_nil,List.mem_singleton] at ha
     rw [ha];exact zH ..)
   ·refine q1_1 (frl L' hL') λo e=>?_
    exact I1.notft e hm
  ·refine byC0 λzn=>?_;refine q0_2 q λz1 z2=>?_;clear q;subst z1;refine q0_3 z2 λE35 U35 F5=>?_;clear z2;refine zn ?_;clear zn
   have hb5:Le b₀ s5.heap:=E35.le hb3 λa ha=>by
    (rcases zD ha with rfl | h)
    ·exact I5.off _ (.inl (zH ..))
    ·exact frq a h
   refine seqk (wpAny_If (isTrue_plain (wpAny_Name ((F5.var (x:=sO "cycle") (v:=.none) rfl rfl (by simp [up])) w _ s5 _ _ (Le.refl _) (truthy_none ?_)) (by decide))))
   simp only [Bool.false_eq_true,if_false]
   refine nil_ (nil_ (e0_4 rfl ⟨?_,λc o hc e=>?_⟩ (λL' hL'=>?_) (e1_3 rd ?_ ?_ ?_)))
   ·exact same_trans I5.same E35.same
   ·have hc':c∉([x,dx]:List Addr):=λhm=>hc (by
     replace hm:=mem2 hm
     ((rcases hm with rfl | rfl))<;>simp)
    refine E35.get c o (λhm=>?_) (E23.get c o hc' (l02.get _ _ e))
    (rcases zD hm with rfl | h)
    ·exact I1.notft e (zH ..)
    ·exact hc (zT (zT h))
   ·exact (U3 L' hL').trans (U35 L' hL')
   ·exact I4.get λa ha o e=>E35.get a o (λhm=>by
     have ha':a∈([x,dx]:List Addr):=by ((rcases ha with rfl | rfl))<;>simp
     (rcases zD hm with rfl | h)
     ·exact (nX _ ha').1 (zH ..)
     ·exact (nX _ ha').2.1 h) e
   ·refine hrd.at λo e=>E35.get rd o (λhm=>?_) e
    rcases zC hm with h | h
    ·refine q1_1 (I3.fs.live L (zH ..)) λo' q=>?_
     rw [h] at nrd
     have q':s2.heap.get? L=some o':=q
     rw [nrd] at q';cases q'
    ·refine q1_1 (frl rd h) λo' q=>?_
     rw [l02.get _ _ q] at nrd;cases nrd
   ·exact l02.none nrd
theorem zall:∀ p,zR p:=all1 zaux
end
end Z17
theorem prep_call {w A s mg mb mN K x dx d mA NA EA SA N np su outer n b₀}:Z17.zQ w A s mg mb mN K x dx d mA NA EA SA N np su outer n b₀:=Z17.zall ((((w,A),(s,(mg,mb))),((mN,K),(x,(dx,d)))),(((mA,NA),(EA,(SA,N))),((np,su),(outer,(n,b₀)))))
theorem meets_bool_list (l:Addr) (items:Array Value) (hfit:(items.size:Int)<2 ^ 63) :
  Meets (Builtin.«bool.__new__» ⟨[.type "bool",.ref l],[]⟩) (λ_ R s=>s.heap.IsList l items/\R (.ok (.ret (.bool (!items.isEmpty)))) { s with toks:=s.toks+1+1 }):=
 Meets.of_wp λprog w A R s hs=>by
  refine byC0 λzn=>?_
  rcases s with ⟨hp,g,d,tk,os⟩
  refine q0_2 hs λhl z1=>?_;clear hs;revert z1;intro hs
  refine zn ?_;clear zn
  have f1:=F.conv_sub_bool
  repeat (any_goals (first | assumption | (with_reducible refine wpAny_truthy_list hl hfit ?_) | wp_step))
  all_goals first | exact (e1_2 _ rfl hs) | exact hs | skip
section
variable {w:World} {A:Around} {s:Shared} {b h:Heap} {env:Env}
theorem call_bool_list {l:Addr} {items:Array Value} {Q:Value->Shared->Prop} {E:Value->Shared->Prop} (hl:s.heap.IsList l items) (hfit:(items.size:Int)<2 ^ 63) (h:Q (.bool (!items.isEmpty)) { s with toks:=s.toks+1+1 }):wpAny (model Pg w) A (call (.type "bool") [.ref l]) Q E s:=
 call_bool_1 (meets_bool_list l items hfit) ⟨hl,show wants (λobj s1=>s1.TypeIs obj "bool"/\Q obj s1) E _ _ from ⟨rfl,h⟩⟩
theorem Yd.orlt {l r e:Expr} {p q:Pos} {i j:Int} {c:Bool} (x:Yd w A b h env l (IsI i)) (y:Yd w A b h env r (IsI j)) (z:Yd w A b h env e (IsB c)) (hm:autoParam (behindInMarks .Lt r=false) auR):Yd w A b h env (.BoolOp .Or [.Compare l [.Lt] [r] p,e] q) (IsB (decide (i<j) || c)):=λs hb hs=>by
 have k1:=Yd.cmp (P₁:=IsI i) (P₂:=IsI j) (c:=decide (i<j)) (p:=p) x y (λu v s _ _ hu hv=>by refine q1_1 hu λt z1=>?_;clear hu;subst z1;refine q1_1 hv λt' z1=>?_;clear hv;subst z1;exact lt_int ⟨Kp.refl s,rfl⟩) hm
 refine wpAny_Or2 ((k1 s hb hs).to λv s1 q1=>?_)
 have e1:v=.bool (decide (i<j)):=q1.2 _ (hb.trans q1.1.le) (Nw.self _ _)
 subst e1
 refine wpAny_truthy_bool ?_
 cases hd:decide (i<j) with
 | true=>exact⟨q1.1,λ_ _ _=>rfl⟩
 | false=>
  simp only [Bool.false_eq_true,if_false,Bool.false_or]
  exact (z s1 (hb.trans q1.1.le) (hs.trans q1.1.le)).to λv s2 q2=>⟨q1.1.trans q2.1,λg hg n=>q2.2 g hg (n.right q1.1.le)⟩
end
section
variable {w:World} {A:Around} {s:Shared} {mg mb mN:SoV} {K:Frag} {x dx d rd:Addr} {mA:SoV} {l:List Nat} {po fi:Int} {tp ti:Tok}
theorem act_call {n:Nat} (ok:Ok (n+1) A) (S:St w mg mb mN K s.heap) (C:Con mg mb mN K) (I:IA s.heap x dx mA) (hr:mA (sO "_ready_nodes")=some (.ref rd)) (hp:mA (sO "_npassedout")=some (.int po tp)) (hf:mA (sO "_nfinished")=some (.int fi ti)) (hl:NatL s.heap rd l) (hln:l.length<1000) :
  Wp w A (call (.ref 120) [.ref x]) (λv s'=>Kp s s'/\v=.bool (decide (fi<po) || !l.isEmpty)) s:=by
 refine q2_1 (S.f120) λpm cd F=>?_
 refine wpAny_call (call_fn0 (n:=n) (binds:=[(sO "self",.ref x)]) ok F S.lim rfl (by kernel_rfl) rfl (by kernel_rfl) (λ_=>by kernel_rfl) (λ_=>by kernel_rfl) λs1 L m cm B I1 ok'=>?_)
 have V:=I1.fs.var (x:=sO "self") rfl rfl (B 0 _ _ rfl)
 have T:=(S.le I1.le).ts
 have IA1:=I.le I1.le
 refine seqk (ex_if (r:=false) I1.le (Td.cmp (Yd.atr V T IA1 hr (C.mN0 _ (by simp)) (C.mN0 _ (by simp)) rfl tl1) Yd.none (λu v s _ _ hu hv=>by cases hu;cases hv;exact is_ref_none ⟨Kp.refl s,rfl⟩)) λs2 k2=>?_)
 simp only [Bool.false_eq_true,if_false]
 refine nil_ ?_
 have I2:=I1.kp k2
 refine q1_2 hl λws hws hpw=>?_;clear hl
 have hwl:ws.length=l.length:=hpw.length.symm
 have bb:=C.blt (sO "bool") (by simp)
 have T2:=(S.le I2.le).ts
 have IA2:=I.le I2.le
 have V2:=V.up k2.le
 refine ret_ I2.le (Yd.orlt (c:=!ws.toArray.isEmpty) ((Yd.atr V2 T2 IA2 hf (C.mN0 _ (by simp)) (C.mN0 _ (by simp)) rfl tl3).mono λv g _ q=>⟨ti,q⟩) ((Yd.atr V2 T2 IA2 hp (C.mN0 _ (by simp)) (C.mN0 _ (by simp)) rfl tl2).mono λv g _ q=>⟨tp,q⟩)
  (Yd.callT (I2.fs.blt (S.le I2.le).g bb.1 (S.le I2.le).b (bb.2.trans (by decide +kernel:bootBuiltins (sO "bool")=some (.type "bool"))) rfl rfl rfl rfl) (Yds.one (Yd.atr V2 T2 IA2 hr (C.mN0 _ (by simp)) (C.mN0 _ (by simp)) rfl tl1)) λvs s' hb' hs' q=>?_)) λv s3 k q=>⟨(I2.kp k).kp0 (Le.refl _),?_⟩
 ·refine v1 q λy1 ey a=>?_;subst ey
  cases a
  refine call_bool_list (hws.isList.at λo e=>hb'.get _ _ e) (by simp;omega) ⟨Kp.tok s' _,λ_ _ _=>rfl⟩
 ·have:=q _ (I2.le.trans k.le) (Nw.self _ _)
  rw [show v=_ from this]
  cases ws<;>cases l<;>simp at hwl ⊢<;>rfl
end
section
variable {w:World} {A:Around} {s:Shared} {b h:Heap} {env:Env}
theorem Yd.lent {x:Str} {p q:Pos} {e:Expr} {l:Addr} {items:Array Value} (V:Var h env x (.builtin "len")) (he:Yd w A b h env e (IsV (.ref l))) (hl:h.IsTuple l items) (hsz:items.size<2 ^ 62) (hd:autoParam ((x == ("__debug__" : Str))=false) auD) (hst:autoParam (starEach [e] env=(false,eval e env)::starEach [] env) auR) :
  Yd w A b h env (.Call (.Name x p) [e] [] q) (IsI (items.size:Int)):=
 Yd.callB V (Yds.one he hst) (λws s' hb' hs' q=>by
   refine v1 q λy1 ey a=>?_;subst ey
   cases a
   exact PyProof.Rows.len_tuple (items:=items) (hl.at λo e=>hs'.get _ _ e) (by omega) ⟨Kp.tok s' _,λg _ _=>⟨_,rfl⟩⟩) hd hst
theorem Yd.tupl {x:Str} {p q:Pos} {e:Expr} {l:Addr} {items:Array Value} (V:Var h env x (.type "tuple")) (he:Yd w A b h env e (IsV (.ref l))) (hl:h.IsList l items) (hsz:items.size<=sizeLine) (hd:autoParam ((x == ("__debug__" : Str))=false) auD) (hst:autoParam (starEach [e] env=(false,eval e env)::starEach [] env) auR) :
  Yd w A b h env (.Call (.Name x p) [e] [] q) (λv g=>(∃ T,v=.ref T/\g.IsTuple T items)/\Nu h v):=
 Yd.callT V (Yds.one he hst) (λws s' hb' hs' q=>by
   refine v1 q λy1 ey a=>?_;subst ey
   cases a
   refine call_tuple_list (hl.at λo e=>hs'.get _ _ e) (λh' hk=>?_) hsz
   have l1:Le s'.heap h':=⟨hk⟩
   have hn:s'.heap.get? h'.objs.size=Option.none:=l1.none (get_size_none _)
   exact⟨⟨e2_1 _ _ rfl,l1.trans (Le.push _ _)⟩,λg hg n=>e0_2 (e1_2 _ rfl (e1_3 _ (n.get _ _ hn (Heap.get?_push_size _ rfl)) rfl (e1_1 _ rfl))) (e1_2 _ rfl (hs'.none hn))⟩) hd hst
theorem ex_clear {o:Expr} {apos pos p:Pos} {l:Addr} {items:Array Value} (hb:Le b s.heap) (ho:Yd w A b s.heap env o (IsV (.ref l))) (hl:s.heap.PlainList l items) (hsz:items.size<=sizeLine)
  (hbase:autoParam (attributeBase o (sO "clear") env (eval o env)=eval o env) auR) (hline:autoParam ((apos.endLine == pos.line)=true) auR) (hst:autoParam (backTo pos (starEach [] env)=[]) auR)
  (hi:autoParam (interactive env=false) auR) (hs:autoParam (swapsWith (.Call (.Attribute o (sO "clear") apos) [] [] pos) none p.line env=pure false) auR) :
  Wp w A (exec (.Expr (.Call (.Attribute o (sO "clear") apos) [] [] pos) p) env) (λfl s'=>fl=.next/\Ev [l] s s'/\s'.heap.PlainList l #[]) s:=by
 refine wpAny_Expr_any ?_ hi hs
 refine wpAny_Call_method_lateS hbase (by rw [hst];rfl) hline ((ho s hb (Le.refl _)).to λu s1 q=>?_)
 have e1:u=.ref l:=q.2 _ (hb.trans q.1.le) (Nw.self _ _)
 subst e1
 refine q1_1 (hl.at λo e=>q.1.le.get _ o e) λn e=>?_
 refine e2_6 ("list") ("list.clear") F.plainAttrs_list F.slot_list_clear F.type_list_clear (e1_2 _ e rfl) (λa z=>by cases z;exact e1_2 _ e rfl) ?_
 rw [hst]
 refine P.clear_list e ⟨rfl,q.1.ev.trans ⟨e2_1 _ _ rfl,λc o hc e'=>(Heap.get?_update_ne _ _ _ _ (by simpa using hc)).trans e'⟩,?_⟩ hsz
 exact⟨_,Heap.get?_update_self (Obj.mapSeq λ_=>#[]) e rfl⟩
end
section
variable {w:World} {A:Around} {s₀ s:Shared} {b:Heap} {X:List Addr} {env:Env} {own:List (Str×Addr)} {m cm:SoV} {x dx:Addr} {N:Addr} {mN mA:SoV} {name:Str}
theorem ex_iaAug {n:Str} {np pa pos:Pos} {ex:Expr} {k j:Int} {t:Tok} {ns:List Str} (hb:Le b s.heap) (V:Var s.heap env n (.ref x)) (S:ClsAt s.heap 151 N mN) (I:IA s.heap x dx mA) (hv:mA name=some (.int k t)) (hg:mN "__getattribute__"=none) (hs:mN "__setattr__"=none) (hn:mN name=none) (hB:typeLookup (.type "object") name=pure none)
  (hw:Within mA ns) (hsz:ns.length<=sizeLine) (hY:Yd w A b s.heap env ex (IsI j)) (hd:autoParam ((n == ("__debug__" : Str))=false) auD) :
  Wp w A (exec (.AugAssign (.Attribute (.Name n np) name pa) .Add ex pos) env) (λfl s'=>fl=.next/\Ev [x,dx] s s'/\∃ t',IA s'.heap x dx (up mA name (.int (k+j) t'))) s:=by
 refine wpAny_AugAssign_AttributeAny (wpAny_Name (V w A s _ _ (Le.refl _) (get_ia S I hv hg hn rfl hB ?_)) hd)
 have k1:Kp s { s with toks:=s.toks+1 }:=Kp.tok s _
 refine (hY _ (hb.trans k1.le) (Le.refl _)).to λv s2 q=>?_
 refine byC0 λzn=>?_;refine q1_1 (q.2 _ ((hb.trans k1.le).trans q.1.le) (Nw.self _ _)) λu z1=>?_;subst z1;refine zn ?_;clear zn
 refine iadd_int ?_
 have k3:=(k1.trans q.1).trans (Kp.tok s2 (s2.toks+1))
 exact (set_ia (cls_le S k3.le) (I.le k3.le) hs hn hB hw hsz).to λ_ s4 q4=>e0_3 rfl (k3.ev.trans q4.1) (e1_1 _ q4.2)
end
structure Sor (w:World) (h:Heap) (x dx d rd:Addr) (NA EA SA:Nat->Addr) (N:Nat) (np:Nat->Int) (su:Nat->List Nat) (l:List Nat) (po fi:Int):Prop where
 ia:∃ mA,IA h x dx mA/\Within mA tsN/\mA (sO "_node2info")=some (.ref d)/\mA (sO "_ready_nodes")=some (.ref rd)/\(∃ t,mA (sO "_npassedout")=some (.int po t))/\∃ t,mA (sO "_nfinished")=some (.int fi t)
 gr:Gr w h d NA EA SA N np su
 rl:NatL h rd l
 sx:x∉gA d NA EA SA N
 sdx:dx∉gA d NA EA SA N
 srd:rd∉gA d NA EA SA N
noncomputable def sorA (x dx d rd:Addr) (NA EA SA:Nat->Addr) (N:Nat):List Addr:=x::dx::rd::gA d NA EA SA N
theorem Sor.get {w:World} {h h':Heap} {x dx d rd:Addr} {NA EA SA:Nat->Addr} {N:Nat} {np:Nat->Int} {su:Nat->List Nat} {l:List Nat} {po fi:Int} (S:Sor w h x dx d rd NA EA SA N np su l po fi) (k:∀ a∈sorA x dx d rd NA EA SA N,∀ o,h.get? a=some o->h'.get? a=some o) :
  Sor w h' x dx d rd NA EA SA N np su l po fi:=
 ⟨q1_2 S.ia λmA I r=>(e1_2 mA (I.get λa ha o e=>k a (by ((rcases ha with z0 | z0)<;>(replace z0:=Eq.symm z0;subst z0))<;>simp [sorA]) o e) r),S.gr.get λa ha o e=>k a (by simp [sorA,ha]) o e,S.rl.at λo e=>k rd (by simp [sorA]) o e,S.sx,S.sdx,S.srd⟩
theorem Sor.live {w:World} {h:Heap} {x dx d rd:Addr} {NA EA SA:Nat->Addr} {N:Nat} {np:Nat->Int} {su:Nat->List Nat} {l:List Nat} {po fi:Int} (S:Sor w h x dx d rd NA EA SA N np su l po fi):∀ a∈sorA x dx d rd NA EA SA N,∃ o,h.get? a=some o:=λa ha=>by
 refine q1_2 (S.ia) λmA I _=>?_
 (rcases zD ha with rfl | ha)
 ·refine q1_2 (I.obj) λo e _=>?_;exact⟨o,e⟩
 ·(rcases zD ha with rfl | ha)
  ·refine q3_2 (I.ns) λo _ _ e _=>?_;exact⟨o,e⟩
  ·(rcases zD ha with rfl | ha)
   ·refine q1_2 (S.rl.live) λo e _=>?_;exact⟨o,e⟩
   ·exact S.gr.live a ha
theorem Sor.sep {w:World} {h:Heap} {x dx d rd:Addr} {NA EA SA:Nat->Addr} {N:Nat} {np:Nat->Int} {su:Nat->List Nat} {l:List Nat} {po fi:Int} (S:Sor w h x dx d rd NA EA SA N np su l po fi):rd≠x/\rd≠dx:=by
 refine byC0 λzn=>?_
 refine q1_2 (S.ia) λmA I _=>?_
 refine q1_2 (S.rl.live) λo e c=>?_
 refine q1_3 (I.obj) λox ex cx _=>?_
 refine q3_3 (I.ns) λod es ep ed hd _=>?_
 refine zn ?_;clear zn
 refine⟨ne_cls e ex (by rw [c,cx];simp),?_⟩
 (intro zr;subst zr)
 refine q1_2 (S.rl) λvs z1 _=>?_;refine q1_1 z1 λn q=>?_;clear z1
 rw [ed] at q;cases q;cases hd
namespace Z9
noncomputable section
def zQ (w:World) (A:Around) (s:Shared) (mg mb mN:SoV) (K:Frag) (x dx d rd:Addr) (NA EA SA:Nat->Addr) (N:Nat) (np:Nat->Int) (su:Nat->List Nat) (l:List Nat) (po fi:Int) (n:Nat) (b₀:Heap):Prop:=∀ (ok:Ok (n+1) A) (S:St w mg mb mN K b₀) (hb:Le b₀ s.heap) (C:Con mg mb mN K) (Z:Sor w s.heap x dx d rd NA EA SA N np su l po fi) (off:∀ a∈sorA x dx d rd NA EA SA N,b₀.get? a=none) (hl:∀ i∈l,i<N) (hll:l.length<=1000),Wp w A (call (.ref 113) [.ref x]) (λv s'=>∃ T vs,v=.ref T/\s'.heap.IsTuple T (List.toArray vs)/\Paired IsN l vs/\s.heap.get? T=none/\Ev (sorA x dx d rd NA EA SA N) s s'/\Sor w s'.heap x dx d rd NA EA SA N (λi=>if i∈l then -1 else np i) su [] (po+l.length) fi) s
abbrev zY:=((((World×Around)×(Shared×(SoV×SoV)))×((SoV×(Frag×Addr))×(Addr×(Addr×Addr))))×((((Nat->Addr)×(Nat->Addr))×((Nat->Addr)×(Nat×(Nat->Int))))×(((Nat->List Nat)×((List Nat)×Int))×(Int×(Nat×Heap)))))
def zR (p:zY):=zQ p.1.1.1.1 p.1.1.1.2 p.1.1.2.1 p.1.1.2.2.1 p.1.1.2.2.2 p.1.2.1.1 p.1.2.1.2.1 p.1.2.1.2.2 p.1.2.2.1 p.1.2.2.2.1 p.1.2.2.2.2 p.2.1.1.1 p.2.1.1.2 p.2.1.2.1 p.2.1.2.2.1 p.2.1.2.2.2 p.2.2.1.1 p.2.2.1.2.1 p.2.2.1.2.2 p.2.2.2.1 p.2.2.2.2.1 p.2.2.2.2.2
def zc:zY:=eps1 (neP (neP (neP (neP neW neA) (neP neS neI)) neI) neI) zR
def w:=zc.1.1.1.1
def A:=zc.1.1.1.2
def s:=zc.1.1.2.1
def mg:=zc.1.1.2.2.1
def mb:=zc.1.1.2.2.2
def mN:=zc.1.2.1.1
def K:=zc.1.2.1.2.1
def x:=zc.1.2.1.2.2
def dx:=zc.1.2.2.1
def d:=zc.1.2.2.2.1
def rd:=zc.1.2.2.2.2
def NA:=zc.2.1.1.1
def EA:=zc.2.1.1.2
def SA:=zc.2.1.2.1
def N:=zc.2.1.2.2.1
def np:=zc.2.1.2.2.2
def su:=zc.2.2.1.1
def l:=zc.2.2.1.2.1
def po:=zc.2.2.1.2.2
def fi:=zc.2.2.2.1
def n:=zc.2.2.2.2.1
def b₀:=zc.2.2.2.2.2
theorem zaux:zQ w A s mg mb mN K x dx d rd NA EA SA N np su l po fi n b₀:=by
 intro ok S hb C Z off hl hll
 refine byC0 λzn=>?_
 refine q2_1 ((S.le hb).f113) λpm cd F=>?_
 refine q1_6 (Z.ia) λmA I W h2 hr z1 z2=>?_;refine q1_1 z1 λtp hp=>?_;clear z1;refine q1_1 z2 λtf hf=>?_;clear z2
 refine zn ?_;clear zn
 refine wpAny_call (call_fn0 (n:=n) (binds:=[(sO "self",.ref x)]) ok F (S.le hb).lim rfl (by kernel_rfl) rfl (by kernel_rfl) (λ_=>by kernel_rfl) (λ_=>by kernel_rfl) λs1 L m cm B I1 ok'=>?_)
 have live0:=Z.live
 have nft:∀ a∈sorA x dx d rd NA EA SA N,a∉ft (callEnvC (fdOf (meth 10 4) (sO "TopologicalSorter.get_ready") .none pm cd) L 113) []:=λa ha=>q1_1 (live0 a ha) λo e=>I1.notft e
 have I2:=I1.hide (sorA x dx d rd NA EA SA N) (λc hc=>q1_1 (live0 c hc) λo e=>⟨o,I1.le.get _ _ e⟩) nft
 have lbc:Le b₀ (hideAll s.heap (sorA x dx d rd NA EA SA N)):=le_hide hb off
 have bcs:Le (hideAll s.heap (sorA x dx d rd NA EA SA N)) s.heap:=⟨λa o e=>of_hideAll _ e⟩
 generalize hbc:hideAll s.heap (sorA x dx d rd NA EA SA N)=bc at I2 lbc bcs
 have V1:=I2.fs.var (x:=sO "self") rfl rfl (B 0 _ _ rfl)
 refine seqk (ex_if (r:=false) I2.le (Td.cmp (Yd.atr V1 (S.le (hb.trans I1.le)).ts (I.le I1.le) hr (C.mN0 _ (by simp)) (C.mN0 _ (by simp)) rfl tl1) Yd.none (λu v s _ _ hu hv=>by cases hu;cases hv;exact is_ref_none ⟨Kp.refl s,rfl⟩)) λs2 k2=>?_)
 simp only [Bool.false_eq_true,if_false]
 refine nil_ ?_
 have I3:=I2.kp k2
 have l02:Le s.heap s2.heap:=I1.le.trans k2.le
 have hb2:=hb.trans l02
 refine q1_2 (Z.rl) λws hws hpw=>?_
 have hwl:ws.length=l.length:=hpw.length.symm
 have bt:=C.blt (sO "tuple") (by simp)
 have bl:=C.blt (sO "len") (by simp)
 refine seqn (ex_asg I3 rfl rfl (Yd.tupl (I3.fs.blt (S.le hb2).g bt.1 (S.le hb2).b (bt.2.trans (by decide +kernel:bootBuiltins (sO "tuple")=some (.type "tuple"))) rfl rfl rfl rfl) (Yd.atr (V1.up k2.le) (S.le hb2).ts (I.le l02) hr (C.mN0 _ (by simp)) (C.mN0 _ (by simp)) rfl tl1) (hws.isList.at λo e=>l02.get _ _ e) (by rw [sizeLine_eq];simp;omega)) rfl) λs3 q=>?_
 refine byC0 λzn=>?_;refine s2_4 q λE1 v1 b1 l1 I4 z2 z4=>?_;clear q;refine q1_2 z2 λT z3 hT=>?_;clear z2;subst z3;refine q1_2 z4 λ_ z nT=>?_;clear z4;refine zn ?_;clear zn
 cases z
 have k23:∀ a o,a∉ft (callEnvC (fdOf (meth 10 4) (sO "TopologicalSorter.get_ready") .none pm cd) L 113) []->s.heap.get? a=some o->s3.heap.get? a=some o:=λa o h e=>E1.get a o h (l02.get _ _ e)
 have Z3:Sor w s3.heap x dx d rd NA EA SA N np su l po fi:=Z.get λa ha o e=>k23 a o (nft a ha) e
 have hb3:=(lbc.trans l1).trans I4.le
 have V2:=I4.fs.var (x:=sO "self") (v:=.ref x) rfl rfl (by simp +decide [up];exact B 0 _ _ rfl)
 refine seqn (ex_asg I4 rfl rfl (Yd.atr V2 (S.le hb3).ts (I.get λa ha o e=>k23 a o (nft a (by ((rcases ha with rfl | rfl))<;>simp [sorA])) e) h2 (C.mN0 _ (by simp)) (C.mN0 _ (by simp)) rfl tl0) rfl) λs4 q=>?_
 refine byC0 λzn=>?_;refine s2_3 q λE2 v2 b2 l2 I5 e2=>?_;clear q;refine zn ?_;clear zn
 cases e2
 have k04:∀ a∈sorA x dx d rd NA EA SA N,∀ o,s.heap.get? a=some o->s4.heap.get? a=some o:=λa ha o e=>E2.get a o (nft a ha) (k23 a o (nft a ha) e)
 have out:=C.out
 refine q1_1 out λto hto=>?_;clear out
 refine seq (ex_for (xs:=l) (B:=IsN) (λv m cm m' cm'=>∃ u,IsN v u/\m'=up m (sO "node") u/\cm'=cm)
  (λi b' m' cm' s'=>Le b2 b'/\m' (sO "self")=some (.ref x)/\m' (sO "n2i")=some (.ref d)/\m' (sO "result")=some (.ref T)/\IA s'.heap x dx mA/\Gr w s'.heap d NA EA SA N (λj=>if j∈l.take i then -1 else np j) su/\NatL s'.heap rd l)
  I5 (Src.tuple ok'.hd (Yd.namV (I5.fs.var (x:=sO "result") (v:=.ref T) rfl rfl (by simp +decide [up]))) (hT.at λo e=>l2.get _ _ e) (show Paired IsN l ws.toArray.toList from hpw))
  (λs' k=>⟨Le.refl _,by simp +decide [up];exact B 0 _ _ rfl,by simp +decide [up],by simp +decide [up],I.get λa ha o e=>k.le.get _ _ (k04 a (by ((rcases ha with rfl | rfl))<;>simp [sorA]) o e),
   (Z.gr.get λa ha o e=>k.le.get _ _ (k04 a (by simp [sorA,ha]) o e)).congr (λi _=>by simp) (λ_ _=>rfl),Z.rl.at λo e=>k.le.get _ _ (k04 rd (by simp [sorA]) o e)⟩)
  (λv u s' m' cm' hp hB hs' F'=>(asg_loc F' rfl rfl).to λ_ s'' q=>e0_2 q.1 (e2_2 _ _ q.2 (e1_3 u hB rfl rfl)))
  λi v Ik b' m1 cm1 t₁ m2 cm2 t₂ hi hl' Iin hIX hI0 hJ E12 hK J2=>?_) λfl s5 q=>?_
 ·refine byC0 λzn=>?_
  refine q0_7 hJ λlb hm1 hm2 hm3 Ia Gi hrl=>?_;clear hJ
  refine q1_3 hK λu z1 z3 z4=>?_;clear hK;refine q1_1 z1 λt z2=>?_;clear z1;subst z2;subst z3;rcases z4.symm with rfl
  have hvN:v<N:=hl v (List.mem_of_getElem? hi)
  have nIk:∀ a∈sorA x dx d rd NA EA SA N,a∉Ik::ft (callEnvC (fdOf (meth 10 4) (sO "TopologicalSorter.get_ready") .none pm cd) L 113) []:=λa ha hm=>by
   rcases zC hm with h | h
   ·exact hIX (h▸by simp [ha])
   ·exact nft a ha h
  have k12:∀ a∈sorA x dx d rd NA EA SA N,∀ o,t₁.heap.get? a=some o->t₂.heap.get? a=some o:=λa ha o e=>E12.get a o (nIk a ha) e
  have G2:=Gi.get (h':=t₂.heap) λa ha o e=>k12 a (by simp [sorA,ha]) o e
  have hbt:Le b₀ t₂.heap:=(((lbc.trans l1).trans l2).trans lb).trans J2.le
  have xi:=G2.info v hvN
  refine q2_1 (xi.obj) λt1 t2 xq=>?_
  refine zn ?_;clear zn
  have hVa:NA v∈Ik::(sorA x dx d rd NA EA SA N++[]):=zT (by simp only [List.append_nil,sorA];exact zT (zT (zT (mem_gA.mpr (.inr (e1_2 v hvN (.inl rfl)))))))
  have VO:=J2.fs.glo (S.le hbt).g hto rfl rfl rfl
  refine seqk (plainObj_wpAny_Assign_Attribute ((Yd.namI VO (by decide) t₂ J2.le (Le.refl _)).to λu t3 q=>?_) (by rfl))
  refine byC0 λzn=>?_;refine q1_1 (q.2 _ (J2.le.trans q.1.le) (Nw.self _ _)) λtu z1=>?_;subst z1;refine zn ?_;clear zn
  refine (Yd.dsub (b:=b') G2.dict (Yd.namV (J2.fs.var (x:=sO "n2i") (v:=.ref d) rfl rfl (by simp +decide [up];exact hm2))) (Yd.namI (J2.fs.var (x:=sO "node") (v:=.int (v:Int) t) rfl rfl (by simp [up]))) (kvs_at hvN) (by intro _ _;rfl) t3 (J2.le.trans q.1.le) q.1.le).to λov t4 q4=>?_
  have k24:=q.1.trans q4.1
  have e1:ov=.ref (NA v):=q4.2 _ (J2.le.trans k24.le) (Nw.self _ _)
  subst e1
  refine (ni_set (sl':=#[some (.int (v:Int) t1),some (.int (-1) tu),some (.ref (SA v))]) ((S.le hbt).k.keeps k24.le.get) C.nk.np (k24.le.get _ _ xq) (k24.le.get _ _ xi.dict) (by decide) rfl).to λ_ t5 q5=>?_
  have E25:Ev [NA v] t₂ t5:=k24.ev.trans q5.1
  have gv:NA v∈gA d NA EA SA N:=mem_gA.mpr (.inr (e1_2 v hvN (.inl rfl)))
  refine nil_ (e0_2 (.inl rfl) (e3_10 b' _ _ (Le.refl _) (E25.mono λa ha=>by
    rw [zS ha]
    exact List.mem_append_right _ (by simpa [sorA] using .inr (.inr (.inr gv)))) (J2.ev2 E25 (λa ha=>by rw [zS ha];exact J2.off _ (.inr hVa)) (J2.fs.get λc hc o e=>E25.get c o (λhm=>J2.apart _ hVa (zS hm▸hc)) e) (λa _ hm=>by rw [zS hm];exact⟨_,q5.2⟩)) lb (by simp +decide [up];exact hm1) (by simp +decide [up];exact hm2) (by simp +decide [up];exact hm3) ?_ ?_ ?_))
  ·exact Ia.get λa ha o e=>E25.get a o (λhm=>by
    have:=zS hm
    (rcases ha with rfl | rfl)
    ·exact Z.sx (this▸gv)
    ·exact Z.sdx (this▸gv)) (k12 a (by ((rcases ha with rfl | rfl))<;>simp [sorA]) o e)
  ·refine (G2.setNp (k:=-1) hvN (λc o hc e=>E25.get c o (by simpa using hc) e) ⟨e2_1 t1 tu q5.2,E25.get _ _ (λhm=>xi.ne (zS hm).symm) xi.dict⟩).congr (λj _=>?_) λ_ _=>rfl
   rw [List.take_add_one,hi,Option.toList_some]
   by_cases h1:j=v
   ·subst h1;simp
   ·simp [h1]
  ·exact hrl.at λo e=>E25.get rd o (λhm=>Z.srd (zS hm▸gv)) (k12 rd (by simp [sorA]) o e)
 ·refine byC0 λzn=>?_
  refine q0_2 q λz1 z2=>?_;clear q;subst z1;refine q5_9 z2 λIk b' m' cm' s5' l' I6 hIf hIX hIn I6' z3 E55 E45=>?_;clear z2;refine q0_7 z3 λlb hm1 hm2 hm3 Ia Gi hrl=>?_;clear z3
  have nIk:∀ a∈sorA x dx d rd NA EA SA N,a∉[Ik]:=λa ha hm=>hIX (zS hm▸by simp [ha])
  have k5:∀ a∈sorA x dx d rd NA EA SA N,∀ o,s5'.heap.get? a=some o->s5.heap.get? a=some o:=λa ha o e=>E55.get a o (nIk a ha) e
  have Ia5:IA s5.heap x dx mA:=Ia.get λa ha o e=>k5 a (by ((rcases ha with rfl | rfl))<;>simp [sorA]) o e
  have G5:Gr w s5.heap d NA EA SA N (λi=>if i∈l then -1 else np i) su:=(Gi.get λa ha o e=>k5 a (by simp [sorA,ha]) o e).congr (λi _=>by rw [List.take_length]) λ_ _=>rfl
  have rl5:NatL s5.heap rd l:=hrl.at λo e=>k5 rd (by simp [sorA]) o e
  refine q1_2 rl5 λws5 hws5 hpw5=>?_;clear rl5
  refine zn ?_;clear zn
  have hwl5:ws5.length=l.length:=hpw5.length.symm
  have hb5:Le b₀ s5.heap:=(((lbc.trans l1).trans l2).trans lb).trans I6.le
  have V5:=I6.fs.var (x:=sO "self") rfl rfl hm1
  have rdX:rd∈sorA x dx d rd NA EA SA N:=by simp [sorA]
  refine seqn (ex_clear I6.le (Yd.atr V5 (S.le hb5).ts Ia5 hr (C.mN0 _ (by simp)) (C.mN0 _ (by simp)) rfl tl1) hws5 (by rw [sizeLine_eq];simp;omega)) λs6 q=>?_
  refine q0_2 q λE56 hcl=>?_;clear q
  have I7:=I6.ev2 E56 (λa ha=>by rw [zS ha];exact I6.off _ (.inr (by simp [rdX]))) (I6.fs.get λc hc o e=>E56.get c o (λhm=>nft rd rdX (zS hm▸hc)) e) (λa _ hm=>by rw [zS hm];refine q1_1 hcl λn q=>?_;clear hcl;exact⟨_,q⟩)
  have sep:=Z.sep
  have Ia6:IA s6.heap x dx mA:=Ia5.get λa ha o e=>E56.get a o (λhm=>by
   have:=zS hm
   (rcases ha with rfl | rfl)
   ·exact sep.1 this.symm
   ·exact sep.2 this.symm) e
  have G6:=G5.get (h':=s6.heap) λa ha o e=>E56.get a o (λhm=>Z.srd (zS hm▸ha)) e
  have hb6:Le b₀ s6.heap:=(((lbc.trans l1).trans l2).trans lb).trans I7.le
  have hT6:s6.heap.IsTuple T ws.toArray:=hT.at λo e=>((l2.trans lb).trans I7.le).get _ _ e
  refine seqn (ex_iaAug (j:=(l.length:Int)) I7.le (I7.fs.var (x:=sO "self") rfl rfl hm1) (S.le hb6).ts Ia6 hp (C.mN0 _ (by simp)) (C.mN0 _ (by simp)) (C.mN0 _ (by simp)) tl2 W (by rw [sizeLine_eq];decide)
   ((Yd.lent (I7.fs.blt (S.le hb6).g bl.1 (S.le hb6).b (bl.2.trans (by decide +kernel:bootBuiltins (sO "len")=some (.builtin "len"))) rfl rfl rfl rfl) (Yd.namV (I7.fs.var (x:=sO "result") rfl rfl hm3)) hT6 (by simp;omega)).mono λv g _ q=>by simpa [hwl] using q)) λs7 q=>?_
  refine byC0 λzn=>?_;refine s1_1 q λE67 t' Ia7=>?_;clear q;refine zn ?_;clear zn
  have xdX:∀ a∈([x,dx]:List Addr),a∈sorA x dx d rd NA EA SA N:=λa ha=>by
   replace ha:=mem2 ha
   ((rcases ha with rfl | rfl))<;>simp [sorA]
  have I8:=I7.ev2 E67 (λa ha=>I7.off _ (.inr (by simp [xdX a ha]))) (I7.fs.get λc hc o e=>E67.get c o (λhm=>nft c (xdX c hm) hc) e) (λa _ hm=>by
   replace hm:=mem2 hm
   (rcases hm with rfl | rfl)
   ·refine q1_2 (Ia7.obj) λo e _=>?_;exact⟨o,e⟩
   ·refine q3_2 (Ia7.ns) λo _ _ e _=>?_;exact⟨o,e⟩)
  refine ret_ I8.le (Yd.namV (I8.fs.var (x:=sO "result") rfl rfl hm3)) λv s8 k q=>e2_6 T ws (q _ (I8.le.trans k.le) (Nw.self _ _)) (hT.at λo e=>(((l2.trans lb).trans I8.le).trans k.le).get _ _ e) hpw ?_ ?_ ?_
  ·exact l02.none nT
  ·refine⟨(I8.kp k).same,λc o hc e=>k.le.get _ _ (I8.le.get _ _ (lb.get _ _ (l2.get _ _ (l1.get _ _ ?_))))⟩
   rw [← hbc]
   exact hideAll_get _ e hc
  ·have n1:rd∉([x,dx]:List Addr):=λhm=>by
    replace hm:=mem2 hm
    exact hm.elim sep.1 sep.2
   refine⟨e1_6 (up mA (sO "_npassedout") (.int (po+l.length) t')) (Ia7.le k.le) (Mine.Internal.Within.up W (by decide)) (by simp +decide [up];exact h2) (by simp +decide [up];exact hr) ⟨t',by simp [up]⟩ ⟨tf,by simp +decide [up];exact hf⟩,?_,e1_2 [] ?_ .nil,Z.sx,Z.sdx,Z.srd⟩
   ·refine G6.get λa ha o e=>k.le.get _ _ (E67.get a o (λhm=>?_) e)
    replace hm:=mem2 hm
    (rcases hm with rfl | rfl)
    ·exact Z.sx ha
    ·exact Z.sdx ha
   ·exact hcl.at λo e=>k.le.get _ _ (E67.get _ o n1 e)
theorem zall:∀ p,zR p:=all1 zaux
end
end Z9
theorem rdy_call {w A s mg mb mN K x dx d rd NA EA SA N np su l po fi n b₀}:Z9.zQ w A s mg mb mN K x dx d rd NA EA SA N np su l po fi n b₀:=Z9.zall ((((w,A),(s,(mg,mb))),((mN,(K,x)),(dx,(d,rd)))),(((NA,EA),(SA,(N,np))),((su,(l,po)),(fi,(n,b₀)))))
noncomputable def dstep (st:(Nat->Int)×List Nat) (j:Nat):(Nat->Int)×List Nat:=(λi=>if i=j then st.1 j-1 else st.1 i,if st.1 j-1=0 then st.2++[j] else st.2)
noncomputable def dfold (su:List Nat) (st:(Nat->Int)×List Nat):(Nat->Int)×List Nat:=su.foldl dstep st
theorem dfold_len (su:List Nat):∀ st,(dfold su st).2.length<=st.2.length+su.length:=by
 induction su with
 | nil=>intro st;simp [dfold]
 | cons a r ih=>
  intro st
  have h:=ih (dstep st a)
  have e:(dstep st a).2.length<=st.2.length+1:=by unfold dstep;dsimp only;split<;>simp
  show (dfold r (dstep st a)).2.length<=_
  simp only [List.length_cons]
  omega
theorem dfold_take {su:List Nat} {i v:Nat} (h:su[i]?=some v) (st:(Nat->Int)×List Nat):dfold (su.take (i+1)) st=dstep (dfold (su.take i) st) v:=by
 unfold dfold
 rw [List.take_add_one,h,Option.toList_some,List.foldl_append];rfl
theorem bind_done (pm cd:Value) (a:Value) (vs:List Value):bindArgs (fdOf (meth 10 7) (sO "TopologicalSorter.done") .none pm cd) ⟨a::vs,[]⟩ = 
  (newTuple vs >>= λt=>pure [(sO "self",a),(sO "nodes",t)]):=by
 unfold bindArgs
 have hp:(fdOf (meth 10 7) (sO "TopologicalSorter.done") .none pm cd).params=fArgs (meth 10 7):=rfl
 have h1:(fArgs (meth 10 7)).posonlyargs=[]:=rfl
 have h2:(fArgs (meth 10 7)).args.map (·.arg)=[sO "self"]:=rfl
 have h3:(fArgs (meth 10 7)).kwonlyargs=[]:=rfl
 have h4:(fArgs (meth 10 7)).kwarg=none:=rfl
 have h5:∃ p,(fArgs (meth 10 7)).vararg=some ⟨sO "nodes",none,p⟩:=⟨_,rfl⟩
 refine q1_1 h5 λp z1=>?_;clear h5;revert z1;intro h5
 rw [hp]
 simp only [h1,h2,h3,h4,h5,List.map_nil,List.nil_append,List.length_cons,List.length_nil,List.zip_cons_cons,List.zip_nil_left,Option.isNone_some,Bool.and_false,Bool.false_eq_true,if_false]
 rfl
section
variable {w:World} {h h':Heap} {x dx d rd:Addr} {NA EA SA:Nat->Addr} {N:Nat} {np:Nat->Int} {su:Nat->List Nat} {l l':List Nat} {po fi fi':Int}
theorem Sor.setNp (Z:Sor w h x dx d rd NA EA SA N np su l po fi) {i:Nat} {k:Int} (hi:i<N) (E:∀ c o,c≠NA i->h.get? c=some o->h'.get? c=some o) (y:NI h' (NA i) (EA i) (SA i) i k):Sor w h' x dx d rd NA EA SA N (λj=>if j=i then k else np j) su l po fi:=by
 have m:NA i∈gA d NA EA SA N:=mem_gA.mpr (.inr (e1_2 i hi (.inl rfl)))
 exact⟨q1_2 Z.ia λmA I r=>(e1_2 mA (I.get λa ha o e=>E a o (λz=>by
  (rcases ha with z0 | z0)<;>(replace z0:=Eq.symm z0;subst z0)
  ·exact Z.sx (z▸m)
  ·exact Z.sdx (z▸m)) e) r),Z.gr.setNp hi E y,Z.rl.at λo e=>E _ o (λz=>Z.srd (z▸m)) e,Z.sx,Z.sdx,Z.srd⟩
theorem Sor.setRd (Z:Sor w h x dx d rd NA EA SA N np su l po fi) (E:∀ c o,c≠rd->h.get? c=some o->h'.get? c=some o) (y:NatL h' rd l'):Sor w h' x dx d rd NA EA SA N np su l' po fi:=
 ⟨q1_2 Z.ia λmA I r=>(e1_2 mA (I.get λa ha o e=>E a o (λz=>by
  (rcases ha with z0 | z0)<;>(replace z0:=Eq.symm z0;subst z0)
  ·exact Z.sep.1 z.symm
  ·exact Z.sep.2 z.symm) e) r),Z.gr.get λa ha o e=>E a o (λz=>Z.srd (z▸ha)) e,y,Z.sx,Z.sdx,Z.srd⟩
theorem Sor.setFi {s s':Shared} {mA:SoV} {t:Tok} (Z:Sor w s.heap x dx d rd NA EA SA N np su l po fi) (E:Ev [x,dx] s s') (W:Within mA tsN) (h2:mA (sO "_node2info")=some (.ref d)) (h3:mA (sO "_ready_nodes")=some (.ref rd)) (h4:∃ t,mA (sO "_npassedout")=some (.int po t))
  (I:IA s'.heap x dx (up mA (sO "_nfinished") (.int fi' t))):Sor w s'.heap x dx d rd NA EA SA N np su l po fi':=
 ⟨e1_6 _ I (Mine.Internal.Within.up W (by decide)) (by simp +decide [up];exact h2) (by simp +decide [up];exact h3) (by simp +decide [up];exact h4) ⟨t,by simp [up]⟩,Z.gr.get λa ha o e=>E.get a o (λhm=>by
  replace hm:=mem2 hm
  (rcases hm with z0 | z0)<;>(replace z0:=Eq.symm z0;subst z0)
  ·exact Z.sx ha
  ·exact Z.sdx ha) e,Z.rl.at λo e=>E.get _ o (λhm=>by
  replace hm:=mem2 hm
  exact hm.elim Z.sep.1 Z.sep.2) e,Z.sx,Z.sdx,Z.srd⟩
end
noncomputable def dnA (x dx rd:Addr) (NA:Nat->Addr) (N:Nat):List Addr:=x::dx::rd::(List.range N).map NA
theorem mem_dnA {x dx rd a:Addr} {NA:Nat->Addr} {N:Nat}:a∈dnA x dx rd NA N ↔ a=x\/a=dx\/a=rd\/∃ i,i<N/\a=NA i:=by
 unfold dnA
 simp only [List.mem_cons,List.mem_map,List.mem_range]
 constructor
 ·(intro zr;(rcases zr with h | h | h | z1)<;>(first | (refine q1_2 z1 λi hi z2=>?_;clear z1;subst z2) | skip))
  ·exact .inl h
  ·exact .inr (.inl h)
  ·exact .inr (.inr (.inl h))
  ·exact .inr (.inr (.inr (e1_2 i hi rfl)))
 ·(intro zr;(rcases zr with h | h | h | z1)<;>(first | (refine q1_2 z1 λi hi z2=>?_;clear z1;subst z2) | skip))
  ·exact .inl h
  ·exact .inr (.inl h)
  ·exact .inr (.inr (.inl h))
  ·exact .inr (.inr (.inr (e1_2 i hi rfl)))
theorem dnA_sor {x dx d rd a:Addr} {NA EA SA:Nat->Addr} {N:Nat} (h:a∈dnA x dx rd NA N):a∈sorA x dx d rd NA EA SA N:=by
 (rcases mem_dnA.mp h with z0 | z0 | z0 | z1)<;>(first | (replace z0:=Eq.symm z0;subst z0) | (refine q1_2 z1 λi hi z2=>?_;clear z1;subst z2) | skip)
 ·simp [sorA]
 ·simp [sorA]
 ·simp [sorA]
 ·simp only [sorA]
  exact zT (zT (zT (mem_gA.mpr (.inr (e1_2 i hi (.inl rfl))))))
noncomputable abbrev dnEnv (pm cd:Value) (L:Addr):Env:=callEnvC (fdOf (meth 10 7) (sO "TopologicalSorter.done") .none pm cd) L 134
namespace Z16
noncomputable section
def zQ (w:World) (A:Around) (s₀ s:Shared) (mg mb mN:SoV) (K:Frag) (x dx d rd:Addr) (NA EA SA:Nat->Addr) (N:Nat) (np:Nat->Int) (su:Nat->List Nat) (l:List Nat) (po fi:Int) (b₀ b:Heap) (X:List Addr) (m cm:SoV) (pm cd:Value) (L:Addr) (g:Nat):Prop:=∀ (hA:A.handled=none) (S:St w mg mb mN K b₀) (C:Con mg mb mN K) (I:InF s₀ b X (dnEnv pm cd L) [] m cm s) (hX:∀ a∈dnA x dx rd NA N,a∈X) (lb:Le b₀ b) (Z:Sor w s.heap x dx d rd NA EA SA N np su l po fi) (hl:NatL b (SA g) (su g)) (hg:g<N) (hsu:∀ j∈su g,j<N) (hlen:l.length+(su g).length<=10000) (oldX:∀ a∈sorA x dx d rd NA EA SA N,a∉ft (dnEnv pm cd L) []) (hm1:m (sO "self")=some (.ref x)) (hm2:m (sO "n2i")=some (.ref d)) (hm3:m (sO "nodeinfo")=some (.ref (NA g))),Wp w A (exec (nth (forBody (nth (fBody (meth 10 7)) 2)) 4) (dnEnv pm cd L)) (λfl s'=>fl=.next/\∃ b' m' cm',Le b b'/\InF s₀ b' X (dnEnv pm cd L) [] m' cm' s'/\Ev (ft (dnEnv pm cd L) []++dnA x dx rd NA N) s s'/\m' (sO "self")=some (.ref x)/\m' (sO "n2i")=some (.ref d)/\Sor w s'.heap x dx d rd NA EA SA N (dfold (su g) (np,l)).1 su (dfold (su g) (np,l)).2 po fi) s
abbrev zY:=((((World×(Around×Shared))×((Shared×SoV)×(SoV×SoV)))×(((Frag×Addr)×(Addr×Addr))×((Addr×(Nat->Addr))×((Nat->Addr)×(Nat->Addr)))))×(((Nat×((Nat->Int)×(Nat->List Nat)))×(((List Nat)×Int)×(Int×Heap)))×(((Heap×(List Addr))×(SoV×SoV))×((Value×Value)×(Addr×Nat)))))
def zR (p:zY):=zQ p.1.1.1.1 p.1.1.1.2.1 p.1.1.1.2.2 p.1.1.2.1.1 p.1.1.2.1.2 p.1.1.2.2.1 p.1.1.2.2.2 p.1.2.1.1.1 p.1.2.1.1.2 p.1.2.1.2.1 p.1.2.1.2.2 p.1.2.2.1.1 p.1.2.2.1.2 p.1.2.2.2.1 p.1.2.2.2.2 p.2.1.1.1 p.2.1.1.2.1 p.2.1.1.2.2 p.2.1.2.1.1 p.2.1.2.1.2 p.2.1.2.2.1 p.2.1.2.2.2 p.2.2.1.1.1 p.2.2.1.1.2 p.2.2.1.2.1 p.2.2.1.2.2 p.2.2.2.1.1 p.2.2.2.1.2 p.2.2.2.2.1 p.2.2.2.2.2
def zc:zY:=eps1 (neP (neP (neP (neP neW (neP neA neS)) (neP (neP neS neI) neI)) neI) neI) zR
def w:=zc.1.1.1.1
def A:=zc.1.1.1.2.1
def s₀:=zc.1.1.1.2.2
def s:=zc.1.1.2.1.1
def mg:=zc.1.1.2.1.2
def mb:=zc.1.1.2.2.1
def mN:=zc.1.1.2.2.2
def K:=zc.1.2.1.1.1
def x:=zc.1.2.1.1.2
def dx:=zc.1.2.1.2.1
def d:=zc.1.2.1.2.2
def rd:=zc.1.2.2.1.1
def NA:=zc.1.2.2.1.2
def EA:=zc.1.2.2.2.1
def SA:=zc.1.2.2.2.2
def N:=zc.2.1.1.1
def np:=zc.2.1.1.2.1
def su:=zc.2.1.1.2.2
def l:=zc.2.1.2.1.1
def po:=zc.2.1.2.1.2
def fi:=zc.2.1.2.2.1
def b₀:=zc.2.1.2.2.2
def b:=zc.2.2.1.1.1
def X:=zc.2.2.1.1.2
def m:=zc.2.2.1.2.1
def cm:=zc.2.2.1.2.2
def pm:=zc.2.2.2.1.1
def cd:=zc.2.2.2.1.2
def L:=zc.2.2.2.2.1
def g:=zc.2.2.2.2.2
theorem zaux:zQ w A s₀ s mg mb mN K x dx d rd NA EA SA N np su l po fi b₀ b X m cm pm cd L g:=by
 intro hA S C I hX lb Z hl hg hsu hlen oldX hm1 hm2 hm3
 refine byC0 λzn=>?_
 refine q1_2 hl λws hws hpw=>?_;clear hl
 have xg:=Z.gr.info g hg
 refine q2_1 (xg.obj) λt1 t2 xq=>?_
 refine zn ?_;clear zn
 have hbs:=lb.trans I.le
 refine Wp.to (ex_forY (xs:=su g) (B:=IsN) (λv m cm m' cm'=>∃ u,IsN v u/\m'=up m (sO "successor") u/\cm'=cm)
  (λi b' m' cm' s'=>m' (sO "self")=some (.ref x)/\m' (sO "n2i")=some (.ref d)/\Sor w s'.heap x dx d rd NA EA SA N (dfold ((su g).take i) (np,l)).1 su (dfold ((su g).take i) (np,l)).2 po fi)
  (dnA x dx rd NA N) hX I (Src.list hA (Yd.slt (S.le hbs).k C.nk.su (inst_ni xq xg.dict) rfl rfl (Yd.namV (I.fs.var (x:=sO "nodeinfo") rfl rfl hm3)) (λ_=>rfl)) hws.isList (show Paired IsN (su g) ws.toArray.toList from hpw))
  (λs' k=>⟨hm1,hm2,Z.get λa _ o e=>k.le.get _ _ e⟩)
  (λv u s' m' cm' hp hB hs' F'=>(asg_loc F' rfl rfl).to λ_ s'' q=>e0_2 q.1 (e2_2 _ _ q.2 (e1_3 u hB rfl rfl)))
  λi v Ik b' m1 cm1 t₁ m2 cm2 t₂ hi hl' Iin hIX hI0 hJ E12 hK J2=>?_) λfl s' q=>?_
 ·refine byC0 λzn=>?_
  refine q0_3 hJ λh1 h2 Z1=>?_;clear hJ
  refine q1_3 hK λu z1 z3 z4=>?_;clear hK;refine q1_1 z1 λt z2=>?_;clear z1;subst z2;subst z3;rcases z4.symm with rfl
  refine zn ?_;clear zn
  have hvm:=List.mem_of_getElem? hi
  have hvN:=hsu v hvm
  have hlen1:(dfold ((su g).take i) (np,l)).2.length<=10000:=by
   have:=dfold_len ((su g).take i) (np,l)
   rw [List.length_take] at this
   dsimp only at this
   omega
  have nIk:∀ a∈sorA x dx d rd NA EA SA N,a∉Ik::ft (dnEnv pm cd L) []:=λa ha hm=>by
   rcases zC hm with h | h
   ·refine q1_1 (Z.live a ha) λo e=>?_
    rw [h,hI0] at e;cases e
   ·exact oldX a ha h
  rw [dfold_take hi]
  generalize dfold ((su g).take i) (np,l)=D at Z1 hlen1
  have Z2:Sor w t₂.heap x dx d rd NA EA SA N D.1 su D.2 po fi:=Z1.get λa ha o e=>E12.get a o (nIk a ha) e
  have lbb:=lb.trans hl'
  refine seqn (ex_asg J2 rfl rfl (Yd.dsub Z2.gr.dict (Yd.namV (J2.fs.var (x:=sO "n2i") (v:=.ref d) rfl rfl (by simp +decide [up];exact h2))) (Yd.namI (J2.fs.var (x:=sO "successor") (v:=.int (v:Int) t) rfl rfl (by simp [up]))) (kvs_at hvN)) rfl) λt3 q=>?_
  refine byC0 λzn=>?_;refine s2_3 q λE23 v3 b3 l3 J3 e3=>?_;clear q;refine zn ?_;clear zn
  cases e3
  have Z3:Sor w t3.heap x dx d rd NA EA SA N D.1 su D.2 po fi:=Z2.get λa ha o e=>E23.get a o (oldX a ha) e
  have mem:∀ a∈dnA x dx rd NA N,a∈Ik::X:=λa ha=>zT (hX a ha)
  have nv:NA v∈dnA x dx rd NA N:=mem_dnA.mpr (.inr (.inr (.inr (e1_2 v hvN rfl))))
  have hb3:=lbb.trans l3
  refine seqn (ex_np (op:=.Sub) (r:=(· - ·)) (j:=1) J3 (S.le hb3).k C.nk.np (mem _ nv) (Z3.gr.info v hvN) (J3.fs.var (x:=sO "successor_info") (v:=.ref (NA v)) rfl rfl (by simp [up])) Yd.int (λh=>isub_int h)) λt4 q=>?_
  refine byC0 λzn=>?_
  refine q0_3 q λE34 J4 x4=>?_;clear q
  have Z4:=Z3.setNp hvN (λc o hc e=>E34.get c o (by simpa using hc) e) x4
  have hb4:Le b₀ t4.heap:=hb3.trans J4.le
  have xv:=Z4.gr.info v hvN
  simp only [if_true] at xv
  refine q2_1 (xv.obj) λu1 u2 xvq=>?_
  refine zn ?_;clear zn
  refine seqk (ex_if J4.le (Td.eq (Yd.slt (S.le hb4).k C.nk.np (inst_ni xvq xv.dict) (v:=.int (D.1 v-1) u2) rfl rfl (Yd.namV (J4.fs.var (x:=sO "successor_info") (v:=.ref (NA v)) rfl rfl (by simp [up]))) (λ_=>⟨u2,rfl⟩)) Yd.int) λt5 k₅=>?_)
  have Z5:Sor w t5.heap x dx d rd NA EA SA N _ su D.2 po fi:=Z4.get λa _ o e=>k₅.le.get _ _ e
  have J5:=J4.kp k₅
  have E25:Ev (ft (dnEnv pm cd L) []++dnA x dx rd NA N) t₂ t5:=((E23.mono λa ha=>List.mem_append_left _ ha).trans (E34.mono λa ha=>by rw [zS ha];exact List.mem_append_right _ nv)).trans k₅.ev
  have hmA:(up (up m1 (sO "successor") (.int (v:Int) t)) (sO "successor_info") (.ref (NA v))) (sO "self")=some (.ref x):=by simp +decide [up];exact h1
  have hmB:(up (up m1 (sO "successor") (.int (v:Int) t)) (sO "successor_info") (.ref (NA v))) (sO "n2i")=some (.ref d):=by simp +decide [up];exact h2
  by_cases h0:D.1 v-1=0
  ·simp only [h0,beq_self_eq_true,if_true]
   refine byC0 λzn=>?_
   refine q1_6 (Z5.ia) λmA IA5 W a2 a3 a4 a5=>?_
   refine q1_2 (Z5.rl) λvs hvs hpv=>?_
   refine zn ?_;clear zn
   have hvl:vs.length=D.2.length:=hpv.length.symm
   have hb5:Le b₀ t5.heap:=hb3.trans J5.le
   have rdm:rd∈dnA x dx rd NA N:=mem_dnA.mpr (.inr (.inr (.inl rfl)))
   refine seqk (Wp.to (ex_append J5.le (Yd.atr (J5.fs.var (x:=sO "self") rfl rfl hmA) (S.le hb5).ts IA5 a3 (C.mN0 _ (by simp)) (C.mN0 _ (by simp)) rfl tl1) (Yd.namI (J5.fs.var (x:=sO "successor") (v:=.int (v:Int) t) rfl rfl (by simp +decide [up]))) hvs (by rw [sizeLine_eq];simp;omega)) λfl t6 q=>?_)
   refine byC0 λzn=>?_
   refine q0_2 q λz1 z2=>?_;clear q;subst z1;refine s2_4 z2 λE56 vn t5' k5 hP E56' hvs'=>?_;clear z2
   refine q1_1 (hP _ (J5.le.trans k5.le) (Nw.self _ _)) λtn z1=>?_;subst z1
   refine zn ?_;clear zn
   have Z6:=Z5.setRd (l':=D.2++[v]) (λc o hc e=>E56.get c o (by simpa using hc) e) (e1_2 (vs++[.int (v:Int) tn]) (by simpa using hvs') (Paired.app hpv (.cons ⟨tn,rfl⟩ .nil)))
   refine nil_ (nil_ (e0_2 (.inl rfl) (e3_6 b3 _ _ l3 (E25.trans (E56.mono λa ha=>by rw [zS ha];exact List.mem_append_right _ rdm)) (J5.ev2 E56 (λa ha=>by rw [zS ha];exact J5.off _ (.inr (mem _ rdm))) (J5.fs.get λc hc o e=>E56.get c o (λhm=>J5.apart _ (mem _ rdm) (zS hm▸hc)) e) (λa _ hm=>by rw [zS hm];refine q1_1 hvs' λn q=>?_;clear hvs';exact⟨_,q⟩)) hmA hmB ?_)))
   unfold dstep
   rw [if_pos h0]
   exact Z6
  ·have:(D.1 v-1 == 0)=false:=by simpa using h0
   simp only [this,Bool.false_eq_true,if_false]
   refine nil_ (nil_ (e0_2 (.inl rfl) (e3_6 b3 _ _ l3 E25 J5 hmA hmB ?_)))
   unfold dstep
   rw [if_neg h0]
   exact Z5
 ·refine byC0 λzn=>?_;refine q0_2 q λz1 z2=>?_;clear q;subst z1;refine q5_9 z2 λIk b' m' cm' s8 l' I8 hIf hIX hIn I9 z3 E89 E79=>?_;clear z2;refine q0_3 z3 λh1 h2 Z8=>?_;clear z3;refine zn ?_;clear zn
  rw [List.take_length] at Z8
  refine e0_2 rfl (e3_6 b' m' cm' l' I8 E79 h1 h2 (Z8.get λa ha o e=>E89.get a o (λhm=>?_) e))
  refine q1_1 (Z.live a ha) λo' e'=>?_
  rw [zS hm,hIn] at e';cases e'
theorem zall:∀ p,zR p:=all1 zaux
end
end Z16
theorem dn_inner {w A s₀ s mg mb mN K x dx d rd NA EA SA N np su l po fi b₀ b X m cm pm cd L g}:Z16.zQ w A s₀ s mg mb mN K x dx d rd NA EA SA N np su l po fi b₀ b X m cm pm cd L g:=Z16.zall ((((w,(A,s₀)),((s,mg),(mb,mN))),(((K,x),(dx,d)),((rd,NA),(EA,SA)))),(((N,(np,su)),((l,po),(fi,b₀))),(((b,X),(m,cm)),((pm,cd),(L,g)))))
namespace Z7
noncomputable section
def zQ (w:World) (A:Around) (s:Shared) (mg mb mN:SoV) (K:Frag) (x dx d rd:Addr) (NA EA SA:Nat->Addr) (N:Nat) (np:Nat->Int) (su:Nat->List Nat) (l:List Nat) (po fi:Int) (n:Nat) (t:Tok) (b₀:Heap):Prop:=∀ {g:Nat} (ok:Ok (n+1) A) (S:St w mg mb mN K b₀) (hb:Le b₀ s.heap) (C:Con mg mb mN K) (Z:Sor w s.heap x dx d rd NA EA SA N np su l po fi) (off:∀ a∈sorA x dx d rd NA EA SA N,b₀.get? a=none) (hg:g<N) (hnp:np g=-1) (hsu:∀ j∈su g,j<N) (hlen:l.length+(su g).length<=10000),Wp w A (call (.ref 134) [.ref x,.int g t]) (λv s'=>v=.none/\Ev (dnA x dx rd NA N) s s'/\Sor w s'.heap x dx d rd NA EA SA N (dfold (su g) (λi=>if i=g then -2 else np i,l)).1 su (dfold (su g) (λi=>if i=g then -2 else np i,l)).2 po (fi+1)) s
abbrev zY:=((((World×Around)×(Shared×(SoV×SoV)))×((SoV×(Frag×Addr))×(Addr×(Addr×Addr))))×((((Nat->Addr)×((Nat->Addr)×(Nat->Addr)))×(Nat×((Nat->Int)×(Nat->List Nat))))×(((List Nat)×(Int×Int))×(Nat×(Tok×Heap)))))
def zR (p:zY):=zQ p.1.1.1.1 p.1.1.1.2 p.1.1.2.1 p.1.1.2.2.1 p.1.1.2.2.2 p.1.2.1.1 p.1.2.1.2.1 p.1.2.1.2.2 p.1.2.2.1 p.1.2.2.2.1 p.1.2.2.2.2 p.2.1.1.1 p.2.1.1.2.1 p.2.1.1.2.2 p.2.1.2.1 p.2.1.2.2.1 p.2.1.2.2.2 p.2.2.1.1 p.2.2.1.2.1 p.2.2.1.2.2 p.2.2.2.1 p.2.2.2.2.1 p.2.2.2.2.2
def zc:zY:=eps1 (neP (neP (neP (neP neW neA) (neP neS neI)) neI) neI) zR
def w:=zc.1.1.1.1
def A:=zc.1.1.1.2
def s:=zc.1.1.2.1
def mg:=zc.1.1.2.2.1
def mb:=zc.1.1.2.2.2
def mN:=zc.1.2.1.1
def K:=zc.1.2.1.2.1
def x:=zc.1.2.1.2.2
def dx:=zc.1.2.2.1
def d:=zc.1.2.2.2.1
def rd:=zc.1.2.2.2.2
def NA:=zc.2.1.1.1
def EA:=zc.2.1.1.2.1
def SA:=zc.2.1.1.2.2
def N:=zc.2.1.2.1
def np:=zc.2.1.2.2.1
def su:=zc.2.1.2.2.2
def l:=zc.2.2.1.1
def po:=zc.2.2.1.2.1
def fi:=zc.2.2.1.2.2
def n:=zc.2.2.2.1
def t:=zc.2.2.2.2.1
def b₀:=zc.2.2.2.2.2
theorem zaux:zQ w A s mg mb mN K x dx d rd NA EA SA N np su l po fi n t b₀:=by
 intro g ok S hb C Z off hg hnp hsu hlen
 refine q2_1 ((S.le hb).f134) λpm cd F=>?_
 refine wpAny_call (call_fnB0 (n:=n) ok F (S.le hb).lim rfl rfl (λ_=>by kernel_rfl) ?_)
 rw [bind_done]
 refine wpAny_bind (wpAny_newTuple (wpAny_pure ?_) (by rw [sizeLine_eq];simp))
 refine⟨Kp.push _ _,by kernel_rfl,λ_=>by kernel_rfl,λs1 L m cm B I1 ok'=>?_⟩
 generalize hH:s.heap.push { cls:=.type "tuple",data:=.seq [Value.int (g:Int) t].toArray }=H at I1
 have lH:Le s.heap H:=by rw [← hH];exact Le.push _ _
 have hT:H.IsTuple s.heap.objs.size [Value.int (g:Int) t].toArray:=by rw [← hH];exact e1_3 _ (Heap.get?_push_size _ rfl) rfl (e1_1 _ rfl)
 have live0:=Z.live
 have nft:∀ a∈sorA x dx d rd NA EA SA N,a∉ft (dnEnv pm cd L) []:=λa ha=>q1_1 (live0 a ha) λo e=>I1.notft (lH.get _ _ e)
 have I2:=I1.hide (dnA x dx rd NA N) (λc hc=>q1_1 (live0 c (dnA_sor hc)) λo e=>⟨o,I1.le.get _ _ (lH.get _ _ e)⟩) (λc hc=>nft c (dnA_sor (d:=d) (EA:=EA) (SA:=SA) hc))
 have lbc:Le b₀ (hideAll H (dnA x dx rd NA N)):=le_hide (hb.trans lH) λc hc=>off c (dnA_sor hc)
 refine byC0 λzn=>?_
 refine q1_2 (Z.gr.list g hg) λws hws hpw=>?_
 have sgm:SA g∈gA d NA EA SA N:=mem_gA.mpr (.inr (e1_2 g hg (.inr (.inr rfl))))
 refine q1_2 ((Z.gr.list g hg).live) λosg esg csg=>?_
 refine zn ?_;clear zn
 have hlb:NatL (hideAll H (dnA x dx rd NA N)) (SA g) (su g):=(Z.gr.list g hg).at λo e=>hideAll_get _ (lH.get _ _ e) λhm=>by
  (rcases mem_dnA.mp hm with h | h | h | z1)<;>(first | (refine q1_2 z1 λi hi h=>?_;clear z1) | skip)
  ·exact Z.sx (h▸sgm)
  ·exact Z.sdx (h▸sgm)
  ·exact Z.srd (h▸sgm)
  ·exact ((Z.gr.info i hi).notlist esg csg).1 h.symm
 have hTb:(hideAll H (dnA x dx rd NA N)).IsTuple s.heap.objs.size [Value.int (g:Int) t].toArray:=by
  refine q1_2 hT λo e r=>?_;clear hT
  exact e1_2 o (hideAll_get _ e λhm=>by refine q1_1 (live0 _ (dnA_sor (d:=d) (EA:=EA) (SA:=SA) hm)) λo' e'=>?_;exact absurd (Heap.lt_size e') (Nat.lt_irrefl _)) r
 dsimp only at I2
 generalize hbc:hideAll H (dnA x dx rd NA N)=bc at I2 lbc hlb hTb
 have Z1:Sor w s1.heap x dx d rd NA EA SA N np su l po fi:=Z.get λa _ o e=>I1.le.get _ _ (lH.get _ _ e)
 refine q1_6 (Z1.ia) λmA IA1 W a2 a3 a4 a5=>?_
 refine seqk (ex_if (r:=false) I2.le (Td.cmp (Yd.atr (I2.fs.var (x:=sO "self") rfl rfl (B 0 _ _ rfl)) (S.le (lbc.trans I2.le)).ts IA1 a3 (C.mN0 _ (by simp)) (C.mN0 _ (by simp)) rfl tl1) Yd.none (λu v s _ _ hu hv=>by cases hu;cases hv;exact is_ref_none ⟨Kp.refl s,rfl⟩)) λs2 k2=>?_)
 simp only [Bool.false_eq_true,if_false]
 refine nil_ ?_
 have I3:=I2.kp k2
 refine seqn (ex_asg I3 rfl rfl (Yd.atr (I3.fs.var (x:=sO "self") rfl rfl (B 0 _ _ rfl)) (S.le (lbc.trans I3.le)).ts (IA1.le k2.le) a2 (C.mN0 _ (by simp)) (C.mN0 _ (by simp)) rfl tl0) rfl) λs3 q=>?_
 refine byC0 λzn=>?_;refine s2_3 q λE23 v1 b1 l1 I4 e1=>?_;clear q;refine zn ?_;clear zn
 cases e1
 have Z3:Sor w s3.heap x dx d rd NA EA SA N np su l po fi:=Z1.get λa ha o e=>E23.get a o (nft a ha) (k2.le.get _ _ e)
 have dX:∀ a∈dnA x dx rd NA N,a∈dnA x dx rd NA N++([]:List Addr):=λa ha=>by simpa using ha
 refine seq (ex_for (xs:=[g]) (B:=IsN) (λv m cm m' cm'=>∃ u,IsN v u/\m'=up m (sO "node") u/\cm'=cm)
  (λi b' m' cm' s'=>Le b1 b'/\m' (sO "self")=some (.ref x)/\m' (sO "n2i")=some (.ref d)/\Sor w s'.heap x dx d rd NA EA SA N (if i=0 then np else (dfold (su g) (λi=>if i=g then -2 else np i,l)).1) su (if i=0 then l else (dfold (su g) (λi=>if i=g then -2 else np i,l)).2) po (fi+i))
  I4 (Src.tuple ok'.hd (Yd.namV (I4.fs.var (x:=sO "nodes") (v:=.ref s.heap.objs.size) rfl rfl (by simp +decide [up];exact B 1 _ _ rfl))) (hTb.at λo e=>l1.get _ _ e) (.cons ⟨t,rfl⟩ .nil))
  (λs' k=>⟨Le.refl _,by simp +decide [up];exact B 0 _ _ rfl,by simp +decide [up],by simpa using Z3.get (h':=s'.heap) λa _ o e=>k.le.get _ _ e⟩)
  (λv u s' m' cm' hp hB hs' F'=>(asg_loc F' rfl rfl).to λ_ s'' q=>e0_2 q.1 (e2_2 _ _ q.2 (e1_3 u hB rfl rfl)))
  λi v Ik b' m1 cm1 t1 m2 cm2 t2 hi hl' Iin hIX hI0 hJ E12 hK J2=>?_) λfl s5 q=>?_
 ·refine byC0 λzn=>?_
  refine q0_4 hJ λlb h1 h2 Zi=>?_;clear hJ
  refine q1_3 hK λu z1 z3 z4=>?_;clear hK;refine q1_1 z1 λt' z2=>?_;clear z1;subst z2;subst z3;rcases z4.symm with rfl
  refine zn ?_;clear zn
  have hi0:i=0/\v=g:=by
   cases i with
   | zero=>simp at hi;exact⟨rfl,hi.symm⟩
   | succ i=>simp at hi
  rcases hi0 with ⟨rfl,rfl⟩
  simp only [if_true,Int.natCast_zero,Int.add_zero] at Zi
  have nIk:∀ a∈sorA x dx d rd NA EA SA N,a∉Ik::ft (dnEnv pm cd L) []:=λa ha hm=>by
   rcases zC hm with h | h
   ·refine q1_1 (Z3.live a ha) λo e=>?_
    rw [h,hI0] at e;cases e
   ·exact nft a ha h
  have Z4:Sor w t2.heap x dx d rd NA EA SA N np su l po fi:=Zi.get λa ha o e=>E12.get a o (nIk a ha) e
  have hds:(d == sysModules)=false:=S.nmod (off d (by simp [sorA,gA]))
  have b02:Le b₀ b':=(lbc.trans l1).trans lb
  refine seqk (ex_if_walrus (u:=.ref (NA v)) J2 rfl rfl ?_ λt3 b3 l3 E3 J3=>?_)
  ·refine Yd.mono (Yd.dget Z4.gr.dict hds (Yd.namV (J2.fs.var (x:=sO "n2i") (v:=.ref d) rfl rfl (by simp +decide [up];exact h2))) (Yd.namI (J2.fs.var (x:=sO "node") (v:=.int (v:Int) t') rfl rfl (by simp [up])))) λv g _ q=>?_
   rw [kvs_at hg] at q
   exact q
  rw [if_neg (by simp)]
  refine nil_ ?_
  have Z5:Sor w t3.heap x dx d rd NA EA SA N np su l po fi:=Z4.get λa ha o e=>E3.get a o (nft a ha) e
  have b03:=b02.trans l3
  have xg:=Z5.gr.info v hg
  rw [hnp] at xg
  refine q2_1 (xg.obj) λu1 u2 xq=>?_
  refine seqn (ex_asg (P:=IsI (-1)) J3 rfl rfl (Yd.slt (S.le (b03.trans J3.le)).k C.nk.np (inst_ni xq xg.dict) (v:=.int (-1) u2) rfl rfl (Yd.namV (J3.fs.var (x:=sO "nodeinfo") (v:=.ref (NA v)) rfl rfl (by simp [up]))) (λ_=>⟨u2,rfl⟩)) rfl) λt4 q=>?_
  refine byC0 λzn=>?_
  refine s2_3 q λE4 v4 b4 l4 J4 z2=>?_;clear q;refine q1_1 z2 λtv z3=>?_;clear z2;subst z3
  have Z6:Sor w t4.heap x dx d rd NA EA SA N np su l po fi:=Z5.get λa ha o e=>E4.get a o (nft a ha) e
  have b04:=b03.trans l4
  refine q1_1 (C.out) λto hto=>?_
  refine zn ?_;clear zn
  refine seqk (ex_if (r:=false) J4.le (Td.ne (i:=-1) (j:=-1) (Yd.namI (J4.fs.var (x:=sO "stat") (v:=.int (-1) tv) rfl rfl (by simp [up]))) (Yd.namI (J4.fs.glo (S.le (b04.trans J4.le)).g hto rfl rfl rfl))) λt₅ k5=>?_)
  simp only [Bool.false_eq_true,if_false]
  refine nil_ ?_
  have J5:=J4.kp k5
  have Z7:Sor w t₅.heap x dx d rd NA EA SA N np su l po fi:=Z6.get λa _ o e=>k5.le.get _ _ e
  have xg7:=Z7.gr.info v hg
  refine byC0 λzn=>?_
  refine q2_1 (xg7.obj) λw1 w2 xq7=>?_
  have nm:NA v∈dnA x dx rd NA N:=mem_dnA.mpr (.inr (.inr (.inr (e1_2 v hg rfl))))
  have mem:∀ a∈dnA x dx rd NA N,a∈Ik::(dnA x dx rd NA N++([]:List Addr)):=λa ha=>zT (dX a ha)
  refine q1_1 (C.done) λtd htd=>?_
  refine zn ?_;clear zn
  refine seqn (ex_slot (P:=IsI (-2)) (λu=>#[some (.int (v:Int) w1),some u,some (.ref (SA v))]) J5 (S.le b04).k C.nk.np xq7 xg7.dict (mem _ nm) (by decide) (λu=>(slots3 1 _ _ _ (some u)).2.1 rfl) (J5.fs.var (x:=sO "nodeinfo") (v:=.ref (NA v)) rfl rfl (by simp +decide [up])) (Yd.namI (J5.fs.glo (S.le (b04.trans J5.le)).g htd rfl rfl rfl))) λt₆ q=>?_
  refine byC0 λzn=>?_;refine s2_4 q λE6 v6 b6 l6 J6 z2 x6=>?_;clear q;refine q1_1 z2 λt6 z3=>?_;clear z2;subst z3;refine zn ?_;clear zn
  have Z8:=Z7.setNp (k:=-2) hg (λc o hc e=>E6.get c o (by simpa using hc) e) ⟨e2_1 w1 t6 x6,E6.get _ _ (λhm=>xg7.ne (zS hm).symm) xg7.dict⟩
  have b06:=b04.trans l6
  refine seqn (dn_inner ok'.hd S C J6 mem b06 Z8 (hlb.at λo e=>l6.get _ _ (l4.get _ _ (l3.get _ _ (lb.get _ _ (l1.get _ _ e))))) hg hsu hlen nft (by simp +decide [up];exact h1) (by simp +decide [up];exact h2) (by simp +decide [up])) λt7 q=>?_
  refine byC0 λzn=>?_
  refine q3_6 q λb7 m7 cm7 l7 J7 E7 h17 h27 Z9=>?_;clear q
  have b07:=b06.trans l7
  refine q1_6 (Z9.ia) λmA' IA' W' c2 c3 c4 z1=>?_;refine q1_1 z1 λt5 c5=>?_;clear z1
  refine zn ?_;clear zn
  refine seqn (ex_iaAug (j:=1) J7.le (J7.fs.var (x:=sO "self") rfl rfl h17) (S.le (b07.trans J7.le)).ts IA' c5 (C.mN0 _ (by simp)) (C.mN0 _ (by simp)) (C.mN0 _ (by simp)) tl3 W' (by rw [sizeLine_eq];decide) Yd.int) λt₈ q=>?_
  refine byC0 λzn=>?_;refine s1_1 q λE8 t8 IA8=>?_;clear q;refine zn ?_;clear zn
  have Z10:=Z9.setFi E8 W' c2 c3 c4 IA8
  have xdm:∀ a∈([x,dx]:List Addr),a∈dnA x dx rd NA N:=λa ha=>by
   replace ha:=mem2 ha
   (rcases ha with rfl | rfl)
   ·exact mem_dnA.mpr (.inl rfl)
   ·exact mem_dnA.mpr (.inr (.inl rfl))
  have J8:=J7.ev2 E8 (λa ha=>J7.off _ (.inr (mem _ (xdm a ha)))) (J7.fs.get λc hc o e=>E8.get c o (λhm=>J7.apart _ (mem _ (xdm c hm)) hc) e) (λa _ hm=>by
   refine q1_1 (Z10.live a (dnA_sor (xdm a hm))) λo e=>?_;exact⟨o,e⟩)
  refine nil_ (e0_2 (.inl rfl) (e3_7 b7 m7 cm7 (((l3.trans l4).trans l6).trans l7) ?_ J8 ((((lb.trans l3).trans l4).trans l6).trans l7) h17 h27 ?_))
  ·have h1:Ev (ft (dnEnv pm cd L) []++(dnA x dx rd NA N++[])) t2 t₅:=((E3.mono λa ha=>List.mem_append_left _ ha).trans (E4.mono λa ha=>List.mem_append_left _ ha)).trans k5.ev
   refine ((h1.trans (E6.mono λa ha=>?_)).trans (E7.mono λa ha=>?_)).trans (E8.mono λa ha=>?_)
   ·rw [zS ha]
    exact List.mem_append_right _ (dX _ nm)
   ·rw [List.append_nil];exact ha
   ·exact List.mem_append_right _ (dX _ (xdm a ha))
  ·simp only [Nat.zero_add,Nat.one_ne_zero,if_false,Int.natCast_one]
   exact Z10
 ·refine byC0 λzn=>?_;refine q0_2 q λz1 z2=>?_;clear q;subst z1;refine q5_9 z2 λIk b' m' cm' s5' l' I6 hIf hIX hIn I6' z3 E55 E45=>?_;clear z2;refine q0_4 z3 λlb h1 h2 Zi=>?_;clear z3;refine zn ?_;clear zn
  refine nil_ ⟨rfl,?_,?_⟩
  ·refine⟨?_,λc o hc e=>I6.le.get _ _ (lb.get _ _ (l1.get _ _ ?_))⟩
   ·refine q2_1 (I6.same) λh' tk q=>?_
    exact e2_1 h' tk q
   ·rw [← hbc]
    exact hideAll_get _ (lH.get _ _ e) hc
  ·have:=Zi.get (h':=s5.heap) λa ha o e=>E55.get a o (λhm=>by
    refine q1_1 (Z3.live a ha) λo' e'=>?_
    rw [zS hm,hIn] at e';cases e') e
   simpa using this
theorem zall:∀ p,zR p:=all1 zaux
end
end Z7
theorem done_call {w A s mg mb mN K x dx d rd NA EA SA N np su l po fi n t b₀}:Z7.zQ w A s mg mb mN K x dx d rd NA EA SA N np su l po fi n t b₀:=Z7.zall ((((w,A),(s,(mg,mb))),((mN,(K,x)),(dx,(d,rd)))),(((NA,(EA,SA)),(N,(np,su))),((l,(po,fi)),(n,(t,b₀)))))
section
variable {w:World} {A:Around} {s₀ s:Shared} {b:Heap} {X:List Addr} {env:Env} {own:List (Str×Addr)} {m cm:SoV} {x dx:Addr} {N:Addr} {mN mA:SoV} {name:Str}
theorem ex_ia {n:Str} {np pa pos:Pos} {ex:Expr} {P:Value->Heap->Prop} {ns:List Str} (I:InF s₀ b X env own m cm s) (hX:x∈X/\dx∈X) (V:Var s.heap env n (.ref x)) (S:ClsAt s.heap 151 N mN) (Ia:IA s.heap x dx mA) (hs:mN "__setattr__"=none) (hn:mN name=none) (hB:typeLookup (.type "object") name=pure none)
  (hw:Within mA ns) (hsz:ns.length<=sizeLine) (hY:Yd w A b s.heap env ex P) (hd:autoParam ((n == ("__debug__" : Str))=false) auD) (hsw:autoParam (swapsWith ex (some (.Attribute (.Name n np) name pa)) pos.line env=pure false) auR) :
  Wp w A (exec (.Assign [.Attribute (.Name n np) name pa] ex pos) env) (λfl s'=>fl=.next/\Ev [x,dx] s s'/\∃ v b',Le b b'/\InF s₀ b' X env own m cm s'/\P v b'/\IA s'.heap x dx (up mA name v)) s:=by
 refine plainObj_wpAny_Assign_Attribute ((hY s I.le (Le.refl _)).to λv s1 q=>?_) hsw
 have I1:=I.kp q.1
 refine wpAny_Name (V w A s1 _ _ q.1.le ?_) hd
 refine (set_ia (cls_le S q.1.le) (Ia.le q.1.le) hs hn hB hw hsz).to λ_ s2 q2=>?_
 have E:Ev [x,dx] s s2:=q.1.ev.trans q2.1
 have mX:∀ a∈([x,dx]:List Addr),a∈X:=λa ha=>by
  replace ha:=mem2 ha
  (rcases ha with z0 | z0)<;>(replace z0:=Eq.symm z0;subst z0)
  ·exact hX.1
  ·exact hX.2
 refine q1_3 (I.step E (λc hc=>.inr (mX c hc)) (I1.fs.get λc hc o e=>q2.1.get c o (λz=>I.apart c (mX c z) hc) e) (λc _ hc=>by
  replace hc:=mem2 hc
  (rcases hc with z0 | z0)<;>(replace z0:=Eq.symm z0;subst z0)
  ·refine q1_2 (q2.2.obj) λo e _=>?_;exact⟨o,e⟩
  ·refine q3_2 (q2.2.ns) λo _ _ e _=>?_;exact⟨o,e⟩)) λb' l I2 g=>?_
 exact e0_3 rfl E (e2_4 v b' l I2 (q.2 b' l ((I.nw g).leftE q2.1 λc hc=>I.live c (mX c hc))) q2.2)
end
theorem bind_init {w:World} {A:Around} {s:Shared} {pm cd a:Value} {Q:List (Str×Value)->Shared->Prop} (ht:s.heap.IsTuple 80 #[.none]) (h:Q [(sO "self",a),(sO "graph",.none)] s) :
  Wp w A (bindArgs (fdOf (meth 10 0) (sO "TopologicalSorter.__init__") (.ref 80) pm cd) ⟨[a],[]⟩) Q s:=by
 refine byC0 λzn=>?_;refine q1_3 ht λo ho hc z1=>?_;clear ht;refine q1_1 z1 λn hd=>?_;clear z1;refine zn ?_;clear zn
 unfold bindArgs
 show wpAny _ _ (seqItems? (.ref 80) >>= _) _ _ _
 refine wpAny_bind (wpAny_seqItems ho hd ?_)
 exact wpAny_pure h
section
variable {w:World} {A:Around} {s:Shared} {mg mb mN:SoV} {K:Frag}
theorem ts_new {n:Nat} (ok:Ok (n+2) A) (S:St w mg mb mN K s.heap) (C:Con mg mb mN K) :
  Wp w A (call (.ref 151) []) (λv s'=>∃ x dx d mA,v=.ref x/\Kp s s'/\IA s'.heap x dx mA/\Within mA tsN/\mA (sO "_node2info")=some (.ref d)/\mA (sO "_ready_nodes")=some .none/\
   (∃ t,mA (sO "_npassedout")=some (.int 0 t))/\(∃ t,mA (sO "_nfinished")=some (.int 0 t))/\s'.heap.DictOf (intKind Pg w) d []/\s.heap.get? x=none/\s.heap.get? dx=none/\s.heap.get? d=none/\x≠d/\dx≠d) s:=by
 refine byC0 λzn=>?_;rcases s with ⟨hh,g,d,tk,os⟩;refine zn ?_;clear zn
 have X:=S.k
 refine wpAny_call (make_core (makes_of X C.tmk) (looks_findIn X C.tin) (λself=>bind_fn X self C.tfn) (.inl rfl) ?_)
 generalize hH:(hh.push emptyDict).push (instObj 151 hh.objs.size)=H
 have l:Le hh H:=by rw [← hH];exact (Le.push _ _).trans (Le.push _ _)
 have ha:H.get? (hh.objs.size+1)=some (instObj 151 hh.objs.size):=by rw [← hH];heap_get
 have he:H.get? hh.objs.size=some emptyDict:=by rw [← hH];heap_get
 have hne:hh.objs.size≠hh.objs.size+1:=Nat.ne_of_lt (Nat.lt_succ_self _)
 have I0:IA H (hh.objs.size+1) hh.objs.size (λ_=>none):=⟨e1_4 _ ha rfl rfl (λc q=>by cases q),Heap.Ns1.of_empty (e3_4 _ (#[]) 0 he rfl (λ_ h=>by simp at h) (λ_=>rfl)),hne⟩
 have hxN:hh.get? (hh.objs.size+1)=none:=none_ge (Nat.le_succ _)
 have hdN:hh.get? hh.objs.size=none:=none_ge (Nat.le_refl _)
 refine q2_1 (S.f87) λpm cd F=>?_
 refine call_fnB0 (n:=n) ok.make (F.le l) (S.lim.keeps l.get) rfl rfl (λ_=>by kernel_rfl) (bind_init (q1_2 S.t80 λo e r=>(e1_2 o (l.get _ _ e) r)) ⟨Kp.refl _,by kernel_rfl,λ_=>by kernel_rfl,λs1 L m cm B I1 ok'=>?_⟩)
 dsimp only at I1
 have live2:∀ c∈([hh.objs.size+1,hh.objs.size]:List Addr),∃ o,H.get? c=some o:=λc hc=>by
  replace hc:=mem2 hc
  (rcases hc with rfl | rfl)
  ·exact⟨_,ha⟩
  ·exact⟨_,he⟩
 have new2:∀ c∈([hh.objs.size+1,hh.objs.size]:List Addr),hh.get? c=none:=λc hc=>by
  replace hc:=mem2 hc
  (rcases hc with rfl | rfl)
  ·exact hxN
  ·exact hdN
 have I2:=I1.hide [hh.objs.size+1,hh.objs.size] (λc hc=>q1_1 (live2 c hc) λo e=>⟨o,I1.le.get _ _ e⟩) (λc hc=>q1_1 (live2 c hc) λo e=>I1.notft e)
 have lb:Le hh (hideAll H [hh.objs.size+1,hh.objs.size]):=le_hide l new2
 generalize hbc:hideAll H [hh.objs.size+1,hh.objs.size]=bc at I2 lb
 have V2:=λ{s0 s':Shared} {m' cm':SoV} {b':Heap} (J:InF s0 b' ([hh.objs.size+1,hh.objs.size]++[]) (callEnvC (fdOf (meth 10 0) (sO "TopologicalSorter.__init__") (.ref 80) pm cd) L 87) [] m' cm' s') (e:m' (sO "self")=some (.ref (hh.objs.size+1)))=>J.fs.var (x:=sO "self") rfl rfl e
 have hXm:hh.objs.size+1∈[hh.objs.size+1,hh.objs.size]++([]:List Addr)/\hh.objs.size∈[hh.objs.size+1,hh.objs.size]++([]:List Addr):=⟨by simp,by simp⟩
 refine seqn (ex_ia I2 hXm (V2 I2 (B 0 _ _ rfl)) (S.le (lb.trans I2.le)).ts (I0.le I1.le) (C.mN0 _ (by simp)) (C.mN0 _ (by simp)) tl0 (ns:=tsN) (λ_ h=>absurd rfl h) (by rw [sizeLine_eq];decide) Yd.dict0) λs2 q=>?_
 refine byC0 λzn=>?_;refine s2_4 q λE1 v1 b1 l1 I3 z2 IA1=>?_;clear q;refine q0_2 z2 λz3 z5=>?_;clear z2;refine q1_2 z3 λdd z4 hdd=>?_;clear z3;subst z4;refine q1_2 z5 λ_ z nd=>?_;clear z5;refine zn ?_;clear zn
 cases z
 refine seqn (ex_ia I3 hXm (V2 I3 (B 0 _ _ rfl)) (S.le ((lb.trans l1).trans I3.le)).ts IA1 (C.mN0 _ (by simp)) (C.mN0 _ (by simp)) tl1 (ns:=tsN) (Mine.Internal.Within.up (λ_ h=>absurd rfl h) (by decide)) (by rw [sizeLine_eq];decide) Yd.none) λs3 q=>?_
 refine byC0 λzn=>?_;refine s2_4 q λE2 v2 b2 l2 I4 e2 IA2=>?_;clear q;refine zn ?_;clear zn
 cases e2
 refine seqn (ex_ia I4 hXm (V2 I4 (B 0 _ _ rfl)) (S.le (((lb.trans l1).trans l2).trans I4.le)).ts IA2 (C.mN0 _ (by simp)) (C.mN0 _ (by simp)) tl2 (ns:=tsN) (Mine.Internal.Within.up (Mine.Internal.Within.up (λ_ h=>absurd rfl h) (by decide)) (by decide)) (by rw [sizeLine_eq];decide) Yd.int) λs4 q=>?_
 refine byC0 λzn=>?_;refine s2_4 q λE3 v3 b3 l3 I5 z2 IA3=>?_;clear q;refine q1_1 z2 λt3 z3=>?_;clear z2;subst z3;refine zn ?_;clear zn
 refine seqn (ex_ia I5 hXm (V2 I5 (B 0 _ _ rfl)) (S.le ((((lb.trans l1).trans l2).trans l3).trans I5.le)).ts IA3 (C.mN0 _ (by simp)) (C.mN0 _ (by simp)) tl3 (ns:=tsN) (Mine.Internal.Within.up (Mine.Internal.Within.up (Mine.Internal.Within.up (λ_ h=>absurd rfl h) (by decide)) (by decide)) (by decide)) (by rw [sizeLine_eq];decide) Yd.int) λs5 q=>?_
 refine byC0 λzn=>?_;refine s2_4 q λE4 v4 b4 l4 I6 z2 IA4=>?_;clear q;refine q1_1 z2 λt4 z3=>?_;clear z2;subst z3;refine zn ?_;clear zn
 refine seqk (ex_if (r:=false) I6.le (Td.cmp (P₁:=IsV .none) (Yd.namV (I6.fs.var (x:=sO "graph") rfl rfl (B 1 _ _ rfl))) Yd.none (λu v s _ _ hu hv=>by cases hu;cases hv;exact isnot_none_none ⟨Kp.refl s,rfl⟩)) λs6 k6=>?_)
 simp only [Bool.false_eq_true,if_false]
 have I7:=I6.kp k6
 have nd1:hh.get? dd=none:=by
  cases q:hh.get? dd with
  | none=>rfl
  | some o=>rw [I1.le.get _ _ (l.get _ _ q)] at nd;cases nd
 refine nil_ (nil_ (InitBack.of rfl (e4_14 (hh.objs.size+1) hh.objs.size dd _ rfl ⟨?_,(((((lb.trans l1).trans l2).trans l3).trans l4).trans I7.le)⟩ (IA4.le k6.le) (Mine.Internal.Within.up (Mine.Internal.Within.up (Mine.Internal.Within.up (Mine.Internal.Within.up (λ_ h=>absurd rfl h) (by decide)) (by decide)) (by decide)) (by decide)) (by simp +decide [up]) (by simp +decide [up]) ⟨t3,by simp +decide [up]⟩ ⟨t4,by simp +decide [up]⟩ (hdd.at λo e=>(((l2.trans l3).trans l4).trans I7.le).get _ _ e) hxN hdN nd1 ?_ ?_)))
 ·refine q2_1 (I7.same) λh' tk' q=>?_
  exact e2_1 h' tk' q
 ·intro z
  rw [← z,I1.le.get _ _ ha] at nd;cases nd
 ·intro z
  rw [← z,I1.le.get _ _ he] at nd;cases nd
end
theorem ints_of:∀ {l:List Nat} {vs:List Value},Paired IsN l vs->IntsAre vs (l.map λ(i:Nat)=>(i:Int)):=by
 intro _ _ h
 induction h with
 | nil=>exact .nil
 | cons h t ih=>exact h.elim λu z=>z▸.cons _ u ih
section
variable {w:World} {A:Around} {s:Shared} {b h:Heap} {env:Env}
theorem any_nat (l:List Nat) (k:Nat):((l.map λ(i:Nat)=>(i:Int)).any (· == (k:Int)))=decide (k∈l):=by
 induction l with
 | nil=>simp
 | cons a r ih=>
  rw [List.map_cons,List.any_cons,ih]
  by_cases h:a=k
  ·subst h;simp
  ·have h1:k≠a:=λe=>h e.symm
   have h2:((a:Int) == (k:Int))=false:=by simp;omega
   simp [h1,h2]
theorem Td.inList {l r:Expr} {p:Pos} {a:Addr} {ns:List Nat} {k:Nat} (x:Yd w A b h env l (IsI (k:Int))) (y:Yd w A b h env r (λv g=>∃ a,v=.ref a/\NatL g a ns)) (hm:autoParam (behindInMarks .In r=false) auR):Td w A b h env (.Compare l [.In] [r] p) (decide (k∈ns)):=
 Td.cmp x y (λu v s _ _ hu hv=>by
  refine byC0 λzn=>?_
  refine q1_1 hu λt z1=>?_;clear hu;subst z1
  refine q1_2 hv λa z1 z2=>?_;clear hv;subst z1;refine q1_2 z2 λvs hvs hp=>?_;clear z2
  refine zn ?_;clear zn
  refine in_list_ints hvs.isList (ints_of hp) ?_
  rw [any_nat]
  exact⟨Kp.refl s,rfl⟩) hm
theorem Td.notInList {l r:Expr} {p:Pos} {a:Addr} {ns:List Nat} {k:Nat} (x:Yd w A b h env l (IsI (k:Int))) (y:Yd w A b h env r (λv g=>∃ a,v=.ref a/\NatL g a ns)) (hm:autoParam (behindInMarks .NotIn r=false) auR):Td w A b h env (.Compare l [.NotIn] [r] p) (!decide (k∈ns)):=
 Td.cmp x y (λu v s _ _ hu hv=>by
  refine byC0 λzn=>?_
  refine q1_1 hu λt z1=>?_;clear hu;subst z1
  refine q1_2 hv λa z1 z2=>?_;clear hv;subst z1;refine q1_2 z2 λvs hvs hp=>?_;clear z2
  refine zn ?_;clear zn
  refine notin_list_ints hvs.isList (ints_of hp) ?_
  rw [any_nat]
  exact⟨Kp.refl s,rfl⟩) hm
theorem Td.neNil {l:Expr} {p p2:Pos} {ns:List Nat} (hu:A.units+64<cLine) (x:Yd w A b h env l (λv g=>∃ a,v=.ref a/\NatL g a ns)) (hm:autoParam (behindInMarks .NotEq (.List [] p2)=false) auR):Td w A b h env (.Compare l [.NotEq] [.List [] p2] p) (!ns.isEmpty):=
 Td.cmp x (Yd.lst Yds.nil) (λu v s _ _ hu' hv=>by
  refine byC0 λzn=>?_
  refine q1_2 hu' λa z1 z2=>?_;clear hu';subst z1;refine q1_2 z2 λvs hvs hp=>?_;clear z2
  refine q2_2 hv λD us z1 z2=>?_;clear hv;subst z1;refine q0_2 z2 λhD hus=>?_;clear z2
  refine zn ?_;clear zn
  cases hus
  refine ne_intsK hvs.isList (ints_of hp) hD.isList .nil hu ⟨Kp.refl s,?_⟩
  cases ns<;>simp) hm
theorem IsL.nat {l:List Nat} {v:Value} {g:Heap} (x:IsL (λi v _=>IsN i v) l v g):∃ a,v=.ref a/\NatL g a l:=by
 refine q2_2 x λD ys z1 z2=>?_;clear x;subst z1;refine q0_2 z2 λhD hys=>?_;clear z2
 exact e1_2 D rfl (e1_2 ys.toList (by simpa using hD) hys)
theorem size_down (n:Nat):Builtin.Range.rangeSize ((n:Int)-1) (-1) (-1)=(n:Int):=by
 unfold Builtin.Range.rangeSize
 rw [if_neg (by decide)]
 by_cases h:n=0
 ·subst h;rw [if_neg (by decide)];rfl
 ·rw [if_pos (by omega)]
  have:(n:Int)-1 - -1-1=((n-1:Nat):Int):=by omega
  rw [this,show (-(-1:Int))=1 from rfl,Int.ediv_one]
  omega
theorem Itr.down {r:Addr} {n:Nat} {t u v:Tok} (hA:A.handled=Option.none) (hr:IsRange s.heap r ((n:Int)-1) (-1) (-1) t u v) (hn:n<1000) :
  Itr w A h (.ref r) (List.range n).reverse.length (λj v=>∃ b,(List.range n).reverse[j]?=some b/\IsN b v) s:=by
 refine wpAny_pyIter_range hr (by
  unfold Builtin.Range.small
  rw [size_down]
  simp only [Builtin.Range.rangeFitsLong,Bool.and_eq_true,Bool.or_eq_true,decide_eq_true_eq,beq_iff_eq,show ¬ ((-1:Int) > 0) by decide,if_false]
  by_cases h0:n=0
  ·subst h0;simp
  ·simp;omega) ?_
 have W:=Walks.range (prog:=Pg) (w:=w) (A:=A) hA s.heap.objs.size ((n:Int)-1) (-1) n
 rw [List.length_reverse,List.length_range]
 refine e3_8 s.heap.objs.size [s.heap.objs.size] (λi h=>IsRangeIter h s.heap.objs.size ((n:Int)-1+(i:Nat) * -1) ((n:Int)-(i:Nat)) (-1)) rfl ?_ ?_ (Kp.push _ _) (get_size_none _) (λi h' st=>⟨_,st⟩) (λb hb hn=>absurd (zS hb) hn) (λi v target s' _ st=>?_)
 ·refine⟨W.sub,W.frame,λi s Q E hi st hQ=>W.item i s Q E hi st λv h' tk hv=>hQ v h' tk ?_,W.done,W.self⟩
  refine q1_1 hv λt z1=>?_;clear hv;subst z1
  refine e1_2 (n-1-i) ?_ (e1_1 t ?_)
  ·rw [List.getElem?_reverse (by simpa using hi),List.length_range,List.getElem?_range (by omega)]
  ·congr 1
   omega
 ·rw [size_down]
  show Heap.get? _ _=_
  rw [Heap.get?_push_size _ rfl]
  simp [rawInt]
 ·exact letGo_other st rfl rfl (by decide)
end
noncomputable def straightOf (ps:List (Nat×Nat)) (i:Nat):List Nat:=(ps.filter λp=>p.1 == i).map (·.2)
noncomputable def bStep (ps:List (Nat×Nat)) (n:Nat) (B:Nat->List Nat) (i:Nat):List Nat:=(List.range n).filter λk=>decide (k∈straightOf ps i) || !((straightOf ps i).filter λm=>decide (k∈B m)).isEmpty
noncomputable def bUpd (ps:List (Nat×Nat)) (n:Nat) (B:Nat->List Nat) (i:Nat):Nat->List Nat:=λj=>if j=i then bStep ps n B i else B j
noncomputable def behF (ps:List (Nat×Nat)) (n:Nat):Nat->List Nat:=(List.range (n-1)).reverse.foldl (bUpd ps n) λ_=>[]
noncomputable def LL (h g:Heap) (a:Addr) (ls:List (List Nat)):Prop:=∃ vs:List Value,h.IsList a vs.toArray/\Paired (λl v=>∃ a,v=.ref a/\NatL g a l) ls vs
noncomputable def IsNP (p:Nat×Nat) (v:Value) (g:Heap):Prop:=IsT [IsI (p.1:Int),IsI (p.2:Int)] v g
noncomputable abbrev lbEnv (pm cd:Value) (L:Addr):Env:=callEnvC (fdOf (top 12) (sO "_law_behind") .none pm cd) L 160
theorem lbCells (pm cd:Value) (L:Addr):(lbEnv pm cd L).cells=[(sO "straight",L+3),(sO "behind",L+2),(sO "node",L+1)]:=rfl
section
variable {w:World} {A:Around} {s:Shared} {b h:Heap} {env:Env}
theorem Src.down {x:Str} {p pos p1 p2 p3 p4 p5 p6:Pos} {k1 k2 k3:Nat} {e:Expr} {n:Nat} (hA:A.handled=none) (hf:Var h env x (.type "range")) (he:Yd w A b h env e (IsI ((n:Int)+1))) (hn:n<1000) (hd:autoParam ((x == ("__debug__" : Str))=false) auD)
  (hst:autoParam (starEach [.BinOp e .Sub (.Constant (.int 2) k1 p1) p2,.UnaryOp .USub (.Constant (.int 1) k2 p3) p4,.UnaryOp .USub (.Constant (.int 1) k3 p5) p6] env=(false,eval (.BinOp e .Sub (.Constant (.int 2) k1 p1) p2) env)::starEach [.UnaryOp .USub (.Constant (.int 1) k2 p3) p4,.UnaryOp .USub (.Constant (.int 1) k3 p5) p6] env) auR)
  (hst2:autoParam (starEach [.UnaryOp .USub (.Constant (.int 1) k2 p3) p4,.UnaryOp .USub (.Constant (.int 1) k3 p5) p6] env=(false,eval (.UnaryOp .USub (.Constant (.int 1) k2 p3) p4) env)::starEach [.UnaryOp .USub (.Constant (.int 1) k3 p5) p6] env) auR)
  (hst3:autoParam (starEach [.UnaryOp .USub (.Constant (.int 1) k3 p5) p6] env=(false,eval (.UnaryOp .USub (.Constant (.int 1) k3 p5) p6) env)::starEach [] env) auR)
  (hp:autoParam ((backTo pos (starEach [.UnaryOp .USub (.Constant (.int 1) k2 p3) p4,.UnaryOp .USub (.Constant (.int 1) k3 p5) p6] env)).any (·.1)=false) auR) :
  Src w A b h env (.Call (.Name x p) [.BinOp e .Sub (.Constant (.int 2) k1 p1) p2,.UnaryOp .USub (.Constant (.int 1) k2 p3) p4,.UnaryOp .USub (.Constant (.int 1) k3 p5) p6] [] pos) (List.range n).reverse IsN:=by
 have neg:∀ {k q q'},Yd w A b h env (.UnaryOp .USub (.Constant (.int 1) k q) q') (IsI (-1)):=λ{k q q'} s hb hs=>wpAny_UnaryOp (wpAny_Constant_int (P.neg_int ⟨(Kp.tok s _).trans (Kp.tok _ _),λ_ _ _=>⟨_,rfl⟩⟩))
 refine⟨λ_=>rfl,λs hb hs=>?_⟩
 refine PyProof.Rows.Call_Name rfl (wpAny_Name (hf w A s _ _ hs (callWith_type1 ((Yds.cons (Yd.sub he Yd.int) (Yds.cons neg (Yds.one neg hst3) hst2) hst s pos hb hs).to λvs s1 q=>?_) hst hp)) hd)
 have q0:=q.2 s1.heap (hb.trans q.1.le) (Nw.self _ _)
 refine v3 q0 λy1 y2 y3 ey a a' a''=>?_;subst ey
 refine byC0 λzn=>?_
 refine q1_1 a λt z1=>?_;clear a;subst z1
 refine q1_1 a' λt' z1=>?_;clear a';subst z1
 refine q1_1 a'' λt'' z1=>?_;clear a'';subst z1
 refine zn ?_;clear zn
 refine call_range_3 (by decide) ⟨q.1.trans ⟨e2_1 _ _ rfl,Le.push _ _⟩,?_⟩
 have e1:(n:Int)+1-2=(n:Int)-1:=by omega
 rw [e1]
 exact Itr.down hA (IsRange.new ..) hn
end
section
variable {w:World} {A:Around} {s:Shared} {R:Result->Shared->Prop}
theorem call_fnC {n:Nat} {f:Addr} {fd:FuncData} {body:List Stmt} {vals:List Value} {binds:List (Str×Value)} (cn:List Str) (ok:Ok (n+1) A) (hF:FnAt s.heap f fd) (hlim:s.heap.NoLimit)
  (hbody:fd.body=.stmts body) (hbind:bindArgs fd ⟨vals,[]⟩=pure binds) (hclo:fd.closure=[]) (hloc:(binds.map λx=>fd.scope.names.lookup x.1)=binds.map λ_=>some .local)
  (hc:∀ n,(cellsFrom n fd.scope.names []).map (·.1)=cn) (hcn:cn.Nodup)
  (hm:∀ L,(binds.map λx=>bindL (callEnvC fd L f).kindOf binds (λ_=>none) x.1)=binds.map λx=>some x.2)
  (h:∀ s1 L m cm,(∀ (i:Nat) x v,binds[i]?=some (x,v)->m x=some v)->InF s s.heap [] (callEnvC fd L f) (callEnvC fd L f).cells m cm s1->Ok n (A.deeper (callEnvC fd L f))->
   Wp w (A.deeper (callEnvC fd L f)) (execs body (callEnvC fd L f)) (λfl s'=>R (.ok (.ret (retOf fl))) s') s1)
  (hco:autoParam (fd.scope.isCoroutine=false) auR) (hgen:autoParam (fd.scope.isGenerator=false) auR) (hk:autoParam (fd.scope.kind=.function) auR):codeAny (model Pg w) A (.call (.ref f) ⟨vals,[]⟩) R s:=by
 refine call_fn ok hF hlim hbody hbind hclo (λx hx=>.inl ?_) (by rw [hc];exact hcn) (λs1 L hL I ok'=>?_) hco hgen hk
 ·have:fd.scope.names.lookup x.1∈binds.map λx=>fd.scope.names.lookup x.1:=List.mem_map.mpr (e1_2 x hx rfl)
  rw [hloc] at this
  refine q1_2 (List.mem_map.mp this) λ_ _ e=>?_
  exact e.symm
 ·refine h s1 L _ _ (λi x v hi=>?_) I ok'
  have:=congrArg (·[i]?) (hm L)
  simpa [hi] using this
end
section
variable {w:World} {A:Around} {b h:Heap} {env:Env}
theorem Td.or2 {l r:Expr} {p:Pos} {c c':Bool} (x:Td w A b h env l c) (y:Td w A b h env r c'):Td w A b h env (.BoolOp .Or [l,r] p) (c || c'):=λs hb hs=>by
 refine isTrue_or ((x s hb hs).to λz s1 q=>?_)
 rcases q with ⟨rfl,k⟩
 cases z with
 | true=>exact⟨rfl,k⟩
 | false=>
  simp only [Bool.false_eq_true,if_false,Bool.false_or]
  refine isTrue_or ((y s1 (hb.trans k.le) (hs.trans k.le)).to λz s2 q2=>?_)
  rcases q2 with ⟨rfl,k2⟩
  cases z with
  | true=>exact⟨rfl,k.trans k2⟩
  | false=>
   simp only [Bool.false_eq_true,if_false]
   exact isTrue_or_nil ⟨rfl,k.trans k2⟩
end
theorem flat2 {α β:Type} (p:α->Bool) (g:α->β) (l:List α):(l.filter p).flatMap (λx=>[g x])=(l.filter p).map g:=by
 induction (l.filter p) with
 | nil=>rfl
 | cons a r ih=>simpa using ih
theorem Paired.map_left {α β γ:Type} {F:β->γ->Prop} (g:α->β):∀ {l:List α} {k:List γ},Paired (λa v=>F (g a) v) l k->Paired F (l.map g) k:=by
 intro _ _ h
 induction h with
 | nil=>exact .nil
 | cons a t ih=>exact .cons a ih
theorem Paired.imp {β γ:Type} {F G:β->γ->Prop} (h:∀ a v,F a v->G a v):∀ {l:List β} {k:List γ},Paired F l k->Paired G l k:=by
 intro _ _ z
 induction z with
 | nil=>exact .nil
 | cons a t ih=>exact .cons (h _ _ a) ih
theorem Paired.ofGet {β γ:Type} {F:β->γ->Prop}:∀ {l:List β} {k:List γ},l.length=k.length->(∀ (i:Nat) (a:β) (b:γ),l[i]?=some a->k[i]?=some b->F a b)->Paired F l k
 | [],[],_,_=>.nil
 | [],_::_,h,_=>by simp at h
 | _::_,[],h,_=>by simp at h
 | a::l,b::k,h,p=>.cons (p 0 a b rfl rfl) (Paired.ofGet (by simpa using h) λi a b e e'=>p (i+1) a b (by simpa using e) (by simpa using e'))
theorem Paired.setMap {β γ:Type} {F:β->γ->Prop} {f:Nat->β} {c v:Nat} {x:β} {y:γ} {k:List γ} (p:Paired F ((List.range c).map f) k) (hF:F x y):Paired F ((List.range c).map λj=>if j=v then x else f j) (k.set v y):=by
 have hl:=p.length
 refine Paired.ofGet (by simpa using hl) λi a b e e'=>?_
 rw [List.getElem?_map] at e
 rw [List.getElem?_set] at e'
 by_cases hi:v=i
 ·subst hi
  rw [if_pos rfl] at e'
  cases hr:(List.range c)[v]? with
  | none=>rw [hr] at e;cases e
  | some z=>
   rw [hr] at e
   have:z=v:=by rw [List.getElem?_eq_some_iff] at hr;refine q1_1 hr λ_ q=>?_;clear hr;simpa using q.symm
   subst this
   simp at e
   split at e'
   ·simp at e'
    rw [← e,← e']
    exact hF
   ·cases e'
 ·rw [if_neg hi] at e'
  refine q1_2 (Paired.getAt p i b e') λb' hb hFb=>?_
  rw [List.getElem?_map] at hb
  cases hr:(List.range c)[i]? with
  | none=>rw [hr] at e;cases e
  | some z=>
   have:z=i:=by rw [List.getElem?_eq_some_iff] at hr;refine q1_1 hr λ_ q=>?_;clear hr;simpa using q.symm
   subst this
   rw [hr] at e hb
   simp only [Option.map_some,Option.some.injEq] at e hb
   rw [if_neg (λz=>hi z.symm)] at e
   rw [← e,hb]
   exact hFb
namespace Z8
noncomputable section
def zQ (w:World) (A:Around) (s:Shared) (mg mb mN:SoV) (K:Frag) (n c:Nat) (t:Tok) (P:Addr) (vs:List Value) (ps:List (Nat×Nat)):Prop:=∀ (ok:Ok (n+1) A) (S:St w mg mb mN K s.heap) (C:Con mg mb mN K) (hP:s.heap.IsList P vs.toArray) (hps:Paired (λp v=>IsNP p v s.heap) ps vs) (hc1:1<=c) (hc:c<=100) (hpl:ps.length<=1000) (hpc:∀ p∈ps,p.2<c) (hn:7<=n),Wp w A (call (.ref 160) [.ref P,.int c t]) (λv s'=>Kp s s'/\∃ Ba,v=.ref Ba/\s.heap.get? Ba=none/\LL s'.heap s'.heap Ba ((List.range c).map (behF ps c))) s
abbrev zY:=(((World×(Around×Shared))×(SoV×(SoV×SoV)))×((Frag×(Nat×Nat))×((Tok×Addr)×((List Value)×(List (Nat×Nat))))))
def zR (p:zY):=zQ p.1.1.1 p.1.1.2.1 p.1.1.2.2 p.1.2.1 p.1.2.2.1 p.1.2.2.2 p.2.1.1 p.2.1.2.1 p.2.1.2.2 p.2.2.1.1 p.2.2.1.2 p.2.2.2.1 p.2.2.2.2
def zc:zY:=eps1 (neP (neP (neP neW (neP neA neS)) neI) neI) zR
def w:=zc.1.1.1
def A:=zc.1.1.2.1
def s:=zc.1.1.2.2
def mg:=zc.1.2.1
def mb:=zc.1.2.2.1
def mN:=zc.1.2.2.2
def K:=zc.2.1.1
def n:=zc.2.1.2.1
def c:=zc.2.1.2.2
def t:=zc.2.2.1.1
def P:=zc.2.2.1.2
def vs:=zc.2.2.2.1
def ps:=zc.2.2.2.2
theorem zaux:zQ w A s mg mb mN K n c t P vs ps:=by
 intro ok S C hP hps hc1 hc hpl hpc hn
 refine q2_1 (S.f160) λpm cd F=>?_
 refine wpAny_call (call_fnC (n:=n) (binds:=[(sO "pairs",.ref P),(sO "count",.int c t)]) [sO "straight",sO "behind",sO "node"] ok F S.lim rfl (by kernel_rfl) rfl (by kernel_rfl) (λ_=>by kernel_rfl) (by decide) (λ_=>by kernel_rfl) λs1 L m cm B I1 ok'=>?_)
 have bR:=C.blt (sO "range") (by simp)
 have VR:=λ{h:Heap} (l:Le s.heap h) {env:Env} (h1:env.scope.kind=.function) (h2:env.kindOf (sO "range")=some .globalImplicit) (h3:env.globals=mainGlobals) (h4:env.builtins=builtinsNs)=>(Var.blt (x:=sO "range") h1 h2 (h3▸(S.le l).g) bR.1 (h4▸(S.le l).b) (bR.2.trans (by decide +kernel:bootBuiltins (sO "range")=some (.type "range"))):Var h env _ _)
 have Vc:=I1.fs.var (x:=sO "count") rfl rfl (B 1 _ _ rfl)
 have mB:(sO "behind",L+2)∈(lbEnv pm cd L).cells:=by rw [lbCells];simp
 refine seq (ex_asgC (P:=λv g=>IsL (λ(_:Nat) v g=>∃ a,v=.ref a/\NatL g a []) (((List.range c).filter λ_=>true).flatMap λi=>[i]) v g/\Nu s1.heap v) I1 rfl rfl mB (λn c' hn he=>by rw [lbCells] at hn;subst he;simp +decide at hn;exact hn)
  (Yd.compN (cl:=[]) (B:=IsN) (K₁:=λ_ _ _=>True) rfl rfl (by decide) rfl (by intro g' h;cases h) (by intro C n c h;cases h) I1.le (Src.range ok'.hd (VR I1.le rfl rfl rfl rfl) (Yd.namI Vc) (by omega)) (by rw [flat1,List.length_map,List.length_range,sizeLine_eq];omega) λCc D O=>⟨λi v s m cm hx hB hs F=>(asg_loc F rfl rfl).to λ_ s' q=>e0_2 q.1 (e2_2 _ _ q.2 trivial),λi hh m cm hi hr F hK=>Ts.nil,λi hi hp=>emit_leaf rfl I1.le O λhh m' cm' hr F hK=>?_⟩) (by rfl)) λfl s2 q=>?_
 ·exact (Yd.lst Yds.nil).mono λv g _ q=>by
   refine q2_2 q λD us z1 z2=>?_;clear q;subst z1;refine q0_2 z2 λhD hus=>?_;clear z2
   cases hus
   exact e1_2 D rfl (e1_2 [] hD .nil)
 ·refine byC0 λzn=>?_;refine q0_2 q λz1 z2=>?_;clear q;subst z1;refine s2_4 z2 λE1 v1 b1 l1 I2 z4 z7=>?_;clear z2;refine q2_2 z4 λD ys z5 z6=>?_;clear z4;subst z5;refine q0_2 z6 λhD hys=>?_;clear z6;refine q1_2 z7 λ_ z nD=>?_;clear z7;refine zn ?_;clear zn
  cases z
  rw [flat1] at hys
  have hD0:s.heap.get? D=none:=I1.le.none nD
  have hDf:D∉ft (lbEnv pm cd L) (lbEnv pm cd L).cells:=λhm=>by refine q1_1 (I1.fs.live D hm) λo q=>?_;rw [nD] at q;cases q
  have I3:=I2.hide [D] (λa ha=>by rw [zS ha];refine q1_1 hD λn q=>?_;clear hD;exact⟨_,I2.le.get _ _ q⟩) (λa ha=>by rw [zS ha];exact hDf)
  have lb:Le s.heap (hideAll b1 [D]):=le_hide l1 λa ha=>by rw [zS ha];exact hD0
  have hDs:s2.heap.PlainList D ys:=hD.at λo e=>I2.le.get _ _ e
  have hv0:Paired (λ(l:List Nat) (v:Value)=>∃ a,v=Value.ref a/\NatL (hideAll b1 [D]) a l) ((List.range c).map λ_=>[]) ys.toList:=by
   refine Paired.map_left (F:=λ(l:List Nat) (v:Value)=>∃ a,v=Value.ref a/\NatL (hideAll b1 [D]) a l) (λ(_:Nat)=>([]:List Nat)) (Paired.imp (F:=λ(_:Nat) (v:Value)=>∃ a,v=Value.ref a/\NatL b1 a []) (λi v q=>?_) (by simpa using hys))
   refine q1_2 q λa z1 hl=>?_;clear q;subst z1
   refine e1_2 a rfl (hl.at λo e=>hideAll_get _ e λhm=>?_)
   refine byC0 λzn=>?_
   refine q1_2 hl λus z1 hp=>?_;clear hl;refine q1_1 z1 λn1 hus=>?_;clear z1
   refine q1_1 hD λn2 hd2=>?_;clear hD
   refine zn ?_;clear zn
   rw [zS hm,hd2] at hus
   have hyl:=hys.length
   simp only [Option.some.injEq,Obj.mk.injEq,Data.seq.injEq] at hus
   cases hp
   rw [hus.2.2.1.1] at hyl
   simp at hyl
   omega
  generalize hideAll b1 [D]=b2 at I3 lb hv0
  have nX:D∈[D]++([]:List Addr):=by simp
  have mN':(sO "node",L+1)∈(lbEnv pm cd L).cells:=by rw [lbCells];simp
  have mS:(sO "straight",L+3)∈(lbEnv pm cd L).cells:=by rw [lbCells];simp
  have c1:((c-1:Nat):Int)+1=(c:Int):=by omega
  refine seq (ex_for (xs:=(List.range (c-1)).reverse) (B:=IsN) (λv m cm m' cm'=>∃ u,IsN v u/\m'=m/\cm'=up cm (sO "node") u)
   (λi b' m' cm' s'=>Le b2 b'/\m' (sO "pairs")=some (.ref P)/\m' (sO "count")=some (.int c t)/\cm' (sO "behind")=some (.ref D)/\
    ∃ vals:List Value,s'.heap.IsList D vals.toArray/\Paired (λl v=>∃ a,v=.ref a/\NatL b' a l) ((List.range c).map (((List.range (c-1)).reverse.take i).foldl (bUpd ps c) λ_=>[])) vals)
   I3 (Src.down ok'.hd (VR (lb.trans I3.le) rfl rfl rfl rfl) (by rw [c1];exact Yd.namI (I3.fs.var (x:=sO "count") rfl rfl (B 1 _ _ rfl))) (by omega))
   (λs' k=>⟨Le.refl _,B 0 _ _ rfl,B 1 _ _ rfl,by simp [up],ys.toList,by simpa using hDs.isList.at λo e=>k.le.get _ _ e,by simpa using hv0⟩)
   (λv u s' m' cm' hp hB hs' F'=>(asg_cell F' rfl rfl mN' (λn c' hn he=>by rw [lbCells] at hn;subst he;simp +decide at hn;exact hn)).to λ_ s'' q=>e0_2 q.1 (e2_2 _ _ q.2 (e1_3 u hB rfl rfl)))
   λi v Ik b' m1 cm1 t1 m₂ cm₂ t2 hi hl' Iin hIX hI0 hJ E12 hK J2=>?_) λfl s4 q=>?_
  ·refine byC0 λzn=>?_;refine q0_5 hJ λlb' h1 h2 h3 z1=>?_;clear hJ;refine q1_2 z1 λvals hv hp=>?_;clear z1;refine zn ?_;clear zn
   rcases hK with ⟨u,⟨tv,rfl⟩,rfl,rfl⟩
   have hvc:v<c:=by
    have:=List.mem_of_getElem? hi
    rw [List.mem_reverse,List.mem_range] at this
    omega
   have DIk:D∉Ik::ft (lbEnv pm cd L) (lbEnv pm cd L).cells:=λhm=>by
    rcases zC hm with h | h
    ·exact hIX (h▸nX)
    ·exact hDf h
   have hv2:t2.heap.IsList D vals.toArray:=hv.at λo e=>E12.get _ o DIk e
   have ls2:Le s.heap t2.heap:=(lb.trans lb').trans J2.le
   generalize hB:(((List.range (c-1)).reverse.take i).foldl (bUpd ps c) λ_=>[])=Bv at hp
   have e1:straightOf ps v=(ps.filter λp=>p.1 == v).flatMap λp=>[p.2]:=(flat2 _ _ _).symm
   refine seqn (ex_asgC (P:=IsL (λ(i:Nat) v _=>IsN i v) (straightOf ps v)) J2 rfl rfl mS (λn c' hn he=>by rw [lbCells] at hn;subst he;simp +decide at hn;exact hn) (by
    rw [e1]
    exact Yd.comp (cl:=[(sO "node",L+1)]) (xs:=ps) (B:=λp v=>IsNP p v s.heap) (K₁:=λp m _=>(∃ t,m (sO "first")=some (.int (p.1:Int) t))/\∃ t,m (sO "last")=some (.int (p.2:Int) t)) rfl rfl (by decide) rfl (by intro g' h;cases h) (by intro C n c h;cases h) J2.le
     (Src.list ok'.hd (Yd.namV (J2.fs.var (x:=sO "pairs") rfl rfl h1)) (hP.at λo e=>ls2.get _ _ e) hps) (by
      rw [flat2,List.length_map,sizeLine_eq]
      have:=List.length_filter_le (λp:Nat×Nat=>p.1 == v) ps
      omega) λCc D' O=>⟨λp u s' m' cm' hx hB hs F=>by
       refine byC0 λzn=>?_;refine q2_2 hB λT ws z1 z2=>?_;clear hB;subst z1;refine q0_2 z2 λhT hw=>?_;clear z2;refine zn ?_;clear zn
       refine v2 hw λy1 y2 ey a a'=>?_;subst ey
       refine byC0 λzn=>?_
       refine q1_1 a λta z1=>?_;clear a;subst z1
       refine q1_1 a' λtb z1=>?_;clear a';subst z1
       refine zn ?_;clear zn
       exact (asg_tup2 ok'.hd F rfl rfl rfl (hT.at λo e=>(ls2.trans hs).get _ _ e)).to λ_ s'' q=>e0_2 q.1 (e2_3 _ _ q.2 ⟨ta,by simp +decide [up]⟩ ⟨tb,by simp [up]⟩),
      λp hh m' cm' hx hr F hK=>by
       refine byC0 λzn=>?_;refine q0_2 hK λz1 z2=>?_;clear hK;refine q1_1 z1 λta ha=>?_;clear z1;refine q1_1 z2 λtb hb'=>?_;clear z2;refine zn ?_;clear zn
       have hc:=(J2.fs.cell (sO "node") (L+1) mN').keeps hr.get
       rw [show up cm1 (sO "node") (Value.int (v:Int) tv) (sO "node")=some (Value.int (v:Int) tv) from by simp [up]] at hc
       have e:(((p.1:Nat):Int) == ((v:Nat):Int))=(p.1 == v):=by rw [Bool.eq_iff_iff];simp only [beq_iff_eq];omega
       rw [← e]
       exact Ts.one (Td.eq (Yd.nam (F.var (x:=sO "first") rfl rfl ha) λ_ _=>⟨ta,rfl⟩) (Yd.nam (F.cel (x:=sO "node") hc rfl rfl rfl) λ_ _=>⟨tv,rfl⟩)),
      λp hx hpp=>emit_leaf rfl J2.le O λhh m' cm' hr F hK=>by
       refine byC0 λzn=>?_;refine q0_2 hK λz1 z2=>?_;clear hK;refine q1_1 z1 λta ha=>?_;clear z1;refine q1_1 z2 λtb hb'=>?_;clear z2;refine zn ?_;clear zn
       exact Yd.nam (F.var (x:=sO "last") rfl rfl hb') λ_ _=>⟨tb,rfl⟩⟩) (by rfl)) λt3 q=>?_
   refine byC0 λzn=>?_
   refine s2_3 q λE2s vS bS lS I5 hS=>?_;clear q
   refine q1_2 (IsL.nat hS) λSa z1 hSn=>?_;subst z1
   refine q1_2 (id hSn) λus hus hup=>?_
   refine zn ?_;clear zn
   have hv3:t3.heap.IsList D vals.toArray:=hv2.at λo e=>E2s.get _ o hDf e
   have hvl:vals.length=c:=by have:=hp.length;simpa using this.symm
   have hcS:=I5.fs.cell (sO "straight") (L+3) mS
   rw [show up (up cm1 (sO "node") (Value.int (v:Int) tv)) (sO "straight") (Value.ref Sa) (sO "straight")=some (Value.ref Sa) from by simp [up]] at hcS
   have hcB:=I5.fs.cell (sO "behind") (L+2) mB
   rw [show up (up cm1 (sO "node") (Value.int (v:Int) tv)) (sO "straight") (Value.ref Sa) (sO "behind")=some (Value.ref D) from by simp +decide [up,h3]] at hcB
   have hcN:=I5.fs.cell (sO "node") (L+1) mN'
   rw [show up (up cm1 (sO "node") (Value.int (v:Int) tv)) (sO "straight") (Value.ref Sa) (sO "node")=some (Value.int (v:Int) tv) from by simp +decide [up]] at hcN
   have hsl:∀ m∈straightOf ps v,m<c:=λm hm=>by
    refine q1_2 (List.mem_map.mp hm) λp hp' z1=>?_;subst z1
    exact hpc p (List.mem_filter.mp hp').1
   have hst1:(straightOf ps v).length<=1000:=by
    have:=List.length_filter_le (λp:Nat×Nat=>p.1 == v) ps
    simp only [straightOf,List.length_map]
    omega
   have ls3:Le s.heap t3.heap:=(lb.trans lb').trans (lS.trans I5.le)
   refine seq (Φ:=λf t4=>f=.next/\∃ t3' y,Kp t3 t3'/\(∀ g,Le bS g->Nw t3 t3' g->IsL (λi v _=>IsN i v) (bStep ps c Bv v) y g)/\Ev [D] t3' t4/\t4.heap.IsList D (vals.set v y).toArray) (wpAny_Assign_Subscript (Wp.to (Φ:=λy t3'=>Kp t3 t3'/\∀ g,Le bS g->Nw t3 t3' g->IsL (λi v _=>IsN i v) (bStep ps c Bv v) y g) ?_ λy t3' q=>?_)) λfl t4 q=>?_
   ·have e2:bStep ps c Bv v=((List.range c).filter λk=>decide (k∈straightOf ps v) || !((straightOf ps v).filter λm=>decide (k∈Bv m)).isEmpty).flatMap λk=>[k]:=by rw [flat2,List.map_id'];rfl
    rw [e2]
    refine Yd.comp (cl:=[(sO "straight",L+3),(sO "behind",L+2)]) (b:=bS) (r:=t3.heap) (B:=IsN) (K₁:=λk m cm=>∃ t,cm (sO "k")=some (.int (k:Int) t)) rfl rfl (by decide) rfl (by intro g' h;cases h) (by intro C n c h;have h:(n,c)∈[(sO "k",C+1)]:=h;simp at h;refine byC0 λzn=>?_;refine q0_2 h λz1 z2=>?_;clear h;subst z1;subst z2;refine zn ?_;clear zn;rfl) I5.le
     (Src.range ok'.hd (VR ls3 rfl rfl rfl rfl) (Yd.namI (I5.fs.var (x:=sO "count") rfl rfl h2)) (by omega)) (by
      rw [flat2,List.length_map,sizeLine_eq]
      refine Nat.le_trans (List.length_filter_le _ _) ?_
      simp;omega) (λCc D' O=>⟨λk u s' m' cm' hx hB hs F=>?_,λk hh m' cm' hx hr F hK=>?_,λk hx hpp=>emit_leaf rfl I5.le O λhh m' cm' hr F hK=>?_⟩) t3 I5.le (Le.refl _)
    ·exact (asg_cell F rfl rfl (c:=Cc+1) (show (_,_)∈[(sO "k",Cc+1)] from by simp) (λn c' hn _=>by have hn:(n,c')∈[(sO "k",Cc+1)]:=hn;simp at hn;exact hn.2)).to λ_ s'' q=>e0_2 q.1 (e2_2 _ _ q.2 (by refine q1_1 hB λt z1=>?_;clear hB;subst z1;exact⟨t,by simp [up]⟩))
    ·refine q1_1 hK λtk hk=>?_;clear hK
     have Vk:=F.varC (x:=sO "k") (c:=Cc+1) rfl rfl (show (_,_)∈[(sO "k",Cc+1)] from by simp) hk
     have Vs:=F.cel (x:=sO "straight") (hcS.keeps hr.get) rfl rfl rfl
     refine Ts.one (Td.or2 (Td.inList (a:=0) (Yd.namI Vk) (Yd.nam Vs λg hg=>e1_2 Sa rfl (hSn.at λo e=>hg.get _ o e))) (Td.neNil (by have:=ok'.un;omega) ?_))
     have e3:(straightOf ps v).filter (λm=>decide (k∈Bv m))=((straightOf ps v).filter λm=>decide (k∈Bv m)).flatMap λk=>[k]:=by rw [flat2,List.map_id']
     rw [e3]
     refine (Yd.comp (cl:=[(sO "k",Cc+1),(sO "behind",L+2)]) (b:=bS) (r:=hh) (R:=λi v _=>IsN i v) (B:=IsN) (K₁:=λm mm _=>∃ t,mm (sO "m")=some (.int (m:Int) t)) rfl rfl (by decide) rfl (by intro g' h;cases h) (by intro C n c h;cases h) (I5.le.trans hr)
      (Src.list ok'.hd (Yd.namV Vs) (hus.isList.at λo e=>(I5.le.trans hr).get _ o e) (show Paired IsN _ us.toArray.toList from hup)) (by
       rw [flat2,List.length_map,sizeLine_eq]
       have:=List.length_filter_le (λm=>decide (k∈Bv m)) (straightOf ps v)
       omega) λCe D2 O2=>⟨λm u s' m' cm' hx hB hs F=>?_,λm h2' m2 cm2 hx hr2 F2 hK2=>?_,λm hx hpp=>emit_leaf rfl (I5.le.trans hr) O2 λh2' m2 cm2 hr2 F2 hK2=>?_⟩).mono λ_ _ _ q=>IsL.nat q
     ·exact (asg_loc F rfl rfl).to λ_ s'' q=>e0_2 q.1 (e2_2 _ _ q.2 (by refine q1_1 hB λt z1=>?_;clear hB;subst z1;exact⟨t,by simp [up]⟩))
     ·refine q1_1 hK2 λtm hm=>?_;clear hK2
      have hmc:m<c:=hsl m hx
      refine byC0 λzn=>?_;refine q1_2 (Paired.getAt hp m vals[m] (List.getElem?_eq_getElem (by omega))) λbm hbm z1=>?_;refine q1_2 z1 λam ham hnm=>?_;clear z1;refine zn ?_;clear zn
      have ebm:bm=Bv m:=by rw [List.getElem?_map,List.getElem?_range hmc] at hbm;simpa using hbm.symm
      subst ebm
      have hkc:=(F.cell (sO "k") (Cc+1) (show (_,_)∈[(sO "k",Cc+1)] from by simp))
      rw [hk] at hkc
      exact Ts.one (Td.inList (a:=0) (Yd.nam (F2.cel (x:=sO "k") (hkc.keeps hr2.get) rfl rfl rfl) λ_ _=>⟨tk,rfl⟩)
       ((Yd.lsub (hv3.at λo e=>(hr.trans hr2).get _ o e) (Yd.namV (F2.cel (x:=sO "behind") (hcB.keeps (hr.trans hr2).get) rfl rfl rfl)) (Yd.namI (F2.var (x:=sO "m") rfl rfl hm)) (by simpa using List.getElem?_eq_getElem (by omega)) (by omega)).mono λz g hg q=>by
        have q:z=vals[m]:=q
        exact e1_2 am (q.trans ham) (hnm.at λo e=>(lS.trans hg).get _ o e)))
     ·refine q1_1 hK2 λtm hm=>?_;clear hK2
      exact Yd.nam (F2.var (x:=sO "m") rfl rfl hm) λ_ _=>⟨tm,rfl⟩
    ·refine q1_1 hK λtk hk=>?_;clear hK
     exact Yd.nam (F.varC (x:=sO "k") (c:=Cc+1) rfl rfl (show (_,_)∈[(sO "k",Cc+1)] from by simp) hk) λ_ _=>⟨tk,rfl⟩
   ·have l3:=q.1.le
    refine (Yd.namV (w:=w) (A:=A.deeper (lbEnv pm cd L)) (b:=bS) (h:=t3.heap) (I5.fs.varC (x:=sO "behind") (v:=.ref D) rfl rfl mB (by simp +decide [up,h3])) (by decide) t3' (I5.le.trans l3) l3).to λz t5 q5=>(Yd.namI (w:=w) (A:=A.deeper (lbEnv pm cd L)) (b:=bS) (h:=t3.heap) (I5.fs.varC (x:=sO "node") (v:=.int (v:Int) tv) rfl rfl mN' (by simp +decide [up])) (by decide) t5 ((I5.le.trans l3).trans q5.1.le) (l3.trans q5.1.le)).to λz' t6 q6=>?_
    have k6:=(q.1.trans q5.1).trans q6.1
    have ez:z=.ref D:=q5.2 _ ((I5.le.trans l3).trans q5.1.le) (Nw.self _ _)
    subst ez
    refine byC0 λzn=>?_;refine q1_1 (q6.2 _ (I5.le.trans k6.le) (Nw.self _ _)) λt' z1=>?_;subst z1;refine zn ?_;clear zn
    refine wpAny_setItem_list (hv3.at λo e=>k6.le.get _ o e) (by omega) (by omega) (by simp;omega) λh' hl hsb=>e0_2 rfl (e2_4 t3' y q.1 q.2 ((q5.1.trans q6.1).ev.trans ⟨e2_1 _ _ rfl,λc o hc e=>hsb.extBut c o (λz=>hc (by simp [z])) e⟩) (by simpa using hl))
   ·refine byC0 λzn=>?_
    refine q0_2 q λz1 z2=>?_;clear q;subst z1;refine q2_4 z2 λt3' y k3 hy E34 hD4=>?_;clear z2
    have Fs4:Fs t4.heap (lbEnv pm cd L) (lbEnv pm cd L).cells m₂ _:=(I5.kp k3).fs.get λc hc o e=>E34.get c o (λz=>hDf (by rw [zS z] at hc;exact hc)) e
    refine q1_3 (I5.step (k3.ev.trans E34) (λa ha=>.inr (by rw [zS ha];simp)) Fs4 (λa _ ha=>by rw [zS ha];refine q1_2 hD4 λo q _=>?_;clear hD4;exact⟨o,q⟩)) λb4 l4 I7 g=>?_
    have hy4:=hy b4 l4 ((I5.nw g).leftE E34 (λa ha=>by rw [zS ha];refine q1_2 hv3 λo q _=>?_;clear hv3;exact⟨o,q⟩))
    refine q1_2 (IsL.nat hy4) λya z1 hya=>?_;subst z1
    refine zn ?_;clear zn
    refine nil_ (e0_2 (.inl rfl) (e3_8 b4 m₂ _ (lS.trans l4) ((E2s.mono λa ha=>List.mem_append_left _ ha).trans ((k3.ev.trans E34).mono λa ha=>by rw [zS ha];simp)) I7 ((lb'.trans lS).trans l4) h1 h2 (by simp +decide [up,h3]) (e1_2 (vals.set v (.ref ya)) hD4 ?_)))
    have et:(List.range (c-1)).reverse.take (i+1)=(List.range (c-1)).reverse.take i++[v]:=by rw [List.take_add_one,hi];rfl
    rw [et,List.foldl_append,hB]
    exact Paired.setMap (v:=v) (Paired.imp (λl u q=>by refine q1_2 q λa z1 hl=>?_;clear q;subst z1;exact e1_2 a rfl (hl.at λo e=>(lS.trans l4).get _ o e)) hp) (e1_2 ya rfl hya)
  ·refine byC0 λzn=>?_;refine q0_2 q λz1 z2=>?_;clear q;subst z1;refine q5_9 z2 λIk b' m' cm' s5 l' I6 hIf hIX hIn I6' z3 E55 E45=>?_;clear z2;refine q0_5 z3 λlb' h1 h2 h3 z4=>?_;clear z3;refine q1_2 z4 λvals hv hp=>?_;clear z4;refine zn ?_;clear zn
   have hcv:=I6.fs.varC (x:=sO "behind") rfl rfl mB h3
   refine ret_ I6.le (Yd.namV hcv) λu s7 k q=>e0_2 ?_ (e1_3 D (q _ (I6.le.trans k.le) (Nw.self _ _)) hD0 (e1_2 vals ?_ ?_))
   ·exact (I6.kp k).kp0 (lb.trans lb')
   ·exact (hv.at λo e=>E55.get _ o (λhm=>hIX (zS hm▸nX)) e).at λo e=>k.le.get _ _ e
   ·have e:(List.range (c-1)).reverse.take (List.range (c-1)).reverse.length=(List.range (c-1)).reverse:=List.take_length
    rw [e] at hp
    exact Paired.imp (λl v q=>by refine q1_2 q λa z1 hl=>?_;clear q;subst z1;exact e1_2 a rfl (hl.at λo e=>(I6.le.trans k.le).get _ _ e)) hp
theorem zall:∀ p,zR p:=all1 zaux
end
end Z8
theorem beh_call {w A s mg mb mN K n c t P vs ps}:Z8.zQ w A s mg mb mN K n c t P vs ps:=Z8.zall (((w,(A,s)),(mg,(mb,mN))),((K,(n,c)),((t,P),(vs,ps))))
noncomputable def Kf (K:Frag):Frag:=K.filter λp=>!(p.1 == 30 || p.1 == 162)
theorem lookup_Kf:∀ {K:Frag} {a:Addr} {o:Obj},(Kf K).lookup a=some o->K.lookup a=some o/\a≠30/\a≠162
 | [],a,o,e=>by simp [Kf] at e
 | (b,x)::r,a,o,e=>by
  unfold Kf at e
  rw [List.filter_cons] at e
  by_cases hb:b=30\/b=162
  ·have h1:(!(b == 30 || b == 162))=false:=by ((rcases hb with rfl | rfl))<;>rfl
   simp only [h1,Bool.false_eq_true,if_false] at e
   refine q0_3 (lookup_Kf (K:=r) e) λe1 n1 n2=>?_
   refine⟨?_,n1,n2⟩
   have hab:(a == b)=false:=by
    rw [beq_eq_false_iff_ne]
    (intro zr;subst zr)
    exact hb.elim n1 n2
   rw [List.lookup_cons,hab]
   exact e1
  ·have h1:(!(b == 30 || b == 162))=true:=by
    have h2:b≠30:=λh=>hb (.inl h)
    have h3:b≠162:=λh=>hb (.inr h)
    simp [h2,h3]
   simp only [h1,if_true] at e
   rw [List.lookup_cons] at e ⊢
   by_cases hab:a=b
   ·subst hab
    simp only [BEq.rfl] at e ⊢
    exact⟨e,λh=>hb (.inl h),λh=>hb (.inr h)⟩
   ·have h2:(a == b)=false:=by simpa using hab
    rw [h2] at e ⊢
    exact lookup_Kf (K:=r) e
noncomputable abbrev tabs2:List Addr:=[30,162]
theorem Kf_in {K:Frag} {h:Heap} (X:K.In h):(Kf K).In (hideAll h tabs2):=λa o e=>by
 refine q0_3 (lookup_Kf e) λe1 n1 n2=>?_
 exact hideAll_get _ (X a o e1) (by simp [n1,n2])
noncomputable def dIn (K:Frag) (f:Addr):Option Addr:=match K.lookup f with | some o=>o.dict | _=>none
noncomputable def slIn (K:Frag) (f:Addr):Array (Option Value):=match K.lookup f with | some o=>o.slots | _=>#[]
noncomputable def pmIn (K:Frag) (f:Addr):Value:=match K.lookup f with | some ⟨_,_,.func fd,_⟩=>fd.pyModule | _=>.none
noncomputable def cdIn (K:Frag) (f:Addr):Value:=match K.lookup f with | some ⟨_,_,.func fd,_⟩=>fd.code | _=>.none
theorem fn_of {K:Frag} {h:Heap} (X:K.In h) {f:Addr} {st:Stmt} {q:Str} {dflt:Value} (e:K.lookup f=some ⟨.type "function",dIn K f,.func (fdOf st q dflt (pmIn K f) (cdIn K f)),slIn K f⟩) (c:codeIn K (cdIn K f) q=true) :
  ∃ pm cd,FnAt h f (fdOf st q dflt pm cd):=⟨_,_,e1_3 _ (X _ _ e) rfl rfl,codeRec_of X c⟩
noncomputable def dictIn (K:Frag) (a:Addr):Bool:=match K.lookup a with
 | some o=>(match o.data with | .dict es _=>es.toList.all λe=>(match e.key with | .str _ _=>true | _=>false) | _=>false)
 | none=>false
theorem ns_ofIn {K:Frag} {h:Heap} (X:K.In h) {a:Addr} (e:dictIn K a=true):∃ m,h.Ns a m:=by
 unfold dictIn at e
 cases ho:K.lookup a with
 | none=>rw [ho] at e;cases e
 | some o=>
  rw [ho] at e
  rcases o with ⟨c,d,dt,sl⟩
  cases dt with
  | dict es n=>
   refine e4_4 (λx=>nsFind es x) _ es n (X _ _ ho) rfl (λen hen=>?_) (λ_=>rfl)
   have:=List.all_eq_true.mp e en (Array.mem_toList_iff.mpr hen)
   revert this
   cases en.key<;>intro this<;>first | exact⟨_,_,rfl⟩ | cases this
  | _=>cases e
theorem m_of {K:Frag} {h:Heap} {a:Addr} {m:SoV} {n:Str} {r:Option Value} (X:K.In h) (G:h.Ns a m) (e:nsIn K a n=some r):m n=r:=by
 refine q3_4 G λo es ep ho hd _ hf=>?_;clear G
 unfold nsIn at e
 split at e
 ·rename_i c d es' n' sl q
  have:=X _ _ q
  rw [ho] at this
  cases this
  cases hd
  split at e
  ·rename_i en he
   cases e
   rw [← hf]
   unfold nsFind findBy
   rw [← Array.find?_toList,he]
   rfl
  ·rename_i he
   split at e
   ·cases e
   ·cases e
    rw [← hf]
    unfold nsFind findBy
    rw [← Array.find?_toList,he]
    rfl
 ·cases e
theorem int_of {K:Frag} {h:Heap} {m:SoV} {n:Str} {i:Int} (X:K.In h) (G:h.Ns mainGlobals m) (e:(match nsIn K mainGlobals n with | some (some (.int j _))=>decide (j=i) | _=>false)=true):∃ t,m n=some (.int i t):=by
 split at e
 ·rename_i j t q
  have:=m_of X G q
  exact⟨t,by rw [this,of_decide_eq_true e]⟩
 ·cases e
noncomputable def clsOk (K:Frag) (C N:Addr):Bool:=match K.lookup C with
 | some o=>(match o.data with
  | .cls cd=>(match o.cls with
   | .type n=>cd.mro == [.ref C,.type "object"] && decide (cd.ns=N) && cd.hasDict && !cd.abstract && !cd.hasDel && (o.slots.toList.length == 6) && (o.slots.toList[4]? == some (some (.builtin "object.__new__"))) && (n == "type")
   | _=>false)
  | _=>false)
 | none=>false
theorem cls_of {K:Frag} {h:Heap} (X:K.In h) {C N:Addr} (e:clsOk K C N=true) {m:SoV} (hn:h.Ns N m):ClsAt h C N m:=by
 unfold clsOk at e
 cases ho:K.lookup C with
 | none=>rw [ho] at e;cases e
 | some o=>
  rw [ho] at e
  rcases o with ⟨ct,d,dt,sl⟩
  cases dt with
  | cls cd=>?_
  | _=>cases e
  cases ct with
  | type n=>?_
  | _=>cases e
  simp only [Bool.and_eq_true,beq_iff_eq,decide_eq_true_eq,Bool.not_eq_true'] at e
  refine byC0 λzn=>?_
  refine q0_2 e λz0 e8=>?_;clear e;refine q0_2 z0 λz1 e7=>?_;clear z0;refine q0_2 z1 λz2 e6=>?_;clear z1;refine q0_2 z2 λz3 e5=>?_;clear z2;refine q0_2 z3 λz4 e4=>?_;clear z3;refine q0_2 z4 λz5 e3=>?_;clear z4;refine q0_2 z5 λe1 e2=>?_;clear z5
  subst e8
  rcases cd with ⟨nm,bs,mro,ns,q,hd,sn,sub,ab,col,dl⟩
  rcases sl with ⟨sl⟩
  refine zn ?_;clear zn
  dsimp only at e1 e2 e3 e4 e5 e6 e7
  subst e1 e2 e3 e4 e5
  rcases sl with _ | ⟨k0,_ | ⟨k1,_ | ⟨k2,_ | ⟨k3,_ | ⟨k4,_ | ⟨k5,_ | ⟨k6,sl⟩⟩⟩⟩⟩⟩⟩<;>first | (simp at e6;done) | skip
  ·simp at e7
   subst e7
   exact⟨e12_1 nm q bs sn sub col d k0 k1 k2 k3 k5 (X _ _ ho),hn⟩
noncomputable def look (es:Array DictEntry) (name:Str):Option Value:=(es.toList.find? (·.key.isStr name)).map (·.val)
theorem nsIn_look {K:Frag} {N:Addr} {c:Value} {d:Option Addr} {es:Array DictEntry} {n:Nat} {sl:Array (Option Value)} {name:Str} (h:K.lookup N=some ⟨c,d,.dict es n,sl⟩) (hr:es.toList.any (·.refKey)=false):nsIn K N name=some (look es name):=by
 unfold nsIn look
 rw [h]
 dsimp only
 cases es.toList.find? (·.key.isStr name) with
 | some e=>rfl
 | none=>simp only [hr,Bool.false_eq_true,if_false,Option.map_none]
noncomputable abbrev kCd (C N:Addr) (nm q:Str) (bs sub:List Value) (col:Option Bool):ClassData:=
 { name:=nm,bases:=bs,mro:=[.ref C,.type "object"],ns:=N,qualname:=q,hasDict:=false,slotNames:=[sO "obj"],subclasses:=sub,abstract:=false,collection:=col,hasDel:=false }
structure KAt (h:Heap) (C N P fI fL:Addr):Prop where
 cls:∃ nm q bs sub col k0 k1 k2 k3 k5,h.get? C=some ⟨.type "type",none,.cls (kCd C N nm q bs sub col),#[k0,k1,k2,k3,some (.builtin "object.__new__"),k5]⟩
 ns:∃ es n,h.get? N=some ⟨.type "dict",none,.dict es n,#[]⟩/\es.toList.any (·.refKey)=false/\look es (sO "obj")=some (.ref P)/\look es "__init__"=some (.ref fI)/\look es "__lt__"=some (.ref fL)/\
  look es "__getattribute__"=none/\look es "__getattr__"=none/\look es "__setattr__"=none
 des:∃ n tn d sl,h.get? P=some ⟨.type "member_descriptor",d,.fields #[.str n tn,.ref C,.builtin "proto.slot",.builtin "proto.slot#set",.int 0 0],sl⟩
 fi:∃ d dt sl,h.get? fI=some ⟨.type "function",d,dt,sl⟩
 fl:∃ d dt sl,h.get? fL=some ⟨.type "function",d,dt,sl⟩
 ne:fI≠fL
theorem KAt.le {h h':Heap} {C N P fI fL:Addr} (k:KAt h C N P fI fL) (l:Le h h'):KAt h' C N P fI fL:=by
 rcases k with ⟨⟨nm,q,bs,sub,col,k0,k1,k2,k3,k5,e1⟩,⟨es,n,e2,r2⟩,⟨n',tn,d,sl,e3⟩,⟨d4,dt4,sl4,e4⟩,⟨d5,dt5,sl5,e5⟩,ne⟩
 exact⟨e10_1 nm q bs sub col k0 k1 k2 k3 k5 (l.get _ _ e1),e2_2 es n (l.get _ _ e2) r2,e4_1 n' tn d sl (l.get _ _ e3),e3_1 d4 dt4 sl4 (l.get _ _ e4),e3_1 d5 dt5 sl5 (l.get _ _ e5),ne⟩
structure KFacts (K:Frag) (C P fI fL:Addr):Prop where
 sl:SlotK K C (sO "obj") P 0
 made:makesIn K C=true
 init:findIn K (.ref C) "__init__"=some (some (.ref fI))
 ifn:typeIn K (.ref fI)=some (.type "function")
 lt:findIn K (.ref C) "__lt__"=some (some (.ref fL))
 lfn:isFn K (.ref fL)=true
theorem ne_cls' {h:Heap} {a b:Addr} {x y:Obj} (e:h.get? a=some x) (e':h.get? b=some y) (n:x.cls≠y.cls):a≠b:=by
 (intro zr;subst zr)
 rw [e] at e';cases e';exact n rfl
theorem KAt.frag {h:Heap} {C N P fI fL:Addr} (k:KAt h C N P fI fL):∃ K:Frag,K.In h/\KFacts K C P fI fL:=by
 rcases k with ⟨⟨nm,q,bs,sub,col,k0,k1,k2,k3,k5,e1⟩,⟨es,n,e2,r2,l1,l2,l3,l4,l5,l6⟩,⟨n',tn,d,sl,e3⟩,⟨d4,dt4,sl4,e4⟩,⟨d5,dt5,sl5,e5⟩,ne⟩
 have nCN:C≠N:=ne_cls' e1 e2 (by simp)
 have nCP:C≠P:=ne_cls' e1 e3 (by simp)
 have nCI:C≠fI:=ne_cls' e1 e4 (by simp)
 have nCL:C≠fL:=ne_cls' e1 e5 (by simp)
 have nNP:N≠P:=ne_cls' e2 e3 (by simp)
 have nNI:N≠fI:=ne_cls' e2 e4 (by simp)
 have nNL:N≠fL:=ne_cls' e2 e5 (by simp)
 have nPI:P≠fI:=ne_cls' e3 e4 (by simp)
 have nPL:P≠fL:=ne_cls' e3 e5 (by simp)
 generalize hoC:(⟨.type "type",none,.cls (kCd C N nm q bs sub col),#[k0,k1,k2,k3,some (.builtin "object.__new__"),k5]⟩:Obj)=oC at e1
 generalize hoN:(⟨.type "dict",none,.dict es n,#[]⟩:Obj)=oN at e2
 generalize hoP:(⟨.type "member_descriptor",d,.fields #[.str n' tn,.ref C,.builtin "proto.slot",.builtin "proto.slot#set",.int 0 0],sl⟩:Obj)=oP at e3
 generalize hoI:(⟨.type "function",d4,dt4,sl4⟩:Obj)=oI at e4
 generalize hoL:(⟨.type "function",d5,dt5,sl5⟩:Obj)=oL at e5
 generalize hK:([(C,oC),(N,oN),(P,oP),(fI,oI),(fL,oL)]:Frag)=K
 have X:Frag.In K h:=by
  intro a o e
  rw [← hK] at e
  simp only [List.lookup_cons] at e
  have go:∀ {b:Addr} {x:Obj} {r:Option Obj},h.get? b=some x->(r=some o->h.get? a=some o)->(match a == b with | true=>some x | false=>r)=some o->h.get? a=some o:=by
   intro b x r hb hr e
   cases q:a == b with
   | true=>
    rw [q] at e
    cases e
    rw [beq_iff_eq.mp q];exact hb
   | false=>rw [q] at e;exact hr e
  exact go e1 (go e2 (go e3 (go e4 (go e5 (by simp))))) e
 have kC:K.lookup C=some oC:=by rw [← hK];simp
 have bf:∀ {a b:Addr},a≠b->(a == b)=false:=λh=>by simpa using h
 have kN:K.lookup N=some oN:=by rw [← hK];simp only [List.lookup_cons,bf nCN.symm];simp
 have kP:K.lookup P=some oP:=by rw [← hK];simp only [List.lookup_cons,bf nCP.symm,bf nNP.symm];simp
 have kI:K.lookup fI=some oI:=by rw [← hK];simp only [List.lookup_cons,bf nCI.symm,bf nNI.symm,bf nPI.symm];simp
 have kL:K.lookup fL=some oL:=by rw [← hK];simp only [List.lookup_cons,bf nCL.symm,bf nNL.symm,bf nPL.symm,bf ne.symm];simp
 have own:∀ name,nsIn K N name=some (look es name):=λname=>nsIn_look (kN.trans (congrArg some hoN.symm)) r2
 have fnd:∀ name,findIn K (.ref C) name=match look es name with | some v=>some (some v) | none=>some (fastBuiltinOwn "object" name):=λname=>by
  have e0:findIn K (.ref C) name=alongIn K name [.ref C,.type "object"]:=by
   show (match K.lookup C with | some ⟨_,_,.cls cd,_⟩=>alongIn K name cd.mro | _=>none)=_
   rw [kC,← hoC]
  rw [e0]
  have e3:ownIn K name (.ref C)=some (look es name):=by
   show (match K.lookup C with | some ⟨_,_,.cls cd,_⟩=>nsIn K cd.ns name | _=>none)=_
   rw [kC,← hoC]
   exact own name
  unfold alongIn
  rw [e3]
  cases look es name with
  | some v=>rfl
  | none=>
   dsimp only
   unfold alongIn
   show (match ownIn K name (.type "object") with | some (some v)=>some (some v) | some none=>alongIn K name [] | none=>none)=_
   show (match some (fastBuiltinOwn "object" name) with | some (some v)=>some (some v) | some none=>alongIn K name [] | none=>none)=_
   cases fastBuiltinOwn "object" name<;>rfl
 have clsI:clsIn K C=some (kCd C N nm q bs sub col):=by unfold clsIn;rw [kC,← hoC]
 have tyP:typeIn K (.ref P)=some (.type "member_descriptor"):=by
  show (K.lookup P).map (·.cls)=_
  rw [kP,← hoP];rfl
 have spP:∀ name,specialIn K (.ref P) name=fastLookup "member_descriptor" name:=λname=>by unfold specialIn;rw [tyP];rfl
 have tkP:takesIn K (.ref P)=some true:=by
  unfold takesIn
  rw [spP]
  kernel_rfl
 have tyC:typeIn K (.ref C)=some (.type "type"):=by
  show (K.lookup C).map (·.cls)=_
  rw [kC,← hoC];rfl
 refine⟨K,X,⟨?_,?_,?_,?_,tkP,?_,?_,?_,?_,tyP⟩,?_,?_,?_,?_,?_⟩
 ·unfold plainGet
  rw [fnd,fnd,l4,l5]
  kernel_rfl
 ·unfold isClsIn;rw [clsI];rfl
 ·rw [fnd,l1]
 ·rw [spP];kernel_rfl
 ·unfold slotIn
  have:recIn K P "member_descriptor"=some [.str n' tn,.ref C,.builtin "proto.slot",.builtin "proto.slot#set",.int 0 0]:=by
   unfold recIn;rw [kP,← hoP];rfl
  rw [this,clsI]
  simp
 ·rw [fnd,l6];kernel_rfl
 ·unfold plainOver;rw [clsI];kernel_rfl
 ·unfold takerIn;rw [fnd,l1]
  show (takesIn K (.ref P)).map _=_
  rw [tkP];rfl
 ·unfold makesIn
  rw [kC,← hoC]
  have h1:specialIn K (.ref C) "__call__"=some (some (.builtin "type.__call__")):=by unfold specialIn;rw [tyC];show fastLookup "type" "__call__"=_;kernel_rfl
  have h2:instIn K (.ref C) (.type "type")=some true:=by unfold instIn;rw [tyC];kernel_rfl
  simp only [h1,h2]
  simp
 ·rw [fnd,l2]
 ·show (K.lookup fI).map (·.cls)=_
  rw [kI,← hoI];rfl
 ·rw [fnd,l3]
 ·unfold isFn
  have:typeIn K (.ref fL)=some (.type "function"):=by
   show (K.lookup fL).map (·.cls)=_
   rw [kL,← hoL];rfl
  rw [this];rfl
section
open PySem PySem.Calls PyProof.Rows PySem.W PySem.W.X
noncomputable def kmeth (j:Nat):Stmt:=nth (fBody (nth (fBody (top 4)) 0)) j
noncomputable abbrev fdC (st:Stmt) (qual:Str) (cl:List (Str×Addr)) (pm cd ct:Value):FuncData:=
 { name:=fName st,qualname:=qual,params:=fArgs st,body:=.stmts (fBody st),scope:=fScope st,globals:=mainGlobals,closure:=cl,defaults:=.none,kwdefaults:=.none,doc:=.none,pyModule:=pm,annotations:=none,code:=cd,closureTuple:=ct,builtins:=builtinsNs }
noncomputable def lamE:Expr:=match nth (fBody (top 13)) 0 with
 | .Return (some (.Call _ (e::_) _ _)) _=>e
 | _=>.Constant .none 0 default
noncomputable def lamAll:Arguments×Expr×Scope:=match lamE with | .Lambda a b s _=>(a,b,s) | e=>(⟨[],[],none,[],[],none,[]⟩,e,default)
noncomputable def lamArgs:Arguments:=lamAll.1
noncomputable def lamBody:Expr:=lamAll.2.1
noncomputable def lamScope:Scope:=lamAll.2.2
noncomputable abbrev lamFd (cl:List (Str×Addr)) (pm cd ct:Value):FuncData:=kla_fn (sO "<lambda>") (sO "_law_served.<locals>.<lambda>") lamArgs lamBody lamScope cl pm cd ct
structure SvAt (h:Heap) (C r b:Addr) (o:Int) (P fI fL fM cM cO cB cR:Addr):Prop where
 k:∃ N,KAt h C N P fI fL
 fi:∃ pm cd,FnAt h fI (fdOf (kmeth 2) (sO "cmp_to_key.<locals>.K.__init__") .none pm cd)
 fl:∃ pm cd ct,FnAt h fL (fdC (kmeth 3) (sO "cmp_to_key.<locals>.K.__lt__") [(sO "mycmp",cM)] pm cd ct)
 fm:∃ pm cd ct,FnAt h fM (lamFd [(sO "rounds",cR),(sO "odd",cO),(sO "behind",cB)] pm cd ct)
 cm:h.IsCell cM (some (.ref fM))
 co:∃ t,h.IsCell cO (some (.int o t))
 cb:h.IsCell cB (some (.ref b))
 cr:h.IsCell cR (some (.ref r))
theorem SvAt.le {h h':Heap} {C r b:Addr} {o:Int} {P fI fL fM cM cO cB cR:Addr} (x:SvAt h C r b o P fI fL fM cM cO cB cR) (l:Le h h'):SvAt h' C r b o P fI fL fM cM cO cB cR:=
 ⟨let ⟨N,k⟩:=x.k;⟨N,k.le l⟩,let ⟨p,c,k⟩:=x.fi;(e2_1 p c (k.le l)),let ⟨p,c,d,k⟩:=x.fl;(e3_1 p c d (k.le l)),let ⟨p,c,d,k⟩:=x.fm;(e3_1 p c d (k.le l)),x.cm.keeps l.get,let ⟨t,k⟩:=x.co;⟨t,k.keeps l.get⟩,x.cb.keeps l.get,x.cr.keeps l.get⟩
noncomputable def Grown (h h':Heap) (a:Addr):Prop:=∃ ps more,h.get? a=some (tableObj ps)/\h'.get? a=some (tableObj (ps++more))
noncomputable def KOut (s:Shared) (v:Value) (s':Shared) (r b:Addr) (o:Int):Prop:=
 Ev tabs2 s s'/\Grown s.heap s'.heap 30/\Grown s.heap s'.heap 162/\∃ C P fI fL fM cM cO cB cR,v=.ref C/\s.heap.get? C=none/\∀ g,Nw s s' g->SvAt g C r b o P fI fL fM cM cO cB cR
noncomputable def tokOf (v:Value):Tok:=match v with | .str _ t=>t | .int _ t=>t | _=>0
theorem wp_around {M:Model} {A B:Around} {α:Type} {t:Sem α} {Q:α->Shared->Prop} {E:Value->Shared->Prop} {s:Shared} (h1:A.handled=B.handled) (h2:A.depth<=B.depth) (h3:B.frames=none) (h4:B.guards=none) (h5:A.units<=B.units) (h:wpAny M B t Q E s):wpAny M A t Q E s:=by
 intro Γ p hΓ
 refine h Γ p ⟨hΓ.1.trans h1,?_,λl hl=>?_,λg hg=>?_,?_⟩
 ·have:=hΓ.2.1;omega
 ·rw [h3] at hl;cases hl
 ·rw [h4] at hg;cases hg
 ·have:=hΓ.2.2.2.2;omega
end
theorem InF.plain {s:Shared} {h₀:Heap} {tk:Nat} {env:Env} {m:SoV} (hL:env.locals=s.heap.objs.size) (hns:h₀.Ns s.heap.objs.size m) (hk:∀ b o,s.heap.get? b=some o->h₀.get? b=some o):InF s s.heap [] env [] m (λ_=>none) { s with heap:=h₀,toks:=tk }:=by
 refine⟨e2_1 _ _ rfl,⟨hk⟩,⟨hL▸hns,λ_ _ h=>(nomatch h),λ_ _ h=>(nomatch h),List.Pairwise.nil,λ_ _ h=>(nomatch h)⟩,λa ha=>?_,λ_ h=>(nomatch h),λ_ h=>(nomatch h)⟩
 rcases ha with ha | ha
 ·(rcases zC ha with rfl | ha)
  ·rw [hL];exact get_size_none _
  ·cases ha
 ·cases ha
section
variable {w:World} {A:Around} {s:Shared} {R:Result->Shared->Prop}
theorem call_cl {n:Nat} {f:Addr} {fd:FuncData} {body:List Stmt} {vals:List Value} {binds:List (Str×Value)} (ok:Ok (n+1) A) (hF:FnAt s.heap f fd) (hlim:s.heap.NoLimit)
  (hbody:fd.body=.stmts body) (hbind:bindArgs fd ⟨vals,[]⟩=pure binds) (hcell:fd.scope.names.all (λx=>!(x.2 == .cell))=true) (hloc:(binds.map λx=>fd.scope.names.lookup x.1)=binds.map λ_=>some .local)
  (hm:(binds.map λx=>binds.reverse.lookup x.1)=binds.map λx=>some x.2)
  (h:∀ s1 L m,(∀ (i:Nat) x v,binds[i]?=some (x,v)->m x=some v)->InF s s.heap [] (callEnv fd L f) [] m (λ_=>none) s1->Ok n (A.deeper (callEnv fd L f))->
   Wp w (A.deeper (callEnv fd L f)) (execs body (callEnv fd L f)) (λfl s'=>R (.ok (.ret (retOf fl))) s') s1)
  (hco:autoParam (fd.scope.isCoroutine=false) auR) (hgen:autoParam (fd.scope.isGenerator=false) auR) (hk:autoParam (fd.scope.kind=.function) auR):codeAny (model Pg w) A (.call (.ref f) ⟨vals,[]⟩) R s:=by
 refine q1_3 (hF.fn) λo ho hd _=>?_
 refine codeAny_call_plain ok.depth ho hd hlim hF.code hbody hbind (λx hx hc=>?_) (λx hx=>?_) (λh₀ hns hk0=>?_) hco hgen hk
 ·have:=List.all_eq_true.mp hcell x hx
  rw [hc] at this;cases this
 ·have:fd.scope.names.lookup x.1∈binds.map λx=>fd.scope.names.lookup x.1:=List.mem_map.mpr (e1_2 x hx rfl)
  rw [hloc] at this
  refine q1_2 (List.mem_map.mp this) λ_ _ e=>?_
  exact e.symm
 ·exact (h _ _ _ (λi x v hi=>by have:=congrArg (·[i]?) hm;simpa [hi] using this) (InF.plain (env:=callEnv fd s.heap.objs.size f) rfl hns hk0) ok.deeper).to λfl s' q=>by cases fl<;>exact q
theorem call_lam {n:Nat} {f:Addr} {fd:FuncData} {body:Expr} {vals:List Value} {binds:List (Str×Value)} (ok:Ok (n+1) A) (hF:FnAt s.heap f fd) (hlim:s.heap.NoLimit)
  (hbody:fd.body=.expr body) (hbind:bindArgs fd ⟨vals,[]⟩=pure binds) (hcell:fd.scope.names.all (λx=>!(x.2 == .cell))=true) (hloc:(binds.map λx=>fd.scope.names.lookup x.1)=binds.map λ_=>some .local)
  (hm:(binds.map λx=>binds.reverse.lookup x.1)=binds.map λx=>some x.2)
  (h:∀ s1 L m,(∀ (i:Nat) x v,binds[i]?=some (x,v)->m x=some v)->InF s s.heap [] (callEnv fd L f) [] m (λ_=>none) s1->Ok n (A.deeper (callEnv fd L f))->
   Wp w (A.deeper (callEnv fd L f)) (eval body (callEnv fd L f)) (λv s'=>R (.ok (.ret v)) s') s1)
  (hco:autoParam (fd.scope.isCoroutine=false) auR) (hgen:autoParam (fd.scope.isGenerator=false) auR) (hk:autoParam (fd.scope.kind=.function) auR):codeAny (model Pg w) A (.call (.ref f) ⟨vals,[]⟩) R s:=by
 refine q1_3 (hF.fn) λo ho hd _=>?_
 refine kla_callFunE ok.depth ho hd hco hgen hbody hF.code ?_
 rw [hbind]
 refine wpAny_pure (wpAny_newFunctionEnv (λx hx hc=>?_) (λx hx=>?_) (λh₁ hns hsb=>⟨hlim.fresh _ hsb,?_⟩) hk)
 ·have:=List.all_eq_true.mp hcell x hx
  rw [hc] at this;cases this
 ·have:fd.scope.names.lookup x.1∈binds.map λx=>fd.scope.names.lookup x.1:=List.mem_map.mpr (e1_2 x hx rfl)
  rw [hloc] at this
  refine q1_2 (List.mem_map.mp this) λ_ _ e=>?_
  exact e.symm
 ·have hk1:∀ b o,s.heap.get? b=some o->h₁.get? b=some o:=λb o e=>hsb.extBut b o (Nat.ne_of_lt (Heap.lt_size e)) (Heap.get?_push_of_some _ e)
  show codeAny _ _ (.expr body (callEnv fd s.heap.objs.size f)) _ _
  exact kla_codeExpr (Wp.to (h _ _ _ (λi x v hi=>by have:=congrArg (·[i]?) hm;simpa [hi] using this) (InF.plain (env:=callEnv fd s.heap.objs.size f) rfl hns hk1) ok.deeper) λv s' q=>q)
end
section
variable {w:World} {A:Around} {b h:Heap} {env:Env}
theorem Yd.mul {l r:Expr} {p:Pos} {i j:Int} (x:Yd w A b h env l (IsI i)) (y:Yd w A b h env r (IsI j)) (hi:-(2 ^ 64)<i/\i<2 ^ 64):Yd w A b h env (.BinOp l .Mult r p) (IsI (i * j)):=
 x.bin y λu v s _ _ hu hv=>by refine q1_1 hu λt z1=>?_;clear hu;subst z1;refine byC0 λzn=>?_;refine q1_1 hv λt' z1=>?_;clear hv;subst z1;refine zn ?_;clear zn;exact mul_int ⟨Kp.tok s _,λ_ _ _=>⟨_,rfl⟩⟩ (PySem.IntMulOk.of_left (PySem.intBits_le_64 hi.1 hi.2))
theorem Yd.orI {l r:Expr} {q:Pos} {i j:Int} (x:Yd w A b h env l (IsI i)) (y:Yd w A b h env r (IsI j)):Yd w A b h env (.BoolOp .Or [l,r] q) (IsI (if i=0 then j else i)):=λs hb hs=>by
 refine wpAny_Or2 ((x s hb hs).to λv s1 q1=>?_)
 refine byC0 λzn=>?_;refine q1_1 (q1.2 _ (hb.trans q1.1.le) (Nw.self _ _)) λt z1=>?_;subst z1;refine zn ?_;clear zn
 refine truthy_int ?_
 by_cases h0:i=0
 ·subst h0
  simp only [bne_self_eq_false,Bool.false_eq_true,if_false,if_true]
  exact (y s1 (hb.trans q1.1.le) (hs.trans q1.1.le)).to λv s2 q2=>⟨q1.1.trans q2.1,λg hg n=>q2.2 g hg (n.right q1.1.le)⟩
 ·have:(i != 0)=true:=by simpa using h0
  rw [this]
  simp only [if_true,if_neg h0]
  exact⟨q1.1,λ_ _ _=>⟨t,rfl⟩⟩
theorem Yd.lenL {x:Str} {p q:Pos} {e:Expr} {P:Value->Heap->Prop} {n:Nat} (V:Var h env x (.builtin "len")) (he:Yd w A b h env e P) (hl:∀ v g,Le b g->Le h g->P v g->∃ l items,v=.ref l/\g.IsList l items/\items.size=n) (hsz:n<2 ^ 62) (hd:autoParam ((x == ("__debug__" : Str))=false) auD) (hst:autoParam (starEach [e] env=(false,eval e env)::starEach [] env) auR) :
  Yd w A b h env (.Call (.Name x p) [e] [] q) (IsI (n:Int)):=
 Yd.callB V (Yds.one he hst) (λws s' hb' hs' q=>by
   refine v1 q λy1 ey a=>?_;subst ey
   refine byC0 λzn=>?_;refine q2_2 (hl _ _ hb' hs' a) λl items z1 z2=>?_;subst z1;refine q0_2 z2 λhli z3=>?_;clear z2;subst z3;refine zn ?_;clear zn
   exact PyProof.Rows.len_list (items:=items) hli (by omega) ⟨⟨e2_1 _ _ rfl,Le.refl _⟩,λg _ _=>⟨_,rfl⟩⟩) hd hst
end
structure KI (h:Heap) (C a e:Addr) (i:Nat):Prop where
 obj:∃ t,h.get? a=some { cls:=.ref C,dict:=some e,data:=.plain,slots:=#[some (.int i t)] }
 dict:h.get? e=some emptyDict
theorem KI.get {h h':Heap} {C a e:Addr} {i:Nat} (x:KI h C a e i) (g:∀ b,b=a\/b=e->∀ o,h.get? b=some o->h'.get? b=some o):KI h' C a e i:=
 ⟨q1_1 x.obj λt q=>⟨t,g a (.inl rfl) _ q⟩,g e (.inr rfl) _ x.dict⟩
noncomputable abbrev kiObj (C e:Addr) (sl:Array (Option Value)):Obj:={ cls:=.ref C,dict:=some e,data:=.plain,slots:=sl }
theorem inst_ki {h:Heap} {C a e:Addr} {sl:Array (Option Value)} (h1:h.get? a=some (kiObj C e sl)) (h2:h.get? e=some emptyDict):PySem.W.InstAt h a (kiObj C e sl) C (some emptyDict):=⟨h1,rfl,rfl,h2⟩
theorem ki_set {w:World} {A:Around} {K:Frag} {C a e:Addr} {sl sl':Array (Option Value)} {name:Str} {p i:Nat} {v:Value} {s:Shared} (X':K.In s.heap) (k:SlotK K C name p i) (h1:s.heap.get? a=some (kiObj C e sl)) (h2:s.heap.get? e=some emptyDict) (hi:i<1000)
  (hs:(sl++Array.replicate (i+1-sl.size) none).setIfInBounds i (some v)=sl') :
  Wp w A (setAttr (.ref a) name v) (λ_ s'=>Ev [a] s s'/\s'.heap.get? a=some (kiObj C e sl')) s:=by
 refine set_slotK X' k (inst_ki h1 h2) hi ?_
 refine q0_2 (update_obj (f:=λo=>{ o with slots:=(o.slots++Array.replicate (i+1-o.slots.size) none).setIfInBounds i (some v) }) h1 rfl) λu1 u2=>?_
 refine⟨⟨e2_1 _ _ rfl,λc o hc e=>u2 c o (λz=>hc (by simp [z])) e⟩,?_⟩
 rw [← hs]
 exact u1
section
variable {w:World} {A:Around} {s:Shared} {C r b:Addr} {o:Int} {P fI fL fM cM cO cB cR:Addr}
theorem kx_new {n i:Nat} {t:Tok} (ok:Ok (n+2) A) (lim:s.heap.NoLimit) (Z:SvAt s.heap C r b o P fI fL fM cM cO cB cR) :
  Wp w A (call (.ref C) [.int i t]) (λv s'=>∃ a e,v=.ref a/\Kp s s'/\KI s'.heap C a e i/\s.heap.get? a=none/\s.heap.get? e=none) s:=by
 refine byC0 λzn=>?_
 rcases s with ⟨hh,g,d,tk,os⟩
 refine q1_1 (Z.k) λN kat=>?_
 refine q1_2 (kat.frag) λK X KF=>?_
 refine zn ?_;clear zn
 refine wpAny_call (make_core (makes_of X KF.made) (looks_findIn X KF.init) (λself=>bind_fn X self KF.ifn) (.inl rfl) ?_)
 generalize hH:(hh.push emptyDict).push (instObj C hh.objs.size)=H
 have l:Le hh H:=by rw [← hH];exact (Le.push _ _).trans (Le.push _ _)
 have ha:H.get? (hh.objs.size+1)=some (kiObj C hh.objs.size #[]):=by rw [← hH];heap_get
 have he:H.get? hh.objs.size=some emptyDict:=by rw [← hH];heap_get
 refine q2_1 (Z.fi) λpm cd F=>?_
 refine call_fn0 (n:=n) (binds:=[(sO "self",.ref (hh.objs.size+1)),(sO "obj",.int i t)]) ok.make (F.le l) (lim.keeps l.get) rfl (by kernel_rfl) rfl (by kernel_rfl) (λ_=>by kernel_rfl) (λ_=>by kernel_rfl) λs1 L m cm B I ok'=>?_
 have haN:hh.get? (hh.objs.size+1)=none:=none_ge (Nat.le_succ _)
 have heN:hh.get? hh.objs.size=none:=none_ge (Nat.le_refl _)
 have I0:=I.hide [hh.objs.size+1] (λc hc=>by rw [zS hc];exact⟨_,I.le.get _ _ ha⟩) (λc hc=>by rw [zS hc];exact I.notft ha)
 have hhb:Le hh (hideAll H [hh.objs.size+1]):=le_hide l λc hc=>by rw [zS hc];exact haN
 have hne:hh.objs.size≠hh.objs.size+1:=Nat.ne_of_lt (Nat.lt_succ_self _)
 have heb:(hideAll H [hh.objs.size+1]).get? hh.objs.size=some emptyDict:=hideAll_get _ he λhm=>hne (zS hm)
 refine seqk (plainObj_wpAny_Assign_Attribute ((Yd.namI (I0.fs.var (x:=sO "obj") rfl rfl (B 1 _ _ rfl)) (by decide) s1 I0.le (Le.refl _)).to λv s2 q=>?_) (by rfl))
 refine byC0 λzn=>?_;refine q1_1 (q.2 _ (I0.le.trans q.1.le) (Nw.self _ _)) λu z1=>?_;subst z1;refine zn ?_;clear zn
 have I1:=I0.kp q.1
 refine wpAny_Name ((I1.fs.var (x:=sO "self") (v:=.ref (hh.objs.size+1)) rfl rfl (B 0 _ _ rfl)) w _ s2 _ _ (Le.refl _) ?_) (by decide)
 refine (ki_set (sl':=#[some (.int i u)]) (X.keeps (hhb.trans I1.le).get) KF.sl ((I.le.trans q.1.le).get _ _ ha) ((I.le.trans q.1.le).get _ _ he) (by decide) rfl).to λ_ s3 q3=>?_
 refine nil_ (InitBack.of rfl (e2_5 _ _ rfl ⟨?_,⟨λc oc e=>?_⟩⟩ ⟨⟨u,q3.2⟩,q3.1.get _ _ (by simp) ((I.le.trans q.1.le).get _ _ he)⟩ haN heN))
 ·refine q2_1 (same_trans I.same (same_trans q.1.same q3.1.same)) λh' t' e0=>?_
  exact e2_1 h' t' e0
 ·exact q3.1.get c oc (λhm=>by rw [zS hm,haN] at e;cases e) (q.1.le.get _ _ (I.le.get _ _ (l.get _ _ e)))
noncomputable def cmpF (o:Int) (R:Nat->Int) (ln:Nat->Nat) (i j:Nat):Int:=if o * (R i-R j)=0 then (ln j:Int)-(ln i:Int) else o * (R i-R j)
variable {mg mb mN:SoV} {K:Frag} {kv:List (Int×Value)} {R:Nat->Int} {ls:List (List Nat)}
theorem cmp_call {n i j:Nat} {t u:Tok} (ok:Ok (n+1) A) (S:St w mg mb mN K s.heap) (Cn:Con mg mb mN K) (Z:SvAt s.heap C r b o P fI fL fM cM cO cB cR) (ho:o=0\/o=1) (hd:s.heap.DictOf (intKind Pg w) r kv) (hi:∃ t,valueAt kv i=some (.int (R i) t)) (hj:∃ t,valueAt kv j=some (.int (R j) t))
  (hb:LL s.heap s.heap b ls) (hil:i<ls.length) (hjl:j<ls.length) (hll:∀ l∈ls,l.length<1000) (hls:ls.length<1000) :
  Wp w A (call (.ref fM) [.int i t,.int j u]) (λv s'=>Kp s s'/\∃ t,v=.int (cmpF o R (λi=>(ls.getD i []).length) i j) t) s:=by
 refine q3_1 (Z.fm) λpm cd ct F=>?_
 refine wpAny_call (call_lam (n:=n) (binds:=[(sO "one",.int i t),(sO "other",.int j u)]) ok F S.lim rfl (by kernel_rfl) (by kernel_rfl) (by kernel_rfl) (by kernel_rfl) λs1 L m B I ok'=>?_)
 have l1:=I.le
 have V0:=I.fs.var (x:=sO "one") rfl rfl (B 0 _ _ rfl)
 have V1:=I.fs.var (x:=sO "other") rfl rfl (B 1 _ _ rfl)
 refine byC0 λzn=>?_
 refine q1_1 (Z.co) λtO hO=>?_
 have VO:=I.fs.fre (x:=sO "odd") (hO.keeps l1.get) rfl rfl rfl
 have VR:=I.fs.fre (x:=sO "rounds") (Z.cr.keeps l1.get) rfl rfl rfl
 have VB:=I.fs.fre (x:=sO "behind") (Z.cb.keeps l1.get) rfl rfl rfl
 have bl:=Cn.blt (sO "len") (by simp)
 have VL:=I.fs.blt (S.le l1).g bl.1 (S.le l1).b (bl.2.trans (by decide +kernel:bootBuiltins (sO "len")=some (.builtin "len"))) rfl rfl rfl rfl
 refine q1_1 hi λti z1=>?_;clear hi;revert z1;intro hi
 refine q1_1 hj λtj z1=>?_;clear hj;revert z1;intro hj
 have hd1:=hd.keep l1.get
 refine q1_2 hb λvs hvs hp=>?_;clear hb
 refine zn ?_;clear zn
 have hvl:vs.length=ls.length:=hp.length.symm
 have Ln:∀ (k:Nat) (x:Str) (px ps pb pc pl:Pos) (tt:Tok),k<ls.length->Var s1.heap (callEnv (lamFd [(sO "rounds",cR),(sO "odd",cO),(sO "behind",cB)] pm cd ct) L fM) x (.int k tt)->(x == ("__debug__" : Str))=false->
   Yd w (A.deeper (callEnv (lamFd [(sO "rounds",cR),(sO "odd",cO),(sO "behind",cB)] pm cd ct) L fM)) s.heap s1.heap (callEnv (lamFd [(sO "rounds",cR),(sO "odd",cO),(sO "behind",cB)] pm cd ct) L fM) (.Call (.Name (sO "len") pl) [.Subscript (.Name (sO "behind") pb) (.Name x px) ps] [] pc) (IsI (((ls.getD k []).length:Nat):Int)):=by
  intro k x px ps pb pc pl tt hk Vx hdx
  refine byC0 λzn=>?_;refine q1_2 (Paired.getAt hp k vs[k] (List.getElem?_eq_getElem (by omega))) λbl hbl z1=>?_;refine q1_2 z1 λa ha hna=>?_;clear z1;refine zn ?_;clear zn
  have hm:bl∈ls:=List.mem_of_getElem? hbl
  refine Yd.lenL (n:=(ls.getD k []).length) VL (Yd.lsub (k:=k) (v:=vs[k]) (hvs.at λo e=>l1.get _ _ e) (Yd.namV VB) (Yd.nam Vx (λ_ _=>⟨tt,rfl⟩) hdx) (by simp) (by omega)) (λv g hg hg' q=>?_) ?_
  ·refine q1_2 hna λus hus hup=>?_;clear hna
   have q:v=vs[k]:=q
   refine e2_3 a _ (q.trans ha) (hus.isList.at λo e=>hg.get _ _ e) ?_
   have:=hup.length
   rw [List.getD_eq_getElem?_getD,hbl]
   simp [this]
  ·rw [List.getD_eq_getElem?_getD,hbl]
   have:=hll bl hm
   simp;omega
 refine Wp.to (Yd.orI (b:=s.heap) (h:=s1.heap) (Yd.mul (Yd.namI VO) (Yd.sub (Yd.mono (Yd.dsub hd1 (Yd.namV VR) (Yd.namI V0) hi) λv g _ q=>⟨ti,q⟩) (Yd.mono (Yd.dsub hd1 (Yd.namV VR) (Yd.namI V1) hj) λv g _ q=>⟨tj,q⟩)) (by (refine byC0 λzn=>?_;((rcases ho with rfl | rfl))<;>(refine zn ?_;clear zn))<;>decide))
  (Yd.sub (Ln j _ _ _ _ _ _ u hjl V1 (by decide)) (Ln i _ _ _ _ _ _ t hil V0 (by decide))) s1 l1 (Le.refl _)) λv s2 q=>⟨(I.kp q.1).kp0 (Le.refl _),q.2 _ (l1.trans q.1.le) (Nw.self _ _)⟩
theorem lt_call {n i j:Nat} {x y ex ey:Addr} (ok:Ok (n+3) A) (S:St w mg mb mN K s.heap) (Cn:Con mg mb mN K) (Z:SvAt s.heap C r b o P fI fL fM cM cO cB cR) (ho:o=0\/o=1) (hd:s.heap.DictOf (intKind Pg w) r kv) (hi:∃ t,valueAt kv i=some (.int (R i) t)) (hj:∃ t,valueAt kv j=some (.int (R j) t))
  (hb:LL s.heap s.heap b ls) (hil:i<ls.length) (hjl:j<ls.length) (hll:∀ l∈ls,l.length<1000) (hls:ls.length<1000) (hx:KI s.heap C x ex i) (hy:KI s.heap C y ey j) :
  Wp w A (call (.ref fL) [.ref x,.ref y]) (λv s'=>Kp s s'/\v=.bool (decide (cmpF o R (λi=>(ls.getD i []).length) i j<0))) s:=by
 refine byC0 λzn=>?_
 refine q3_1 (Z.fl) λpm cd ct F=>?_
 refine q1_1 (Z.k) λN kat=>?_
 refine q1_2 (kat.frag) λK₁ X1 KF=>?_
 refine zn ?_;clear zn
 refine wpAny_call (call_cl (n:=n+2) (binds:=[(sO "self",.ref x),(sO "other",.ref y)]) ok F S.lim rfl (by kernel_rfl) (by kernel_rfl) (by kernel_rfl) (by kernel_rfl) λs1 L m B I ok'=>?_)
 have l1:=I.le
 have V0:=I.fs.var (x:=sO "self") rfl rfl (B 0 _ _ rfl)
 have V1:=I.fs.var (x:=sO "other") rfl rfl (B 1 _ _ rfl)
 have VM:=I.fs.fre (x:=sO "mycmp") (Z.cm.keeps l1.get) rfl rfl rfl
 refine byC0 λzn=>?_
 refine q3_1 (Z.fm) λpm' cd' ct' FM=>?_
 refine q1_1 (hx.obj) λtx hx1=>?_
 refine q1_1 (hy.obj) λty hy1=>?_
 refine zn ?_;clear zn
 refine ret_ l1 (P:=IsB (decide (cmpF o R (λi=>(ls.getD i []).length) i j<0))) (Yd.cmp (P₂:=IsI 0) (Yd.callF (P:=IsI (cmpF o R (λi=>(ls.getD i []).length) i j)) VM (FM.le l1) (Yds.two (P₁:=IsV (.int i tx)) (P₂:=IsV (.int j ty)) (Yd.slt (X1.keeps l1.get) KF.sl (inst_ki (l1.get _ _ hx1) (l1.get _ _ hx.dict)) (v:=.int i tx) rfl rfl (Yd.namV V0) (λ_=>rfl)) (Yd.slt (X1.keeps l1.get) KF.sl (inst_ki (l1.get _ _ hy1) (l1.get _ _ hy.dict)) (v:=.int j ty) rfl rfl (Yd.namV V1) (λ_=>rfl)))
  λvs s2 hb2 hs2 q=>?_) Yd.int λu v s' _ _ hu hv=>?_) λv s3 k q=>⟨(I.kp k).kp0 (Le.refl _),q _ (l1.trans k.le) (Nw.self _ _)⟩
 ·refine v2 q λy1 y2 ey a a'=>?_;subst ey
  cases a
  cases a'
  have l2:=hb2
  refine (cmp_call (n:=n+1) ok' (S.le l2) Cn (Z.le l2) ho (hd.keep l2.get) hi hj ?_ hil hjl hll hls).to λz s4 q4=>⟨q4.1,λ_ _ _=>q4.2⟩
  refine q1_2 hb λvs h1 h2=>?_;clear hb
  exact e1_2 vs (h1.at λo e=>l2.get _ _ e) (Paired.imp (λl v q=>by refine q1_2 q λa z1 hl=>?_;clear q;subst z1;exact e1_2 a rfl (hl.at λo e=>l2.get _ _ e)) h2)
 ·refine byC0 λzn=>?_
  refine q1_1 hu λt1 z1=>?_;clear hu;subst z1
  refine q1_1 hv λt2 z1=>?_;clear hv;subst z1
  refine zn ?_;clear zn
  exact lt_int ⟨Kp.refl _,rfl⟩
end
noncomputable def evT {α:Type} (lt:Nat->Nat->Bool):KasT α->α
 | .ret a=>a
 | .ask i j k=>evT lt (k (lt i j))
theorem evT_bind {α β:Type} (lt:Nat->Nat->Bool) (f:α->KasT β):∀ t:KasT α,evT lt (t.bind f)=evT lt (f (evT lt t))
 | .ret a=>rfl
 | .ask i j k=>evT_bind lt f (k (lt i j))
theorem evT_ask {α:Type} (lt:Nat->Nat->Bool) (i j:Nat) (k:Bool->KasT α):evT lt (.ask i j k)=evT lt (k (lt i j)):=rfl
section
variable (key:Nat->Int)
noncomputable def kP (p:Array Nat) (k:Nat):Int:=key (p.getD k 0)
noncomputable def kLt (i j:Nat):Bool:=decide (key i<key j)
noncomputable def Asc (p:Array Nat) (m:Nat):Prop:=∀ k,1<=k->k<m->kP key p (k-1)<=kP key p k
noncomputable def Dsc (p:Array Nat) (m:Nat):Prop:=∀ k,1<=k->k<m->kP key p k<=kP key p (k-1)
variable {key}
theorem Asc.le {p:Array Nat} {m:Nat} (h:Asc key p m):∀ (j i:Nat),i<=j->j<m->kP key p i<=kP key p j:=by
 intro j
 induction j with
 | zero=>intro i hi _;rw [Nat.le_zero.mp hi];exact Int.le_refl _
 | succ j ih=>
  intro i hi hj
  by_cases e:i=j+1
  ·rw [e];exact Int.le_refl _
  ·exact Int.le_trans (ih i (by omega) (by omega)) (h (j+1) (by omega) hj)
theorem kP_congr {p q:Array Nat} {i j:Nat} (h:p[i]?=q[j]?):kP key p i=kP key q j:=by
 unfold kP
 simp only [Array.getD_eq_getD_getElem?,h]
theorem kP_rev {p:Array Nat} {i j:Nat} (hj:j<=p.size) (k:Nat):kP key (kas_rev p i j) k=if i<=k/\k<j then kP key p (i+j-1-k) else kP key p k:=by
 have e:=getElem?_mirror_all (i:=i) hj k
 unfold kas_rev
 by_cases h1:i<=k/\k<j
 ·rw [if_pos h1] at e ⊢;exact kP_congr e
 ·rw [if_neg h1] at e ⊢;exact kP_congr e
theorem kP_bubble {p:Array Nat} {src d:Nat} (hs:src<p.size) (hd:d<=src) (k:Nat):kP key (bubble p src d) k=if k=src-d then kP key p src else if src-d<k/\k<=src then kP key p (k-1) else kP key p k:=by
 have e:=getElem?_bubble hs d hd k
 by_cases h1:k=src-d
 ·rw [if_pos h1] at e ⊢;exact kP_congr e
 ·rw [if_neg h1] at e ⊢
  by_cases h2:src-d<k/\k<=src
  ·rw [if_pos h2] at e ⊢;exact kP_congr e
  ·rw [if_neg h2] at e ⊢;exact kP_congr e
theorem rev_perm (p:Array Nat) (i j:Nat):(kas_rev p i j).Perm p:=mirror_perm _ _ _ _
theorem asc_ev (p:Array Nat):∀ f n,n<=evT (kLt key) (kas_asc p f n)/\evT (kLt key) (kas_asc p f n)<=n+f/\(∀ k,n<=k->k<evT (kLt key) (kas_asc p f n)->kP key p (k-1)<=kP key p k)/\
  (evT (kLt key) (kas_asc p f n)<n+f->kP key p (evT (kLt key) (kas_asc p f n))<kP key p (evT (kLt key) (kas_asc p f n)-1))
 | 0,n=>⟨Nat.le_refl _,Nat.le_refl _,λk h1 h2=>absurd (Nat.lt_of_le_of_lt h1 h2) (Nat.lt_irrefl _),λh=>absurd h (Nat.lt_irrefl _)⟩
 | f+1,n=>by
  unfold kas_asc
  rw [evT_ask]
  by_cases h:kP key p n<kP key p (n-1)
  ·have:kLt key (p.getD n 0) (p.getD (n-1) 0)=true:=decide_eq_true h
   rw [this]
   simp only [if_true]
   exact⟨Nat.le_refl _,Nat.le_add_right _ _,λk h1 h2=>absurd (Nat.lt_of_le_of_lt h1 h2) (Nat.lt_irrefl _),λ_=>h⟩
  ·have:kLt key (p.getD n 0) (p.getD (n-1) 0)=false:=decide_eq_false h
   rw [this]
   simp only [Bool.false_eq_true,if_false]
   refine q0_4 (asc_ev p f (n+1)) λa1 a2 a3 a4=>?_
   refine⟨by omega,by omega,λk h1 h2=>?_,λh1=>a4 (by omega)⟩
   by_cases e:k=n
   ·subst e;exact Int.not_lt.mp h
   ·exact a3 k (by omega) h2
theorem desc_ev:∀ f (p:Array Nat) n q,1<=n->q+1<=n->n+f<=p.size->Dsc key p n->(∀ k,n-1-q<=k->k<n->kP key p k=kP key p (n-1))->
  ∃ p' m q',evT (kLt key) (kas_desc f p n q)=(p',m,q')/\p'.Perm p/\p'.size=p.size/\n<=m/\m<=n+f/\q'+1<=m/\Dsc key p' m/\(∀ k,m-1-q'<=k->k<m->kP key p' k=kP key p' (m-1))
 | 0,p,n,q,h1,h2,h3,h4,h5=>e3_8 p n q rfl (Array.Perm.refl _) rfl (Nat.le_refl _) (Nat.le_refl _) h2 h4 h5
 | f+1,p,n,q,h1,h2,h3,h4,h5=>by
  unfold kas_desc
  rw [evT_ask]
  by_cases h:kP key p n<kP key p (n-1)
  ·have e1:kLt key (p.getD n 0) (p.getD (n-1) 0)=true:=decide_eq_true h
   rw [e1]
   simp only [if_true]
   have same:∀ k,kP key (kas_rev p (n-(q+1)) n) k=kP key p k:=λk=>by
    rw [kP_rev (by omega)]
    split
    ·rename_i hk
     rw [h5 _ (by omega) (by omega),h5 k (by omega) (by omega)]
    ·rfl
   have step:∀ p1:Array Nat,p1.Perm p->p1.size=p.size->(∀ k,kP key p1 k=kP key p k)->
     ∃ p' m q',evT (kLt key) (kas_desc f p1 (n+1) 0)=(p',m,q')/\p'.Perm p/\p'.size=p.size/\n<=m/\m<=n+(f+1)/\q'+1<=m/\Dsc key p' m/\(∀ k,m-1-q'<=k->k<m->kP key p' k=kP key p' (m-1)):=by
    intro p1 hp hz hs
    refine q3_8 (desc_ev f p1 (n+1) 0 (by omega) (by omega) (by omega) (λk k1 k2=>by
     rw [hs,hs]
     by_cases e:k=n
     ·subst e;exact Int.le_of_lt h
     ·exact h4 k k1 (by omega)) (λk k1 k2=>by
     have:k=n:=by omega
     rw [this];rfl)) λp' m q' a1 a2 a3 a4 a5 a6 a7 a8=>?_
    exact e3_8 p' m q' a1 (a2.trans hp) (a3.trans hz) (by omega) (by omega) a6 a7 a8
   split
   ·exact step _ (rev_perm _ _ _) (mirror_size _ _ _ _) same
   ·exact step p (Array.Perm.refl _) rfl λ_=>rfl
  ·have e1:kLt key (p.getD n 0) (p.getD (n-1) 0)=false:=decide_eq_false h
   rw [e1]
   simp only [Bool.false_eq_true,if_false]
   rw [evT_ask]
   by_cases h':kP key p (n-1)<kP key p n
   ·have e2:kLt key (p.getD (n-1) 0) (p.getD n 0)=true:=decide_eq_true h'
    rw [e2]
    simp only [if_true]
    exact e3_8 p n q rfl (Array.Perm.refl _) rfl (Nat.le_refl _) (by omega) h2 h4 h5
   ·have e2:kLt key (p.getD (n-1) 0) (p.getD n 0)=false:=decide_eq_false h'
    rw [e2]
    simp only [Bool.false_eq_true,if_false]
    have he:kP key p n=kP key p (n-1):=Int.le_antisymm (Int.not_lt.mp h') (Int.not_lt.mp h)
    refine q3_8 (desc_ev f p (n+1) (q+1) (by omega) (by omega) (by omega) (λk k1 k2=>by
     by_cases e:k=n
     ·subst e;exact Int.le_of_eq he
     ·exact h4 k k1 (by omega)) (λk k1 k2=>by
     show _=kP key p (n+1-1)
     rw [Nat.add_sub_cancel,he]
     by_cases e:k=n
     ·subst e;exact he
     ·exact h5 k (by omega) (by omega))) λp' m q' a1 a2 a3 a4 a5 a6 a7 a8=>?_
    exact e3_8 p' m q' a1 a2 a3 (by omega) (by omega) a6 a7 a8
theorem tail3_ev {p:Array Nat} {n nrem:Nat} (h1:1<=n) (h2:n<=nrem) (hz:nrem<=p.size) (hd:Dsc key p n) :
  ∃ m p',evT (kLt key) (kas_tail3 n nrem p)=(m,p')/\p'.Perm p/\p'.size=p.size/\1<=m/\m<=nrem/\Asc key p' m:=by
 unfold kas_tail3
 rw [evT_bind]
 refine q0_4 (asc_ev (key:=key) (kas_rev p 0 n) (nrem-n) n) λa1 a2 a3 a4=>?_
 refine e2_6 _ _ rfl (rev_perm _ _ _) (mirror_size _ _ _ _) (by omega) (by omega) (λk k1 k2=>?_)
 by_cases hk:k<n
 ·rw [kP_rev (by omega),kP_rev (by omega),if_pos (by omega),if_pos (by omega)]
  have:=hd (n-k) (by omega) (by omega)
  rw [show 0+n-1-(k-1)=n-k from by omega,show 0+n-1-k=n-k-1 from by omega]
  exact this
 ·exact a3 k (by omega) k2
theorem descPart_ev {p:Array Nat} {n nrem:Nat} (h1:1<=n) (h2:n+1<=nrem) (hz:nrem<=p.size) (hd:Dsc key p (n+1)) :
  ∃ m p',evT (kLt key) (kas_descPart n nrem p)=(m,p')/\p'.Perm p/\p'.size=p.size/\1<=m/\m<=nrem/\Asc key p' m:=by
 unfold kas_descPart
 rw [evT_bind]
 refine q3_8 (desc_ev (key:=key) (nrem-(n+1)) p (n+1) 0 (by omega) (by omega) (by omega) hd (λk k1 k2=>by
  have:k=n:=by omega
  rw [this];rfl)) λp' m q' a1 a2 a3 a4 a5 a6 a7 a8=>?_
 rw [a1]
 dsimp only
 split
 ·have same:∀ k,kP key (kas_rev p' (m-(q'+1)) m) k=kP key p' k:=λk=>by
   rw [kP_rev (by omega)]
   split
   ·rw [a8 _ (by omega) (by omega),a8 k (by omega) (by omega)]
   ·rfl
  refine q2_6 (tail3_ev (key:=key) (p:=kas_rev p' (m-(q'+1)) m) (n:=m) (nrem:=nrem) (by omega) (by omega) (by rw [kas_rev_size];omega) (λk k1 k2=>by rw [same,same];exact a7 k k1 k2)) λm' p'' b1 b2 b3 b4 b5 b6=>?_
  exact e2_6 m' p'' b1 (b2.trans ((rev_perm _ _ _).trans a2)) (by rw [b3,kas_rev_size,a3]) b4 b5 b6
 ·refine q2_6 (tail3_ev (key:=key) (p:=p') (n:=m) (nrem:=nrem) (by omega) (by omega) (by omega) a7) λm' p'' b1 b2 b3 b4 b5 b6=>?_
  exact e2_6 m' p'' b1 (b2.trans a2) (b3.trans a3) b4 b5 b6
end
theorem count_ev {key:Nat->Int} {p:Array Nat} {nrem:Nat}:∀ (h1:1<=nrem) (hz:nrem<=p.size),∃ m p',evT (kLt key) (kas_count nrem p)=(m,p')/\p'.Perm p/\p'.size=p.size/\1<=m/\m<=nrem/\Asc key p' m:=by
 intro h1 hz
 unfold kas_count
 rw [evT_bind]
 refine q0_4 (asc_ev (key:=key) p (nrem-1) 1) λa1 a2 a3 a4=>?_
 generalize evT (kLt key) (kas_asc p (nrem-1) 1)=n at a1 a2 a3 a4
 have asc:Asc key p n:=λk k1 k2=>a3 k k1 k2
 by_cases hn:n=nrem
 ·have:(n == nrem)=true:=by simpa using hn
  rw [this]
  simp only [if_true]
  exact e2_6 n p rfl (Array.Perm.refl _) rfl a1 (by omega) asc
 ·have:(n == nrem)=false:=by simpa using hn
  rw [this]
  simp only [Bool.false_eq_true,if_false]
  have hlt:=a4 (by omega)
  have next:∀ p1:Array Nat,p1.Perm p->p1.size=p.size->(∀ k,kP key p1 k=kP key p k)->Dsc key p n->∃ m p',evT (kLt key) (kas_descPart n nrem p1)=(m,p')/\p'.Perm p/\p'.size=p.size/\1<=m/\m<=nrem/\Asc key p' m:=by
   intro p1 hp hz' hs hd
   refine q2_6 (descPart_ev (key:=key) (p:=p1) (n:=n) (nrem:=nrem) a1 (by omega) (by omega) (λk k1 k2=>by
    rw [hs,hs]
    by_cases e:k=n
    ·subst e;exact Int.le_of_lt hlt
    ·exact hd k k1 (by omega))) λm' p'' b1 b2 b3 b4 b5 b6=>?_
   exact e2_6 m' p'' b1 (b2.trans hp) (b3.trans hz') b4 b5 b6
  split
  ·rw [evT_ask]
   by_cases h:kP key p 0<kP key p (n-1)
   ·have:kLt key (p.getD 0 0) (p.getD (n-1) 0)=true:=decide_eq_true h
    rw [this]
    simp only [if_true]
    exact e2_6 n p rfl (Array.Perm.refl _) rfl a1 (by omega) asc
   ·have:kLt key (p.getD 0 0) (p.getD (n-1) 0)=false:=decide_eq_false h
    rw [this]
    simp only [Bool.false_eq_true,if_false]
    have con:∀ k,k<n->kP key p k=kP key p 0:=λk hk=>by
     have x1:=asc.le k 0 (Nat.zero_le _) hk
     have x2:=asc.le (n-1) k (by omega) (by omega)
     omega
    refine next _ (rev_perm _ _ _) (mirror_size _ _ _ _) (λk=>?_) λk k1 k2=>by rw [con k k2,con (k-1) (by omega)];exact Int.le_refl _
    rw [kP_rev (by omega)]
    split
    ·rw [con _ (by omega),con k (by omega)]
    ·rfl
  ·have hn1:n=1:=by omega
   subst hn1
   exact next p (Array.Perm.refl _) rfl (λ_=>rfl) λk k1 k2=>by omega
section
variable (key:Nat->Int)
variable {key}
theorem place_ev {p:Array Nat} {k:Nat} (hs:Asc key p k):∀ f l r,r-l<=f->l<=r->r<=k->(∀ i,i<l->kP key p i<=kP key p k)->(∀ i,r<=i->i<k->kP key p k<=kP key p i)->
  evT (kLt key) (kas_place p k f l r)<=k/\(∀ i,i<evT (kLt key) (kas_place p k f l r)->kP key p i<=kP key p k)/\(∀ i,evT (kLt key) (kas_place p k f l r)<=i->i<k->kP key p k<=kP key p i)
 | 0,l,r,h1,h2,h3,h4,h5=>⟨by show l<=k;omega,h4,λi h=>h5 i (by have:l<=i:=h;omega)⟩
 | f+1,l,r,h1,h2,h3,h4,h5=>by
  unfold kas_place
  split
  ·exact⟨by show l<=k;omega,h4,λi h=>h5 i (by have:l<=i:=h;omega)⟩
  ·rw [evT_ask]
   by_cases h:kP key p k<kP key p ((l+r) / 2)
   ·have:kLt key (p.getD k 0) (p.getD ((l+r) / 2) 0)=true:=decide_eq_true h
    rw [this]
    simp only [if_true]
    refine place_ev hs f l ((l+r) / 2) (by omega) (by omega) (by omega) h4 λi i1 i2=>?_
    exact Int.le_trans (Int.le_of_lt h) (hs.le i _ i1 i2)
   ·have:kLt key (p.getD k 0) (p.getD ((l+r) / 2) 0)=false:=decide_eq_false h
    rw [this]
    simp only [Bool.false_eq_true,if_false]
    refine place_ev hs f ((l+r) / 2+1) r (by omega) (by omega) h3 (λi i1=>?_) h5
    exact Int.le_trans (hs.le _ i (by omega) (by omega)) (Int.not_lt.mp h)
theorem bin_ev:∀ f (p:Array Nat) k,1<=k->k+f<=p.size->Asc key p k->(evT (kLt key) (kas_bin f p k)).Perm p/\(evT (kLt key) (kas_bin f p k)).size=p.size/\Asc key (evT (kLt key) (kas_bin f p k)) (k+f)
 | 0,p,k,h1,h2,h3=>⟨Array.Perm.refl _,rfl,h3⟩
 | f+1,p,k,h1,h2,h3=>by
  unfold kas_bin
  rw [evT_bind]
  refine q0_3 (place_ev h3 k 0 k (by omega) (Nat.zero_le _) (Nat.le_refl _) (λi h=>absurd h (Nat.not_lt_zero _)) (λi i1 i2=>by omega)) λa1 a2 a3=>?_
  generalize evT (kLt key) (kas_place p k k 0 k)=l at a1 a2 a3
  have asc:Asc key (bubble p k (k-l)) (k+1):=λj j1 j2=>by
   rw [kP_bubble (by omega) (by omega),kP_bubble (by omega) (by omega)]
   have e:k-(k-l)=l:=by omega
   rw [e]
   by_cases c1:j-1=l
   ·rw [if_pos c1,if_neg (by omega),if_pos (by omega)]
    rw [c1]
    by_cases c2:l=k
    ·omega
    ·exact a3 l (Nat.le_refl _) (by omega)
   ·rw [if_neg c1]
    by_cases c2:j=l
    ·rw [if_pos c2,if_neg (by omega)]
     exact a2 _ (by omega)
    ·rw [if_neg c2]
     by_cases c3:l<j
     ·rw [if_pos (by omega),if_pos (by omega)]
      exact h3 (j-1) (by omega) (by omega)
     ·rw [if_neg (by omega),if_neg (by omega)]
      exact h3 j j1 (by omega)
  refine q0_3 (bin_ev f (bubble p k (k-l)) (k+1) (by omega) (by rw [bubble_size];omega) asc) λb1 b2 b3=>?_
  refine⟨b1.trans (bubble_perm _ _ _),b2.trans (bubble_size _ _ _),?_⟩
  rw [show k+(f+1)=k+1+f from by omega]
  exact b3
theorem sort_ev (n:Nat) (h1:1<=n):(evT (kLt key) (kas_sort n)).Perm (List.toArray (List.range n))/\(evT (kLt key) (kas_sort n)).size=n/\Asc key (evT (kLt key) (kas_sort n)) n:=by
 unfold kas_sort
 rw [evT_bind]
 have hz:(List.toArray (List.range n)).size=n:=by simp
 refine q2_6 (count_ev (key:=key) (p:=List.toArray (List.range n)) (nrem:=n) h1 (by omega)) λm p a1 a2 a3 a4 a5 a6=>?_
 rw [a1]
 dsimp only
 split
 ·have hm:max m 1=m:=by omega
  rw [hm]
  refine q0_3 (bin_ev (key:=key) (n-m) p m a4 (by omega) a6) λb1 b2 b3=>?_
  refine⟨b1.trans a2,by omega,?_⟩
  rw [show m+(n-m)=n from by omega] at b3
  exact b3
 ·have:m=n:=by omega
  subst this
  exact⟨a2,by show p.size=m;omega,a6⟩
end
noncomputable def RngP {α:Type} (n:Nat) (P:α->Prop):KasT α->Prop
 | .ret a=>P a
 | .ask i j k=>i<n/\j<n/\∀ b,RngP n P (k b)
theorem RngP.bind {α β:Type} {n:Nat} {P:α->Prop} {Q:β->Prop} {f:α->KasT β} (hf:∀ a,P a->RngP n Q (f a)):∀ {t:KasT α},RngP n P t->RngP n Q (t.bind f)
 | .ret a,h=>hf a h
 | .ask i j k,h=>⟨h.1,h.2.1,λb=>RngP.bind hf (h.2.2 b)⟩
noncomputable def Bd (n:Nat) (p:Array Nat):Prop:=0<n/\∀ v∈p,v<n
theorem Bd.at {n:Nat} {p:Array Nat} (h:Bd n p) (k:Nat):p.getD k 0<n:=by
 rw [Array.getD_eq_getD_getElem?]
 cases e:p[k]? with
 | none=>exact h.1
 | some v=>exact h.2 v (Array.mem_of_getElem? e)
theorem Bd.perm {n:Nat} {p q:Array Nat} (h:Bd n p) (hp:q.Perm p):Bd n q:=⟨h.1,λv hv=>h.2 v (hp.mem_iff.mp hv)⟩
theorem asc_rng {n:Nat} {p:Array Nat} (h:Bd n p):∀ f k,RngP n (λ_=>True) (kas_asc p f k)
 | 0,k=>trivial
 | f+1,k=>⟨h.at _,h.at _,λb=>by
  cases b with
  | true=>exact trivial
  | false=>exact asc_rng h f (k+1)⟩
theorem desc_rng {n:Nat}:∀ f (p:Array Nat) k q,Bd n p->RngP n (λr:Array Nat×Nat×Nat=>Bd n r.1) (kas_desc f p k q)
 | 0,p,k,q,h=>h
 | f+1,p,k,q,h=>⟨h.at _,h.at _,λb=>by
  cases b with
  | true=>
   simp only [if_true]
   split
   ·exact desc_rng f _ _ _ (h.perm (rev_perm _ _ _))
   ·exact desc_rng f _ _ _ h
  | false=>
   simp only [Bool.false_eq_true,if_false]
   refine⟨h.at _,h.at _,λb=>?_⟩
   cases b with
   | true=>exact h
   | false=>exact desc_rng f _ _ _ h⟩
theorem tail3_rng {n:Nat} {p:Array Nat} (h:Bd n p) (k r:Nat):RngP n (λx:Nat×Array Nat=>Bd n x.2) (kas_tail3 k r p):=by
 unfold kas_tail3
 refine RngP.bind (P:=λ_=>True) (λm _=>?_) (asc_rng (h.perm (rev_perm _ _ _)) _ _)
 exact h.perm (rev_perm _ _ _)
theorem descPart_rng {n:Nat} {p:Array Nat} (h:Bd n p) (k r:Nat):RngP n (λx:Nat×Array Nat=>Bd n x.2) (kas_descPart k r p):=by
 unfold kas_descPart
 refine RngP.bind (λx hx=>?_) (desc_rng _ _ _ _ h)
 split
 ·exact tail3_rng (hx.perm (rev_perm _ _ _)) _ _
 ·exact tail3_rng hx _ _
theorem count_rng {n:Nat} {p:Array Nat} (h:Bd n p) (r:Nat):RngP n (λx:Nat×Array Nat=>Bd n x.2) (kas_count r p):=by
 unfold kas_count
 refine RngP.bind (λm _=>?_) (asc_rng h _ _)
 split
 ·exact h
 ·split
  ·refine⟨h.at _,h.at _,λb=>?_⟩
   cases b with
   | true=>exact h
   | false=>exact descPart_rng (h.perm (rev_perm _ _ _)) _ _
  ·exact descPart_rng h _ _
theorem place_rng {n:Nat} {p:Array Nat} (h:Bd n p) (k:Nat):∀ f l r,RngP n (λ_=>True) (kas_place p k f l r)
 | 0,l,r=>trivial
 | f+1,l,r=>by
  unfold kas_place
  split
  ·exact trivial
  ·refine⟨h.at _,h.at _,λb=>?_⟩
   cases b with
   | true=>exact place_rng h k f _ _
   | false=>exact place_rng h k f _ _
theorem bin_rng {n:Nat}:∀ f (p:Array Nat) k,Bd n p->RngP n (λ_=>True) (kas_bin f p k)
 | 0,p,k,h=>trivial
 | f+1,p,k,h=>RngP.bind (λl _=>bin_rng f _ _ (h.perm (bubble_perm _ _ _))) (place_rng h k _ _ _)
theorem sort_rng {n:Nat} (h0:0<n):RngP n (λ_=>True) (kas_sort n):=by
 unfold kas_sort
 refine RngP.bind (λx hx=>?_) (count_rng ⟨h0,λv hv=>by simpa using hv⟩ n)
 split
 ·exact bin_rng _ _ _ hx
 ·exact trivial
theorem wp_of_ev {α:Type} {n:Nat} {P:α->Prop} {cmp:Nat->Nat->(Bool->Shared->Prop)->Shared->Prop} {lt:Nat->Nat->Bool} {I:Shared->Prop} {G:α->Shared->Prop}
  (hc:∀ i j s' C,i<n->j<n->I s'->(∀ s'',I s''->C (lt i j) s'')->cmp i j C s'):∀ {t:KasT α} {s:Shared},RngP n P t->I s->(∀ s',I s'->G (evT lt t) s')->t.kasWp cmp G s
 | .ret a,s,_,hI,hG=>hG s hI
 | .ask i j k,s,hr,hI,hG=>hc i j s _ hr.1 hr.2.1 hI λs'' hI''=>wp_of_ev hc (hr.2.2 _) hI'' hG
noncomputable def keyF (o:Int) (R:Nat->Int) (ln:Nat->Nat) (i:Nat):Int:=o * R i * 1000-(ln i:Int)
theorem cmp_key {o:Int} {R:Nat->Int} {ln:Nat->Nat} {i j:Nat} (ho:o=0\/o=1) (hi:ln i<1000) (hj:ln j<1000):decide (cmpF o R ln i j<0)=decide (keyF o R ln i<keyF o R ln j):=by
 unfold cmpF keyF
 rw [decide_eq_decide]
 refine byC0 λzn=>?_;((rcases ho with rfl | rfl))<;>(refine zn ?_;clear zn)
 ·simp only [Int.zero_mul,if_true]
  omega
 ·simp only [Int.one_mul]
  split<;>omega
section
variable {w:World} {A:Around} {s:Shared} {C r b:Addr} {o:Int} {P fI fL fM cM cO cB cR:Addr} {mg mb mN:SoV} {K:Frag} {kv:List (Int×Value)} {R:Nat->Int} {ls:List (List Nat)}
theorem LL.le {h h':Heap} {a:Addr} {ls:List (List Nat)} (x:LL h h a ls) (l:Le h h'):LL h' h' a ls:=by
 refine q1_2 x λvs h1 h2=>?_;clear x
 exact e1_2 vs (h1.at λo e=>l.get _ _ e) (Paired.imp (λl' v q=>by refine q1_2 q λa z1 hl=>?_;clear q;subst z1;exact e1_2 a rfl (hl.at λo e=>l.get _ _ e)) h2)
theorem key_lt {n i j:Nat} {x y ex ey:Addr} {Q:Bool->Shared->Prop} (ok:Ok (n+4) A) (S:St w mg mb mN K s.heap) (Cn:Con mg mb mN K) (Z:SvAt s.heap C r b o P fI fL fM cM cO cB cR) (ho:o=0\/o=1) (hd:s.heap.DictOf (intKind Pg w) r kv) (hi:∃ t,valueAt kv i=some (.int (R i) t)) (hj:∃ t,valueAt kv j=some (.int (R j) t))
  (hb:LL s.heap s.heap b ls) (hil:i<ls.length) (hjl:j<ls.length) (hll:∀ l∈ls,l.length<1000) (hls:ls.length<1000) (hx:KI s.heap C x ex i) (hy:KI s.heap C y ey j)
  (h:∀ s',Kp s s'->Q (decide (keyF o R (λi=>(ls.getD i []).length) i<keyF o R (λi=>(ls.getD i []).length) j)) s'):Wp w A (keyLt' oneType' (.ref x) (.ref y)) Q s:=by
 refine byC0 λzn=>?_
 refine q1_1 (Z.k) λN kat=>?_
 refine q1_2 (kat.frag) λK₁ X1 KF=>?_
 refine q1_1 (hx.obj) λtx hx1=>?_
 refine zn ?_;clear zn
 have len:∀ k,(ls.getD k []).length<1000:=λk=>by
  rw [List.getD_eq_getElem?_getD]
  cases e:ls[k]? with
  | none=>simp
  | some l=>exact hll l (List.mem_of_getElem? e)
 rw [keyLt'_oneType,oneLt'_eq]
 simp only [if_true]
 refine wpAny_bind (wpAny_cRoomFor ok.units ?_)
 refine wpAny_bind (ifBound_K X1 (inst_ki hx1 hx.dict) KF.lt KF.lfn (Wp.to (lt_call (n:=n+1) ok S Cn Z ho hd hi hj hb hil hjl hll hls hx hy) λv s' q=>?_))
 refine byC0 λzn=>?_;refine q0_2 q λk z1=>?_;clear q;subst z1;refine zn ?_;clear zn
 dsimp only
 rw [cmp_key ho (len _) (len _)]
 exact wpAny_truthy_bool (h s' k)
end
theorem Paired.getTo {β γ:Type} {B:β->γ->Prop} {l1:List β} {l2:List γ} (p:Paired B l1 l2):∀ (i:Nat) (b:β),l1[i]?=some b->∃ v,l2[i]?=some v/\B b v:=by
 induction p with
 | nil=>intro i v e;simp at e
 | cons q _ ih=>
  intro i v e
  cases i with
  | zero=>simp at e;subst e;exact e1_2 _ rfl q
  | succ i=>simpa using ih i v (by simpa using e)
section
variable {w:World} {A:Around} {C r b:Addr} {o:Int} {P fI fL fM cM cO cB cR:Addr} {mg mb mN:SoV} {K:Frag} {kv:List (Int×Value)} {R:Nat->Int} {ls:List (List Nat)} {ns:List Nat} {vs:List Value} {D:Addr} {b₀:Heap}
structure SI (s₀:Shared) (D kS C:Addr) (e1:Nat) (kA:Array Value) (e:Nat) (l:List Nat) (s:Shared):Prop where
 same:∃ h' tk,s={ s₀ with heap:=h',toks:=tk }
 keep:∀ a oa,a≠D->s₀.heap.get? a=some oa->s.heap.get? a=some oa
 d:s.heap.get? D=some (seqObj "list" #[] e1)
 ks:s.heap.get? kS=some (seqObj "list" kA e)
 ins:Paired (λi v=>∃ a ea,v=.ref a/\KI s.heap C a ea i) l kA.toList
theorem SI.kp {s₀ s s':Shared} {D kS C:Addr} {e1 e:Nat} {kA:Array Value} {l:List Nat} (x:SI s₀ D kS C e1 kA e l s) (k:Kp s s'):SI s₀ D kS C e1 kA e l s':=
 ⟨same_trans x.same k.same,λa oa n q=>k.le.get _ _ (x.keep a oa n q),k.le.get _ _ x.d,k.le.get _ _ x.ks,Paired.imp (λi v q=>by refine q2_2 q λa ea z1 z2=>?_;clear q;subst z1;revert z2;intro q;exact⟨a,ea,rfl,q.get λc _ oc e=>k.le.get _ _ e⟩) x.ins⟩
end
namespace Z15
noncomputable section
def zQ (w:World) (A:Around) (C r b:Addr) (o:Int) (P fI fL fM cM cO cB cR:Addr) (mg mb mN:SoV) (K:Frag) (kv:List (Int×Value)) (R:Nat->Int) (ls:List (List Nat)) (ns:List Nat) (vs:List Value) (D:Addr) (b₀:Heap) (n:Nat) (s:Shared):Prop:=∀ (ok:Ok (n+6) A) (S:St w mg mb mN K b₀) (Cn:Con mg mb mN K) (Z:SvAt b₀ C r b o P fI fL fM cM cO cB cR) (ho:o=0\/o=1) (hd:b₀.DictOf (intKind Pg w) r kv) (hR:∀ i∈ns,∃ t,valueAt kv i=some (.int (R i) t)) (hb:LL b₀ b₀ b ls) (hlt:∀ i∈ns,i<ls.length) (hll:∀ l∈ls,l.length<1000) (hls:ls.length<1000) (l0:Le b₀ s.heap) (hD:b₀.get? D=none) (hDs:s.heap.get? D=some (seqObj "list" vs.toArray 0)) (hp:Paired IsN ns vs) (hn:ns.length<64),Wp w A (ksk_tree D (.ref C) false) (λfin s'=>fin=.done (.ret .none)/\Ev [D] s s'/\∃ ms us c,s'.heap.get? D=some (seqObj "list" (List.toArray us) c)/\Paired IsN ms us/\ms.Perm ns/\∀ i j,i<=j->j<ms.length->keyF o R (λi=>(ls.getD i []).length) (ms.getD i 0)<=keyF o R (λi=>(ls.getD i []).length) (ms.getD j 0)) s
abbrev zY:=((((World×(Around×Addr))×(Addr×(Addr×Int)))×((Addr×(Addr×Addr))×((Addr×Addr)×(Addr×Addr))))×(((Addr×(SoV×SoV))×((SoV×Frag)×((List (Int×Value))×(Nat->Int))))×(((List (List Nat))×((List Nat)×(List Value)))×((Addr×Heap)×(Nat×Shared)))))
def zR (p:zY):=zQ p.1.1.1.1 p.1.1.1.2.1 p.1.1.1.2.2 p.1.1.2.1 p.1.1.2.2.1 p.1.1.2.2.2 p.1.2.1.1 p.1.2.1.2.1 p.1.2.1.2.2 p.1.2.2.1.1 p.1.2.2.1.2 p.1.2.2.2.1 p.1.2.2.2.2 p.2.1.1.1 p.2.1.1.2.1 p.2.1.1.2.2 p.2.1.2.1.1 p.2.1.2.1.2 p.2.1.2.2.1 p.2.1.2.2.2 p.2.2.1.1 p.2.2.1.2.1 p.2.2.1.2.2 p.2.2.2.1.1 p.2.2.2.1.2 p.2.2.2.2.1 p.2.2.2.2.2
def zc:zY:=eps1 (neP (neP (neP (neP neW (neP neA neI)) neI) neI) (neP neI (neP neI (neP neI (neP neI neS))))) zR
def w:=zc.1.1.1.1
def A:=zc.1.1.1.2.1
def C:=zc.1.1.1.2.2
def r:=zc.1.1.2.1
def b:=zc.1.1.2.2.1
def o:=zc.1.1.2.2.2
def P:=zc.1.2.1.1
def fI:=zc.1.2.1.2.1
def fL:=zc.1.2.1.2.2
def fM:=zc.1.2.2.1.1
def cM:=zc.1.2.2.1.2
def cO:=zc.1.2.2.2.1
def cB:=zc.1.2.2.2.2
def cR:=zc.2.1.1.1
def mg:=zc.2.1.1.2.1
def mb:=zc.2.1.1.2.2
def mN:=zc.2.1.2.1.1
def K:=zc.2.1.2.1.2
def kv:=zc.2.1.2.2.1
def R:=zc.2.1.2.2.2
def ls:=zc.2.2.1.1
def ns:=zc.2.2.1.2.1
def vs:=zc.2.2.1.2.2
def D:=zc.2.2.2.1.1
def b₀:=zc.2.2.2.1.2
def n:=zc.2.2.2.2.1
def s:=zc.2.2.2.2.2
theorem zaux:zQ w A C r b o P fI fL fM cM cO cB cR mg mb mN K kv R ls ns vs D b₀ n s:=by
 intro ok S Cn Z ho hd hR hb hlt hll hls l0 hD hDs hp hn
 have hvl:vs.length=ns.length:=hp.length.symm
 obtain ⟨e1,ho1⟩:∃ e1,(s.heap.update D (Obj.mapSeq λ_=>(#[]:Array Value))).get? D=some (seqObj "list" #[] e1):=⟨_,get?_update_seq hDs λ_=>#[]⟩
 unfold ksk_tree
 refine wpAny_bind (listItems_at hDs rfl ?_)
 refine wpAny_bind (listUpdate_at hDs rfl ?_ (by rw [List.size_toArray,sizeLine_eq];omega) (Nat.zero_le _))
 refine wpAny_bind (seqEpoch_at ho1 rfl ?_)
 refine wpAny_bind (wpAny_newTuple ?_ (by show vs.length<=_;rw [sizeLine_eq];omega))
 refine wpAny_bind (wpAny_newList ?_ (Nat.zero_le _))
 refine wpAny_holding ?_
 have s1:=Heap.SameBut.update s.heap D (Obj.mapSeq λ_=>(#[]:Array Value))
 generalize hH:((s.heap.update D (Obj.mapSeq λ_=>(#[]:Array Value))).push (seqObj "tuple" vs.toArray 0))=H
 have hHs:H.objs.size=s.heap.objs.size+1:=by rw [← hH,size_push',Heap.size_update]
 have hDlt:D<s.heap.objs.size:=Heap.lt_size hDs
 have hkD:H.objs.size≠D:=by rw [hHs];exact Nat.ne_of_gt (Nat.lt_succ_of_lt hDlt)
 have hkn:s.heap.get? H.objs.size=none:=none_ge (by rw [hHs];exact Nat.le_succ _)
 have I0:SI s D H.objs.size C e1 #[] 0 [] { s with heap:=H.push (seqObj "list" #[] 0) }:=by
  refine⟨e2_1 _ _ rfl,λa oa na q=>?_,?_,Heap.get?_push_size _ rfl,.nil⟩
  ·refine Heap.get?_push_of_some _ ?_
   rw [← hH]
   exact Heap.get?_push_of_some _ ((s1.2 a na).trans q)
  ·refine Heap.get?_push_of_some _ ?_
   rw [← hH]
   exact Heap.get?_push_of_some _ ho1
 generalize hkS:H.objs.size=kS at hkD hkn I0
 have leb:∀ {kA:Array Value} {e:Nat} {l:List Nat} {s':Shared},SI s D kS C e1 kA e l s'->Le b₀ s'.heap:=λx=>⟨λa oa q=>x.keep a oa (λz=>by rw [z,hD] at q;cases q) (l0.get _ _ q)⟩
 unfold ksk_rest
 refine wpAny_bind (wpAny_rule ?_)
 rw [List.forIn_toArray]
 refine wpAny_bind (ksk_fold (λi s'=>∃ kA e,SI s D kS C e1 kA e (ns.take i) s') vs 0 _ (e2_1 (#[]) 0 (by simpa using I0)) ?step ?done)
 case step=>
  (intro j x s' hx zr;refine q2_1 zr λkA e I=>?_;clear zr)
  simp only [Nat.zero_add] at I ⊢
  refine byC0 λzn=>?_;refine q1_2 (Paired.getAt hp j x hx) λi hi z1=>?_;refine q1_1 z1 λt z2=>?_;clear z1;subst z2;refine zn ?_;clear zn
  have hj:j<ns.length:=(List.getElem?_eq_some_iff.mp hi).1
  have hz:kA.size<=ns.length:=by
   have h1:=I.ins.length
   have h2:kA.toList.length=kA.size:=Array.length_toList
   rw [List.length_take] at h1
   omega
  refine wpAny_bind (wpAny_attempt (Wp.to (kx_new (n:=n+4) ok ((S.le (leb I)).lim) (Z.le (leb I))) λv s2 q=>?_))
  refine byC0 λzn=>?_;refine q2_2 q λa ea z1 z2=>?_;clear q;subst z1;refine q0_4 z2 λk hK na ne=>?_;clear z2;refine zn ?_;clear zn
  have I2:=I.kp k
  dsimp only
  have su:=Heap.SameBut.update s2.heap kS (Obj.mapSeq (·.push (.ref a)))
  obtain ⟨c2,hc2⟩:∃ c2,(s2.heap.update kS (Obj.mapSeq (·.push (.ref a)))).get? kS=some (seqObj "list" (kA.push (.ref a)) c2):=⟨_,get?_update_seq I2.ks (·.push (.ref a))⟩
  refine wpAny_bind (listUpdate_at I2.ks rfl ?_ (by rw [sizeLine_eq];omega) (Nat.le_trans (Nat.le_of_eq (Array.size_push ..)) (by rw [sizeLine_eq];omega)))
  have nk:∀ {a' ea':Addr} {i':Nat},KI s2.heap C a' ea' i'->KI (s2.heap.update kS (Obj.mapSeq (·.push (.ref a)))) C a' ea' i':=λ{a' ea' i'} q=>q.get λc hc oc e'=>by
   refine (su.2 c ?_).trans e'
   refine q1_1 (q.obj) λtq q1=>?_
   (rcases hc with z0 | z0)<;>(replace z0:=Eq.symm z0;subst z0)
   ·exact ne_cls' q1 I2.ks (by simp)
   ·exact ne_cls' q.dict I2.ks (by simp)
  refine wpAny_pure (e0_2 rfl (e2_1 (kA.push (.ref a)) c2 ⟨same_trans I2.same (e2_1 _ _ rfl),λc oc nc q=>?_,(su.2 D hkD.symm).trans I2.d,hc2,?_⟩))
  ·exact (su.2 c (λz=>by rw [z,hkn] at q;cases q)).trans (I2.keep c oc nc q)
  ·rw [List.take_add_one,hi,Option.toList_some,Array.toList_push]
   exact Paired.app (Paired.imp (λi' v q=>by refine byC0 λzn=>?_;refine q2_2 q λa' ea' z1 z2=>?_;clear q;subst z1;revert z2;intro q;refine zn ?_;clear zn;exact⟨a',ea',rfl,nk q⟩) I2.ins) (.cons ⟨a,ea,rfl,nk hK⟩ .nil)
 case done=>
  (intro s3 zr;refine q2_1 zr λkA e I=>?_;clear zr)
  rw [Nat.zero_add,hvl,List.take_length] at I
  have hkz:kA.size=ns.length:=by
   have h1:=I.ins.length
   have h2:kA.toList.length=kA.size:=Array.length_toList
   omega
  have hzz:(kA.zip vs.toArray).size=ns.length:=by
   rw [Array.size_zip]
   have h2:vs.toArray.size=vs.length:=by simp
   omega
  refine wpAny_bind (listItems_at I.ks rfl ?_)
  have fin:∀ (st:SortSt) (s4:Shared) (p:Array Nat),SI s D kS C e1 kA e ns s4->p.Perm (List.toArray (List.range ns.length))->p.size=ns.length->arrOf st=p.map (kas_item (kA.zip vs.toArray))->failedOf st=none->
    (∀ i j,i<=j->j<ns.length->keyF o R (λi=>(ls.getD i []).length) (ns.getD (p.getD i 0) 0)<=keyF o R (λi=>(ls.getD i []).length) (ns.getD (p.getD j 0) 0))->
    Wp w A (ksk_tail D false e1 (.ref kS) st) (λfin s'=>fin=.done (.ret .none)/\Ev [D] s s'/\∃ ms us c,s'.heap.get? D=some (seqObj "list" (List.toArray us) c)/\Paired IsN ms us/\ms.Perm ns/\
     ∀ i j,i<=j->j<ms.length->keyF o R (λi=>(ls.getD i []).length) (ms.getD i 0)<=keyF o R (λi=>(ls.getD i []).length) (ms.getD j 0)) s4:=by
   intro st s4 p I4 hpp hpz har hf hso
   have bd:∀ k∈p.toList,k<ns.length:=λk hk=>by
    have:=hpp.mem_iff.mp (Array.mem_toList_iff.mp hk)
    simpa using this
   have hout:(arrOf st).map (·.2)=List.toArray (p.toList.map λi=>vs.getD i Value.none):=by
    rw [har,Array.map_map]
    apply Array.toList_inj.mp
    rw [Array.toList_map]
    refine List.map_congr_left λi hi=>?_
    have hi':=bd i hi
    show (kas_item (kA.zip vs.toArray) i).2=_
    unfold kas_item
    have hz:i<(kA.zip vs.toArray).size:=by omega
    rw [show (kA.zip vs.toArray).getD i (Value.none,Value.none)=(kA.zip vs.toArray)[i] from by rw [Array.getD_eq_getD_getElem?,Array.getElem?_eq_getElem hz];rfl]
    simp [Array.getElem_zip]
    rw [List.getElem?_eq_getElem (by omega)]
    rfl
   unfold ksk_tail
   dsimp only
   have s5:=Heap.SameBut.update s4.heap kS (Obj.mapSeq λ_=>(#[]:Array Value))
   have hD5:(s4.heap.update kS (Obj.mapSeq λ_=>(#[]:Array Value))).get? D=some (seqObj "list" #[] e1):=(s5.2 D hkD.symm).trans I4.d
   refine wpAny_bind (listUpdate_at I4.ks rfl ?_ (by rw [hkz,sizeLine_eq];omega) (Nat.zero_le _))
   refine wpAny_bind (wpAny_letGo ?_)
   refine wpAny_bind (seqEpoch_at hD5 rfl ?_)
   simp only [Bool.false_eq_true,if_false]
   rw [hout]
   have s6:=Heap.SameBut.update (s4.heap.update kS (Obj.mapSeq λ_=>(#[]:Array Value))) D (Obj.mapSeq λ_=>List.toArray (p.toList.map λi=>vs.getD i Value.none))
   obtain ⟨c2,hc2⟩:∃ c2,((s4.heap.update kS (Obj.mapSeq λ_=>(#[]:Array Value))).update D (Obj.mapSeq λ_=>List.toArray (p.toList.map λi=>vs.getD i Value.none))).get? D=some (seqObj "list" (List.toArray (p.toList.map λi=>vs.getD i Value.none)) c2):=⟨_,get?_update_seq hD5 λ_=>List.toArray (p.toList.map λi=>vs.getD i Value.none)⟩
   refine wpAny_bind (listUpdate_at hD5 rfl ?_ (Nat.zero_le _) (by simp [hpz,sizeLine_eq];omega))
   rw [hf]
   simp only [bne_self_eq_false,Bool.false_eq_true,if_false]
   refine wpAny_pure (e0_3 rfl ⟨same_trans I4.same (e2_1 _ _ rfl),λc oc hc q=>?_⟩ (e3_4 (p.toList.map λi=>ns.getD i 0) (p.toList.map λi=>vs.getD i Value.none) c2 hc2 ?_ ?_ (λi j hij hj=>?_)))
   ·have nD:c≠D:=λz=>hc (by simp [z])
    exact (s6.2 c nD).trans ((s5.2 c (λz=>by rw [z,hkn] at q;cases q)).trans (I4.keep c oc nD q))
   ·have:∀ l:List Nat,(∀ k∈l,k<ns.length)->Paired IsN (l.map λi=>ns.getD i 0) (l.map λi=>vs.getD i Value.none):=by
     intro l
     induction l with
     | nil=>intro _;exact .nil
     | cons a r ih=>
      intro h
      refine .cons ?_ (ih λk hk=>h k (zT hk))
      have ha:=h a (zH ..)
      refine q1_2 (Paired.getTo hp a ns[a] (List.getElem?_eq_getElem ha)) λv hv hN=>?_
      show IsN (ns.getD a 0) (vs.getD a Value.none)
      rw [List.getD_eq_getElem?_getD,List.getD_eq_getElem?_getD,hv,List.getElem?_eq_getElem ha]
      exact hN
    exact this _ bd
   ·have h1:p.toList.Perm (List.range ns.length):=Array.perm_iff_toList_perm.mp hpp
    have h2:=h1.map λi=>ns.getD i 0
    have h3:(List.range ns.length).map (λi=>ns.getD i 0)=ns:=by
     apply List.ext_getElem?
     intro i
     rw [List.getElem?_map]
     by_cases hi:i<ns.length
     ·rw [List.getElem?_range hi,List.getElem?_eq_getElem hi]
      simp [hi]
     ·rw [List.getElem?_eq_none (by simpa using hi),List.getElem?_eq_none (by omega)]
      rfl
    rw [h3] at h2
    exact h2
   ·rw [List.length_map,Array.length_toList,hpz] at hj
    have e:∀ k,k<ns.length->(p.toList.map λi=>ns.getD i 0).getD k 0=ns.getD (p.getD k 0) 0:=λk hk=>by
     rw [List.getD_eq_getElem?_getD,List.getElem?_map,Array.getElem?_toList,Array.getD_eq_getD_getElem?,Array.getElem?_eq_getElem (by omega)]
     rfl
    rw [e i (by omega),e j hj]
    exact hso i j hij hj
  unfold ksk_end
  dsimp only
  simp only [Bool.false_eq_true,if_false]
  by_cases h2:vs.toArray.size<2
  ·rw [if_pos h2,if_pos h2]
   rw [List.size_toArray,hvl] at h2
   refine wpAny_bind (wpAny_pure (wpAny_bind (wpAny_pure ?_)))
   dsimp only
   refine fin _ s3 (List.toArray (List.range ns.length)) I (Array.Perm.refl _) (by simp) ?_ rfl λi j hij hj=>?_
   ·have:=kas_range (kA.zip vs.toArray)
    rw [hzz] at this
    exact this.symm
   ·have:i=j:=by omega
    rw [this];exact Int.le_refl _
  ·rw [if_neg h2,if_neg h2]
   rw [List.size_toArray,hvl] at h2
   have hkl:kA.toList.toArray=kA:=by simp
   refine wpAny_bind ?_
   rw [← hkl]
   refine kas_kind (T:=.ref C) (by rw [Array.length_toList];omega) (λv hv=>?_) (by simp) (by simp) ?_
   ·refine q1_1 (List.getElem?_of_mem hv) λk hk=>?_
    refine byC0 λzn=>?_
    refine q1_2 (Paired.getAt I.ins k v hk) λi hi z1=>?_;refine q2_2 z1 λa ea z2 q=>?_;clear z1;subst z2
    refine q1_1 (q.obj) λtq q1=>?_
    refine zn ?_;clear zn
    exact (inst_ki q1 q.dict).type
   rw [hkl]
   have est:SortSt.mk' oneType' (kA.zip vs.toArray) #[] 7 none=kas_st oneType' (kA.zip vs.toArray) (List.toArray (List.range ns.length)):=by
    have:=kas_range (kA.zip vs.toArray)
    rw [hzz] at this
    show _=SortSt.mk' oneType' ((List.toArray (List.range ns.length)).map (kas_item (kA.zip vs.toArray))) #[] 7 none
    rw [this]
   rw [est]
   refine q0_3 (sort_ev (key:=λi=>keyF o R (λi=>(ls.getD i []).length) (ns.getD i 0)) ns.length (by omega)) λev1 ev2 ev3=>?_
   refine wpAny_bind (Wp.to (kas_runs (E:=Bot) (Q:=λ_ st' s'=>∃ p:Array Nat,p=evT (kLt λi=>keyF o R (λi=>(ls.getD i []).length) (ns.getD i 0)) (kas_sort ns.length)/\arrOf st'=p.map (kas_item (kA.zip vs.toArray))/\failedOf st'=none/\SI s D kS C e1 kA e ns s')
    (G:=λp s'=>p=evT (kLt λi=>keyF o R (λi=>(ls.getD i []).length) (ns.getD i 0)) (kas_sort ns.length)/\SI s D kS C e1 kA e ns s') (by omega) hn (λp' st' s' a1 a2 a3 a4=>e1_4 p' a4.1 a2 a3 a4.2) ?_) λx s' q=>?_)
   ·refine wp_of_ev (I:=λs'=>SI s D kS C e1 kA e ns s') (lt:=kLt λi=>keyF o R (λi=>(ls.getD i []).length) (ns.getD i 0)) (λi j s' Cc hi hj hI hCc=>?_) (sort_rng (by omega)) I λs' hI=>⟨rfl,hI⟩
    have item:∀ k,k<ns.length->∃ a ea,(kas_item (kA.zip vs.toArray) k).1=.ref a/\KI s'.heap C a ea (ns.getD k 0):=λk hk=>by
     refine byC0 λzn=>?_;refine q1_2 (Paired.getTo hI.ins k ns[k] (List.getElem?_eq_getElem hk)) λv hv z1=>?_;refine q2_2 z1 λa ea z2 q=>?_;clear z1;subst z2;refine zn ?_;clear zn
     refine e2_2 a ea ?_ ?_
     ·unfold kas_item
      have hz:k<(kA.zip vs.toArray).size:=by omega
      rw [show (kA.zip vs.toArray).getD k (Value.none,Value.none)=(kA.zip vs.toArray)[k] from by rw [Array.getD_eq_getD_getElem?,Array.getElem?_eq_getElem hz];rfl]
      rw [Array.getElem_zip]
      rw [Array.getElem?_toList,Array.getElem?_eq_getElem (by omega)] at hv
      exact Option.some.inj hv
     ·rw [List.getD_eq_getElem?_getD,List.getElem?_eq_getElem hk]
      exact q
    refine byC0 λzn=>?_
    refine q2_2 (item i hi) λa ea ea1 qa=>?_
    refine q2_2 (item j hj) λa' ea' ea2 qa'=>?_
    refine zn ?_;clear zn
    have mem:∀ k,k<ns.length->ns.getD k 0∈ns:=λk hk=>by
     rw [List.getD_eq_getElem?_getD,List.getElem?_eq_getElem hk]
     exact List.getElem_mem hk
    unfold kas_cmp
    rw [ea1,ea2]
    have lb:=leb hI
    exact wpAny_mono (key_lt (n:=n+2) ok (S.le lb) Cn (Z.le lb) ho (hd.keep lb.get) (hR _ (mem i hi)) (hR _ (mem j hj)) (hb.le lb) (hlt _ (mem i hi)) (hlt _ (mem j hj)) hll hls qa qa' λs'' k=>hCc s'' (hI.kp k)) (λ_ _ z=>z) λ_ _ z=>z.elim
   ·refine byC0 λzn=>?_
    rcases x with ⟨⟨⟩,st'⟩
    refine q1_2 q λp z1 z2=>?_;clear q;subst z1;refine q0_3 z2 λhar hf hI=>?_;clear z2
    refine zn ?_;clear zn
    dsimp only
    exact fin st' s' _ hI ev1 ev2 har hf λi j hij hj=>ev3.le j i hij hj
theorem zall:∀ p,zR p:=all1 zaux
end
end Z15
theorem sort_tree {w A C r b o P fI fL fM cM cO cB cR mg mb mN K kv R ls ns vs D b₀ n s}:Z15.zQ w A C r b o P fI fL fM cM cO cB cR mg mb mN K kv R ls ns vs D b₀ n s:=Z15.zall ((((w,(A,C)),(r,(b,o))),((P,(fI,fL)),((fM,cM),(cO,cB)))),(((cR,(mg,mb)),((mN,K),(kv,R))),((ls,(ns,vs)),((D,b₀),(n,s)))))
section
variable {w:World} {A:Around} {s:Shared} {C r b:Addr} {o:Int} {P fI fL fM cM cO cB cR:Addr} {mg mb mN:SoV} {K:Frag} {kv:List (Int×Value)} {R:Nat->Int} {ls:List (List Nat)} {ns:List Nat} {vs:List Value} {l:Addr}
theorem sorted_call {n:Nat} (ok:Ok (n+8) A) (S:St w mg mb mN K s.heap) (Cn:Con mg mb mN K) (Z:SvAt s.heap C r b o P fI fL fM cM cO cB cR) (ho:o=0\/o=1) (hd:s.heap.DictOf (intKind Pg w) r kv) (hR:∀ i∈ns,∃ t,valueAt kv i=some (.int (R i) t))
  (hb:LL s.heap s.heap b ls) (hlt:∀ i∈ns,i<ls.length) (hll:∀ l∈ls,l.length<1000) (hls:ls.length<1000) (hl:s.heap.IsList l vs.toArray) (hp:Paired IsN ns vs) (hn:ns.length<64) :
  Wp w A (call (.builtin "sorted") [.ref l] [(sO "key",.ref C)]) (λv s'=>∃ D ms us,v=.ref D/\Kp s s'/\s.heap.get? D=none/\s'.heap.PlainList D (List.toArray us)/\Paired IsN ms us/\ms.Perm ns/\
   ∀ i j,i<=j->j<ms.length->keyF o R (λi=>(ls.getD i []).length) (ms.getD i 0)<=keyF o R (λi=>(ls.getD i []).length) (ms.getD j 0)) s:=by
 have hvl:vs.length=ns.length:=hp.length.symm
 refine call_function_entry_kw kind_sorted plain_sorted entry_sorted (ksk_s1 _ _) ?_
 unfold Builtin.«sorted»
 refine wpAny_bind (m:=checkCount "sorted" 1 1 _) (wpAny_pure ?_)
 refine wpAny_bind (collect_list hl ?_ (by rw [sizeLine_eq];omega))
 refine wpAny_bind (wpAny_newList ?_ (by rw [sizeLine_eq];omega))
 dsimp only
 have hsz:((s.heap.push (seqObj "list" #[] 0)).update s.heap.objs.size (Obj.mapSeq (·++vs.toArray))).objs.size=s.heap.objs.size+1:=by
  rw [Heap.size_update,size_push']
 have hne:∀ {c:Nat} {oc:Obj},s.heap.get? c=some oc->c≠s.heap.objs.size:=λq=>Nat.ne_of_lt (Heap.lt_size q)
 show Wp w A.in1 _ _ { s with heap:=((s.heap.push (seqObj "list" #[] 0)).update s.heap.objs.size (Obj.mapSeq (·++vs.toArray))).push (seqObj "list" vs.toArray 0) }
 generalize hH:(s.heap.push (seqObj "list" #[] 0)).update s.heap.objs.size (Obj.mapSeq (·++vs.toArray))=H at hsz
 have lH:Le s.heap (H.push (seqObj "list" vs.toArray 0)):=⟨λc oc q=>by
  refine Heap.get?_push_of_some _ ?_
  rw [← hH,Heap.get?_update_ne _ _ _ _ (hne q)]
  exact Heap.get?_push_of_some _ q⟩
 have hoL:(H.push (seqObj "list" vs.toArray 0)).get? H.objs.size=some (seqObj "list" vs.toArray 0):=Heap.get?_push_size _ rfl
 have hDn:s.heap.get? H.objs.size=none:=none_ge (by rw [hsz];exact Nat.le_succ _)
 generalize H.push (seqObj "list" vs.toArray 0)=H2 at lH hoL
 generalize H.objs.size=D at hoL hDn
 refine wpAny_bind (wpAny_holding (wpAny_call_entry_kw slot_list_sort (e1_2 _ hoL rfl) entry_list_sort ?body (ksk_l1 _ _)))
 case body=>
  rw [ksk_t1]
  refine Wp.to (sort_tree (b₀:=s.heap) (s:={ s with heap:=H2 }) (n:=n) ok.in1.in1 S Cn Z ho hd hR hb hlt hll hls lH hDn hoL hp hn) λfin s' q=>?_
  refine byC0 λzn=>?_;refine q0_2 q λz1 z2=>?_;clear q;subst z1;refine s3_4 z2 λE ms us c hD hpm hpe hso=>?_;clear z2;refine zn ?_;clear zn
  refine e1_2 _ rfl (wpAny_pure (e1_2 _ rfl (e3_7 D ms us rfl ⟨same_trans (e2_1 _ _ rfl) E.same,⟨λa oa q=>E.get a oa (λhm=>by rw [zS hm,hDn] at q;cases q) (lH.get _ _ q)⟩⟩ hDn ⟨c,hD⟩ hpm hpe hso)))
end
section
variable {w:World} {A:Around} {s:Shared} {b h:Heap} {env:Env}
theorem Subscript_str {M:Model} {E:Value->Shared->Prop} {value:Expr} {n:Str} {p pos:Pos} {Q:Value->Shared->Prop}
  (h:wpAny M A (eval value env) (λo s1=>(∃ x t,o=.str x t)/\wpAny M A (eval (.Name n p) env) (λi s2=>ItemOn M A E o i Q s2) E s1) E s)
  (ht:autoParam (∀ x t r,letTemporaryGo value (.str x t) r=pure ()) auI3):wpAny M A (eval (.Subscript value (.Name n p) pos) env) Q E s:=by
 rw [eval_Subscript]
 refine wpAny_bind (wpAny_mono h (λo s1 h₁=>?_) λ_ _ x=>x)
 refine byC0 λzn=>?_;refine q0_2 h₁ λz1 z3=>?_;clear h₁;refine q2_1 z1 λx t z2=>?_;clear z1;subst z2;revert z3;intro h₁;refine zn ?_;clear zn
 refine wpAny_bind (wpAny_holding (wpAny_mono h₁ (λi s2 h₂=>wpAny_bind (wpAny_standAt ?_)) λ_ _ x=>x))
 refine q2_3 h₂ λT id hl hT hg=>?_;clear h₂
 refine wpAny_bind ?_
 rw [getitemInPython_of_ne hT.not_modules]
 refine wpAny_bind (wpAny_specialOf hT hl (wpAny_pure (wpAny_bind ?_)))
 exact wpAny_operating (wpAny_mono hg (λr s3 h3=>wpAny_bind (wpAny_of_eq (ht x t r) (wpAny_pure h3))) λ_ _ x=>x)
theorem Yd.sitem {x:Str} {k0:Nat} {p0 p pos:Pos} {n:Str} {k:Nat} {c:Nat} (hn:Yd w A b h env (.Name n p) (IsI (k:Int))) (hc:x.cps[k]?=some c) (hk:k<2 ^ 62) :
  Yd w A b h env (.Subscript (.Constant (.str x) k0 p0) (.Name n p) pos) (IsS ⟨#[c]⟩):=λs hb hs=>by
 refine Subscript_str ((Yd.str (w:=w) (A:=A) (b:=b) (h:=h) (env:=env) s hb hs).to λu s1 q=>?_) (by intro x t r;rfl)
 refine byC0 λzn=>?_;refine q1_1 (q.2 _ (hb.trans q.1.le) (Nw.self _ _)) λt z1=>?_;subst z1;refine zn ?_;clear zn
 refine⟨e2_1 x t rfl,(hn s1 (hb.trans q.1.le) (hs.trans q.1.le)).to λi s2 q2=>?_⟩
 refine byC0 λzn=>?_;refine q1_1 (q2.2 s2.heap (hb.trans (q.1.le.trans q2.1.le)) (Nw.self _ _)) λt' z1=>?_;subst z1;refine zn ?_;clear zn
 refine e2_3 ("str") ("str.__getitem__") slot_str_getitem.lookup (typeIs_str s2 x t) (PyProof.Rows.getItem_str (c:=c) ?_ ?_ ⟨(q.1.trans q2.1).trans (Kp.tok s2 _),λ_ _ _=>⟨_,rfl⟩⟩)
 ·have h1:¬ ((k:Int) < -(2 ^ 63:Int)):=by omega
  have h2:¬ ((k:Int) ≥ 2 ^ 63):=by omega
  rw [decide_eq_false h1,decide_eq_false h2];rfl
 ·have hl:k<x.length:=by
   have:=(Array.getElem?_eq_some_iff.mp hc).1
   exact this
  have:seqIndex? (k:Int) x.length=some k:=by
   unfold seqIndex?
   simp
   omega
  rw [this]
  exact hc
theorem Yd.adds {l r:Expr} {p:Pos} {x y:Str} (hx:Yd w A b h env l (IsS x)) (hy:Yd w A b h env r (IsS y)) (hsz:x.length+y.length<=sizeLine):Yd w A b h env (.BinOp l .Add r p) (IsS (x++y)):=
 hx.bin hy λu v s _ _ hu hv=>by refine q1_1 hu λt z1=>?_;clear hu;subst z1;refine byC0 λzn=>?_;refine q1_1 hv λt' z1=>?_;clear hv;subst z1;refine zn ?_;clear zn;exact PyProof.Rows.add_str (λt2 tk=>⟨Kp.tok s _,λ_ _ _=>⟨_,rfl⟩⟩) hsz
theorem Yd.lens {x:Str} {p q:Pos} {e:Expr} {y:Str} (V:Var h env x (.builtin "len")) (he:Yd w A b h env e (IsS y)) (hsz:y.length<2 ^ 62) (hd:autoParam ((x == ("__debug__" : Str))=false) auD) (hst:autoParam (starEach [e] env=(false,eval e env)::starEach [] env) auR) :
  Yd w A b h env (.Call (.Name x p) [e] [] q) (IsI (y.length:Int)):=
 Yd.callB V (Yds.one he hst) (λws s' hb' hs' q=>by
   refine v1 q λy1 ey a=>?_;subst ey
   refine byC0 λzn=>?_;refine q1_1 a λt z1=>?_;clear a;subst z1;refine zn ?_;clear zn
   exact PyProof.Rows.len_str (by omega) ⟨⟨e2_1 _ _ rfl,Le.refl _⟩,λg _ _=>⟨_,rfl⟩⟩) hd hst
end
section
variable {w:World} {A:Around} {s₀ s:Shared} {b:Heap} {X:List Addr} {env:Env} {own:List (Str×Addr)} {m cm:SoV}
theorem ex_augS {x:Str} {px pos:Pos} {e:Expr} {u y:Str} {t:Tok} (I:InF s₀ b X env own m cm s) (hk:env.scope.kind=.function) (hl:env.kindOf x=some .local) (hv:m x=some (.str u t)) (hY:Yd w A b s.heap env e (IsS y)) (hsz:u.length+y.length<=sizeLine) :
  Wp w A (exec (.AugAssign (.Name x px) .Add e pos) env) (λfl s'=>fl=.next/\Ev (ft env own) s s'/\∃ t',InF s₀ b X env own (up m x (.str (u++y) t')) cm s') s:=by
 refine wpAny_AugAssign_Name (I.fs.var hk hl hv w A s _ _ (Le.refl _) ((hY s I.le (Le.refl _)).to λv s1 q=>?_))
 refine byC0 λzn=>?_;refine q1_1 (q.2 _ (I.le.trans q.1.le) (Nw.self _ _)) λt' z1=>?_;subst z1;refine zn ?_;clear zn
 refine PyProof.Rows.iadd_str (λt2 tk=>?_) hsz
 have I1:=(I.kp q.1).kp (Kp.tok s1 tk)
 refine (sto_loc I1.fs hk hl).to λ_ s2 q2=>?_
 exact e0_3 rfl ((q.1.trans (Kp.tok s1 tk)).ev.trans q2.1) (e1_1 t2 (I1.ev' q2.1 (λa ha=>.inl ha) q2.2 (λa ha hm=>absurd hm (I1.apart a ha))))
theorem ex_augI {x:Str} {px pos:Pos} {e:Expr} {i j:Int} {t:Tok} (I:InF s₀ b X env own m cm s) (hk:env.scope.kind=.function) (hl:env.kindOf x=some .local) (hv:m x=some (.int i t)) (hY:Yd w A b s.heap env e (IsI j)) :
  Wp w A (exec (.AugAssign (.Name x px) .Add e pos) env) (λfl s'=>fl=.next/\Ev (ft env own) s s'/\∃ t',InF s₀ b X env own (up m x (.int (i+j) t')) cm s') s:=by
 refine wpAny_AugAssign_Name (I.fs.var hk hl hv w A s _ _ (Le.refl _) ((hY s I.le (Le.refl _)).to λv s1 q=>?_))
 refine byC0 λzn=>?_;refine q1_1 (q.2 _ (I.le.trans q.1.le) (Nw.self _ _)) λt' z1=>?_;subst z1;refine zn ?_;clear zn
 refine iadd_int ?_
 have I1:=(I.kp q.1).kp (Kp.tok s1 (s1.toks+1))
 refine (sto_loc I1.fs hk hl).to λ_ s2 q2=>?_
 exact e0_3 rfl ((q.1.trans (Kp.tok s1 _)).ev.trans q2.1) (e1_1 _ (I1.ev' q2.1 (λa ha=>.inl ha) q2.2 (λa ha hm=>absurd hm (I1.apart a ha))))
theorem eval_pop0 {o:Expr} {apos pos p:Pos} {k:Nat} {l:Addr} {items:Array Value} {y:Value} (hb:Le b s.heap) (ho:Yd w A b s.heap env o (IsV (.ref l))) (hl:s.heap.PlainList l items) (hy:items[0]?=some y) (hsz:items.size<=sizeLine)
  (hbase:autoParam (attributeBase o (sO "pop") env (eval o env)=eval o env) auR) (hline:autoParam ((apos.endLine == pos.line)=true) auR) (hst:autoParam (backTo pos (starEach [.Constant (.int 0) k p] env)=[(false,eval (.Constant (.int 0) k p) env)]) auR) :
  Wp w A (eval (.Call (.Attribute o (sO "pop") apos) [.Constant (.int 0) k p] [] pos) env) (λv s'=>v=y/\Ev [l] s s'/\s'.heap.PlainList l (items.eraseIdxIfInBounds 0)) s:=by
 refine wpAny_Call_method_lateS hbase (by rw [hst];rfl) hline ((ho s hb (Le.refl _)).to λu s1 q=>?_)
 have e1:u=.ref l:=q.2 _ (hb.trans q.1.le) (Nw.self _ _)
 subst e1
 have hl1:=hl.at λo e=>q.1.le.get _ o e
 refine q1_1 hl1 λn e=>?_;clear hl1
 refine e2_6 ("list") ("list.pop") F.plainAttrs_list F.slot_list_pop F.type_list_pop (e1_2 _ e rfl) (λa z=>by cases z;exact e1_2 _ e rfl) ?_
 rw [hst]
 refine P.pop_at_list ((Yd.int (w:=w) (A:=A) (b:=b) (h:=s.heap) (env:=env) (i:=0) s1 (hb.trans q.1.le) q.1.le).to λv s2 q2=>?_)
 refine byC0 λzn=>?_;refine q1_1 (q2.2 _ (hb.trans (q.1.le.trans q2.1.le)) (Nw.self _ _)) λt z1=>?_;subst z1;refine zn ?_;clear zn
 have hpos:0<items.size:=(Array.getElem?_eq_some_iff.mp hy).1
 have e2:=q2.1.le.get _ _ e
 refine e6_9 items n 0 t 0 y hsz rfl e2 (by decide) ?_ hy rfl ((q.1.trans q2.1).ev.trans ⟨e2_1 _ _ rfl,λc o hc e'=>(Heap.get?_update_ne _ _ _ _ (by simpa using hc)).trans e'⟩) ?_
 ·unfold seqIndex?
  have h1:(0:Int)<items.size:=by omega
  simp [hpos]
 ·exact⟨_,Heap.get?_update_self (Obj.mapSeq λxs=>xs.eraseIdxIfInBounds 0) e2 rfl⟩
theorem eval_kw {x:Str} {p pos kp:Pos} {id:String} {e v:Expr} {P₁ P₂:Value->Heap->Prop} {Q:Value->Shared->Prop} (hb:Le b s.heap) (V:Var s.heap env x (.builtin id)) (he:Yd w A b s.heap env e P₁) (hv:Yd w A b s.heap env v P₂)
  (h:∀ u z s1,Kp s s1->P₁ u s1.heap->P₂ z s1.heap->Wp w A (call (.builtin id) [u] [(sO "key",z)]) Q s1) (hd:autoParam ((x == ("__debug__" : Str))=false) auD)
  (hE:autoParam (eval (.Call (.Name x p) [e] [⟨some (sO "key"),v,kp⟩] pos) env=(do
   let f ← eval (.Name x p) env
   callWith pos f [] (backTo pos (starEach [e] env)) (backToKw pos (keywordEach [⟨some (sO "key"),v,kp⟩] env)))) auR)
  (he':autoParam (backTo pos (starEach [e] env)=(false,eval e env)::backTo pos (starEach [] env)) auR) (hplain:autoParam ((backTo pos (starEach [e] env)).any (·.1)=false) auR) :
  Wp w A (eval (.Call (.Name x p) [e] [⟨some (sO "key"),v,kp⟩] pos) env) Q s:=by
 rw [hE]
 refine wpAny_bind (wpAny_Name (V w A s _ _ (Le.refl _) ?_) hd)
 refine callWith_kw ?_ he' hplain rfl rfl
 rw [he']
 refine spliced_cons ((he s hb (Le.refl _)).to λu s1 q=>spliced_nil ?_)
 refine kws_cons ((hv s1 (hb.trans q.1.le) q.1.le).to λz s2 q2=>kws_nil ?_)
 have k:=q.1.trans q2.1
 exact h u z s2 k (q.2 _ (hb.trans k.le) ((Nw.self s s2).left q2.1.le)) (q2.2 _ (hb.trans k.le) (Nw.self _ _))
theorem star_list {l:Addr} {vs:List Value} {Q:List Value->Shared->Prop} (hl:s.heap.IsList l vs.toArray) (hsz:vs.length<=sizeLine) (h:∀ s',Kp s s'->Q vs s'):StarOf (model Pg w) A Bot (.ref l) Q s:=by
 have hT:s.TypeIs (.ref l) "list":=q1_3 hl λo e c _=>(e1_2 o e c)
 unfold StarOf notIterableAtAll
 refine wpAny_bind (wpAny_specialOf hT PySem.F.slot_list_iter.lookup (wpAny_pure ⟨rfl,collect_list hl ?_ hsz⟩))
 refine h _ ⟨e2_1 _ _ rfl,⟨λc o e=>?_⟩⟩
 dsimp only
 rw [Heap.get?_update_ne _ _ _ _ (Nat.ne_of_lt (Heap.lt_size e))]
 exact Heap.get?_push_of_some _ e
end
section
variable {w:World} {A:Around} {s₀ s:Shared} {b:Heap} {X:List Addr} {env:Env} {own:List (Str×Addr)} {m cm:SoV}
theorem for_loop {β:Type} {xs:List β} {B:β->Value->Prop} {target:Expr} {body:List Stmt} {x0:Value} (K₁:β->SoV->SoV->SoV->SoV->Prop)
  (J:Nat->Heap->SoV->SoV->Shared->Prop) (Y:List Addr) (hYX:∀ a∈Y,a∈X) (I0:InF s₀ b X env own m cm s) (hit:Itr w A b x0 xs.length (λj v=>∃ b,xs[j]?=some b/\B b v) s) (hJ0:∀ s',Kp s s'->J 0 b m cm s')
  (asg:∀ x v s m cm,x∈xs->B x v->Le b s.heap->Fs s.heap env own m cm->Wp w A (assign target env v) (λ_ s'=>Ev (ft env own) s s'/\∃ m' cm',Fs s'.heap env own m' cm'/\K₁ x m cm m' cm') s)
  (turn:∀ i x I b' m1 cm1 s1 m2 cm2 s2,xs[i]?=some x->Le b b'->InF s₀ b' (I::X) env own m1 cm1 s1->I∉X->s.heap.get? I=none->J i b' m1 cm1 s1->Ev (I::ft env own) s1 s2->K₁ x m1 cm1 m2 cm2->InF s₀ b' (I::X) env own m2 cm2 s2->
   Wp w A (execs body env) (λfl s3=>(fl=.next\/fl=.cont)/\∃ b3 m3 cm3,Le b' b3/\Ev (ft env own++Y) s2 s3/\InF s₀ b3 (I::X) env own m3 cm3 s3/\J (i+1) b3 m3 cm3 s3) s2) :
  Wp w A (pyIter x0) (λit s2=>codeAny (model Pg w) A (.forLoop target it body [] env) (λr s'=>r=.ok .next/\∃ I b' m' cm' s1,Le b b'/\InF s₀ b' X env own m' cm' s'/\I∉ft env own/\I∉X/\s.heap.get? I=none/\InF s₀ b' X env own m' cm' s1/\J xs.length b' m' cm' s1/\Ev [I] s1 s'/\Ev (ft env own++Y) s s') s2) s:=by
 refine Wp.to hit λit s2 q2=>?_
 refine byC0 λzn=>?_;refine q3_2 q2 λI fp St z1 z2=>?_;clear q2;subst z1;refine q0_7 z2 λW st0 k2 hI lv hf go=>?_;clear z2;refine zn ?_;clear zn
 have k12:=k2
 have hIs:s.heap.get? I=none:=hI
 have hIf:I∉ft env own:=λhm=>by refine q1_1 (I0.fs.live I hm) λo ho=>?_;rw [hIs] at ho;cases ho
 have hIX:I∉X:=λhm=>by refine q1_1 (I0.live I hm) λo ho=>?_;rw [hIs] at ho;cases ho
 have hIb:b.get? I=none:=I0.le.none hIs
 have I2:=I0.kp k12
 have I2':InF s₀ b (I::X) env own m cm s2:=⟨I2.same,I2.le,I2.fs,λa ha=>by
   rcases ha with ha | ha
   ·exact I2.off a (.inl ha)
   ·(rcases zD ha with rfl | ha)
    ·exact hIb
    ·exact I2.off a (.inr ha),λa ha=>by
   (rcases zD ha with rfl | ha)
   ·exact lv 0 _ st0
   ·exact I2.live a ha,λa ha=>by
   (rcases zD ha with rfl | ha)
   ·exact hIf
   ·exact I2.apart a ha⟩
 have fpX:∀ a∈fp,a∉ft env own++Y:=λa ha hm=>by
  by_cases e:a=I
  ·subst e;exact (List.mem_append.mp hm).elim hIf λh=>hIX (hYX _ h)
  ·refine q1_1 (hf a ha e) λo ho=>?_
   rw [I0.off a ((List.mem_append.mp hm).imp id (hYX a))] at ho;cases ho
 refine codeAny_mono (R:=λr s'=>r=.ok .next/\∃ b' m' cm' s1,Le b b'/\InF s₀ b' X env own m' cm' s'/\InF s₀ b' X env own m' cm' s1/\J xs.length b' m' cm' s1/\Ev [I] s1 s'/\Ev (ft env own++Y) s s') (codeAny_forLoop_any
  (λk s'=>∃ i b' m' cm',k=xs.length+1-i/\i<=xs.length/\St i s'.heap/\Le b b'/\InF s₀ b' (I::X) env own m' cm' s'/\J i b' m' cm' s'/\Ev (ft env own++Y) s s') ?turn (xs.length+1)
  (e4_7 0 b m cm (by omega) (Nat.zero_le _) st0 (Le.refl _) I2' (hJ0 _ k12) k12.ev)) λr s' q=>?_
 case turn=>
  (intro k s' zr;refine byC0 λzn=>?_;refine q4_2 zr λi b' m' cm' z1 z2=>?_;clear zr;subst z1;refine q0_6 z2 λhi st hb' I' hJ Eall=>?_;clear z2;refine zn ?_;clear zn)
  by_cases hlt:i<xs.length
  ·refine W.item i _ _ _ hlt st λv h1 tk1 hPv st1 hk1=>?_
   refine q1_2 hPv λx hb hBv=>?_;clear hPv
   have hbm:x∈xs:=List.mem_of_getElem? hb
   dsimp only
   have E1:Ev [I] s' { s' with heap:=h1,toks:=tk1 }:=⟨e2_1 _ _ rfl,λc o nb e=>hk1 c o nb e⟩
   have F1:Fs h1 env own m' cm':=I'.fs.get λc hc o e=>hk1 c o (λz=>hIf (zS z▸hc)) e
   have I3:InF s₀ b' (I::X) env own m' cm' { s' with heap:=h1,toks:=tk1 }:=I'.ev' E1 (λa ha=>.inr (by rw [zS ha];exact zH ..)) F1 (λa _ ha=>by rw [zS ha];exact lv _ _ st1)
   refine (go i v target { s' with heap:=h1,toks:=tk1 } (e1_2 x hb hBv) st1).to λ_ s3 e3=>?_
   subst e3
   refine (asg x v { s' with heap:=h1,toks:=tk1 } m' cm' hbm hBv (hb'.trans I3.le) F1).to λ_ s4 q4=>?_
   refine byC0 λzn=>?_;refine s2_2 q4 λE4 m4 cm4 F4 hK4=>?_;clear q4;refine zn ?_;clear zn
   have I4:InF s₀ b' (I::X) env own m4 cm4 s4:=I3.ev' E4 (λa ha=>.inl ha) F4 (λa ha hm=>absurd hm (I3.apart a ha))
   have E14:Ev (I::ft env own) s' s4:=(E1.mono λa ha=>by rw [zS ha];exact zH ..).trans (E4.mono λa ha=>zT ha)
   have st4:St (i+1) s4.heap:=W.frame _ _ _ st1 λc hc o e=>E4.get c o (λz=>fpX c hc (List.mem_append_left _ z)) e
   refine (turn i x I b' m' cm' s' m4 cm4 s4 hb hb' I' hIX hIs hJ E14 hK4 I4).to λfl s5 q5=>?_
   refine byC0 λzn=>?_;refine s3_4 q5 λhfl b5 m5 cm5 l5 E5 I5 hJ5=>?_;clear q5;refine zn ?_;clear zn
   have st5:St (i+1) s5.heap:=W.frame _ _ _ st4 λc hc o e=>E5.get c o (fpX c hc) e
   have Eall':Ev (ft env own++Y) s s5:=by
    have e1:Ev (ft env own++Y) s { s' with heap:=h1,toks:=tk1 }:=⟨same_trans Eall.same E1.same,λc o nb e=>hk1 c o (λz=>by rw [zS z,hIs] at e;cases e) (Eall.get c o nb e)⟩
    exact (e1.trans (E4.mono λa ha=>List.mem_append_left _ ha)).trans E5
   have fin:∃ k',k'<xs.length+1-i/\∃ i' b' m' cm',k'=xs.length+1-i'/\i'<=xs.length/\St i' s5.heap/\Le b b'/\InF s₀ b' (I::X) env own m' cm' s5/\J i' b' m' cm' s5/\Ev (ft env own++Y) s s5:=
    e1_2 (xs.length+1-(i+1)) (by omega) (e4_7 (i+1) b5 m5 cm5 rfl hlt st5 (hb'.trans l5) I5 hJ5 Eall')
   (refine byC0 λzn=>?_;((rcases hfl with rfl | rfl))<;>(refine zn ?_;clear zn))<;>exact fin
  ·have hin':i=xs.length:=by omega
   subst hin'
   refine W.done _ _ _ st λh1 tk1 hk1=>?_
   dsimp only
   have E1:Ev [I] s' { s' with heap:=h1,toks:=tk1 }:=⟨e2_1 _ _ rfl,λc o nb e=>hk1 c o nb e⟩
   have F1:Fs h1 env own m' cm':=I'.fs.get λc hc o e=>hk1 c o (λz=>hIf (zS z▸hc)) e
   have Ix:=I'.sub (Y:=X) λa ha=>zT ha
   refine wpAny_execs_nil (e0_2 rfl (e4_6 b' m' cm' s' hb' ?_ Ix hJ E1 ?_))
   ·refine⟨same_trans Ix.same E1.same,⟨λc o e=>hk1 c o (λz=>?_) (Ix.le.get c o e)⟩,F1,Ix.off,λa ha=>?_,Ix.apart⟩
    ·rw [zS z,I'.off I (.inr (zH ..))] at e;cases e
    ·refine q1_1 (Ix.live a ha) λo ho=>?_
     exact⟨o,hk1 a o (λz=>hIX (zS z▸ha)) ho⟩
   ·exact⟨same_trans Eall.same E1.same,λc o nb e=>hk1 c o (λz=>by rw [zS z,hIs] at e;cases e) (Eall.get c o nb e)⟩
 ·refine byC0 λzn=>?_;refine q0_2 q λz1 z2=>?_;clear q;subst z1;refine q4_6 z2 λb' m' cm' s3 l Ia Ib hJ E1 E2=>?_;clear z2;refine zn ?_;clear zn
  exact e0_2 rfl (e5_9 I b' m' cm' s3 l Ia hIf hIX hIs Ib hJ E1 E2)
theorem for_loopE {β:Type} {xs:List β} {B:β->Value->Prop} {target:Expr} {body:List Stmt} {x0:Value} (K₁:β->SoV->SoV->SoV->SoV->Prop)
  (J:Addr->Nat->Heap->SoV->SoV->Shared->Prop) (I0:InF s₀ b X env own m cm s) (hit:Itr w A b x0 xs.length (λj v=>∃ b,xs[j]?=some b/\B b v) s) (hJ0:∀ I s',Kp s s'->s.heap.get? I=none->J I 0 b m cm s')
  (asg:∀ x v s m cm,x∈xs->B x v->Le b s.heap->Fs s.heap env own m cm->Wp w A (assign target env v) (λ_ s'=>Ev (ft env own) s s'/\∃ m' cm',Fs s'.heap env own m' cm'/\K₁ x m cm m' cm') s)
  (turn:∀ i x I b' m1 cm1 s1 m2 cm2 s2,xs[i]?=some x->Le b b'->InF s₀ b' (I::X) env own m1 cm1 s1->I∉X->s.heap.get? I=none->J I i b' m1 cm1 s1->Ev (I::ft env own) s1 s2->K₁ x m1 cm1 m2 cm2->InF s₀ b' (I::X) env own m2 cm2 s2->
   Wp w A (execs body env) (λfl s3=>(fl=.next\/fl=.cont)/\(∀ o,s2.heap.get? I=some o->s3.heap.get? I=some o)/\∃ b3 m3 cm3,Le b' b3/\InF s₀ b3 (I::X) env own m3 cm3 s3/\J I (i+1) b3 m3 cm3 s3) s2) :
  Wp w A (pyIter x0) (λit s2=>codeAny (model Pg w) A (.forLoop target it body [] env) (λr s'=>r=.ok .next/\∃ I b' m' cm' s1,Le b b'/\InF s₀ b' X env own m' cm' s'/\I∉ft env own/\I∉X/\s.heap.get? I=none/\InF s₀ b' X env own m' cm' s1/\J I xs.length b' m' cm' s1/\Ev [I] s1 s') s2) s:=by
 refine Wp.to hit λit s2 q2=>?_
 refine byC0 λzn=>?_;refine q3_2 q2 λI fp St z1 z2=>?_;clear q2;subst z1;refine q0_7 z2 λW st0 k2 hI lv hf go=>?_;clear z2;refine zn ?_;clear zn
 have k12:=k2
 have hIs:s.heap.get? I=none:=hI
 have hIf:I∉ft env own:=λhm=>by refine q1_1 (I0.fs.live I hm) λo ho=>?_;rw [hIs] at ho;cases ho
 have hIX:I∉X:=λhm=>by refine q1_1 (I0.live I hm) λo ho=>?_;rw [hIs] at ho;cases ho
 have hIb:b.get? I=none:=I0.le.none hIs
 have I2:=I0.kp k12
 have I2':InF s₀ b (I::X) env own m cm s2:=⟨I2.same,I2.le,I2.fs,λa ha=>by
   rcases ha with ha | ha
   ·exact I2.off a (.inl ha)
   ·(rcases zD ha with rfl | ha)
    ·exact hIb
    ·exact I2.off a (.inr ha),λa ha=>by
   (rcases zD ha with rfl | ha)
   ·exact lv 0 _ st0
   ·exact I2.live a ha,λa ha=>by
   (rcases zD ha with rfl | ha)
   ·exact hIf
   ·exact I2.apart a ha⟩
 have fpX:∀ a∈fp,a∉ft env own:=λa ha hm=>by
  by_cases e:a=I
  ·subst e;exact hIf hm
  ·refine q1_1 (hf a ha e) λo ho=>?_
   rw [I0.off a (.inl hm)] at ho;cases ho
 refine codeAny_mono (R:=λr s'=>r=.ok .next/\∃ b' m' cm' s1,Le b b'/\InF s₀ b' X env own m' cm' s'/\InF s₀ b' X env own m' cm' s1/\J I xs.length b' m' cm' s1/\Ev [I] s1 s') (codeAny_forLoop_any
  (λk s'=>∃ i b' m' cm',k=xs.length+1-i/\i<=xs.length/\St i s'.heap/\Le b b'/\InF s₀ b' (I::X) env own m' cm' s'/\J I i b' m' cm' s') ?turn (xs.length+1)
  (e4_6 0 b m cm (by omega) (Nat.zero_le _) st0 (Le.refl _) I2' (hJ0 I _ k12 hIs))) λr s' q=>?_
 case turn=>
  (intro k s' zr;refine byC0 λzn=>?_;refine q4_2 zr λi b' m' cm' z1 z2=>?_;clear zr;subst z1;refine q0_5 z2 λhi st hb' I' hJ=>?_;clear z2;refine zn ?_;clear zn)
  by_cases hlt:i<xs.length
  ·refine W.item i _ _ _ hlt st λv h1 tk1 hPv st1 hk1=>?_
   refine q1_2 hPv λx hb hBv=>?_;clear hPv
   have hbm:x∈xs:=List.mem_of_getElem? hb
   dsimp only
   have E1:Ev [I] s' { s' with heap:=h1,toks:=tk1 }:=⟨e2_1 _ _ rfl,λc o nb e=>hk1 c o nb e⟩
   have F1:Fs h1 env own m' cm':=I'.fs.get λc hc o e=>hk1 c o (λz=>hIf (zS z▸hc)) e
   have I3:InF s₀ b' (I::X) env own m' cm' { s' with heap:=h1,toks:=tk1 }:=I'.ev' E1 (λa ha=>.inr (by rw [zS ha];exact zH ..)) F1 (λa _ ha=>by rw [zS ha];exact lv _ _ st1)
   refine (go i v target { s' with heap:=h1,toks:=tk1 } (e1_2 x hb hBv) st1).to λ_ s3 e3=>?_
   subst e3
   refine (asg x v { s' with heap:=h1,toks:=tk1 } m' cm' hbm hBv (hb'.trans I3.le) F1).to λ_ s4 q4=>?_
   refine byC0 λzn=>?_;refine s2_2 q4 λE4 m4 cm4 F4 hK4=>?_;clear q4;refine zn ?_;clear zn
   have I4:InF s₀ b' (I::X) env own m4 cm4 s4:=I3.ev' E4 (λa ha=>.inl ha) F4 (λa ha hm=>absurd hm (I3.apart a ha))
   have E14:Ev (I::ft env own) s' s4:=(E1.mono λa ha=>by rw [zS ha];exact zH ..).trans (E4.mono λa ha=>zT ha)
   have st4:St (i+1) s4.heap:=W.frame _ _ _ st1 λc hc o e=>E4.get c o (fpX c hc) e
   refine (turn i x I b' m' cm' s' m4 cm4 s4 hb hb' I' hIX hIs hJ E14 hK4 I4).to λfl s5 q5=>?_
   refine byC0 λzn=>?_;refine q0_3 q5 λhfl hkI z1=>?_;clear q5;refine q3_3 z1 λb5 m5 cm5 l5 I5 hJ5=>?_;clear z1;refine zn ?_;clear zn
   have st5:St (i+1) s5.heap:=W.frame _ _ _ st4 λc hc o e=>by
    by_cases hcI:c=I
    ·subst hcI;exact hkI o e
    ·refine q1_1 (hf c hc hcI) λo' ho'=>?_
     have e1:=I4.le.get _ _ (hb'.get _ _ ho')
     rw [e] at e1
     cases e1
     exact I5.le.get _ _ (l5.get _ _ (hb'.get _ _ ho'))
   have fin:∃ k',k'<xs.length+1-i/\∃ i' b' m' cm',k'=xs.length+1-i'/\i'<=xs.length/\St i' s5.heap/\Le b b'/\InF s₀ b' (I::X) env own m' cm' s5/\J I i' b' m' cm' s5:=
    e1_2 (xs.length+1-(i+1)) (by omega) (e4_6 (i+1) b5 m5 cm5 rfl hlt st5 (hb'.trans l5) I5 hJ5)
   (refine byC0 λzn=>?_;((rcases hfl with rfl | rfl))<;>(refine zn ?_;clear zn))<;>exact fin
  ·have hin':i=xs.length:=by omega
   subst hin'
   refine W.done _ _ _ st λh1 tk1 hk1=>?_
   dsimp only
   have E1:Ev [I] s' { s' with heap:=h1,toks:=tk1 }:=⟨e2_1 _ _ rfl,λc o nb e=>hk1 c o nb e⟩
   have F1:Fs h1 env own m' cm':=I'.fs.get λc hc o e=>hk1 c o (λz=>hIf (zS z▸hc)) e
   have Ix:=I'.sub (Y:=X) λa ha=>zT ha
   refine wpAny_execs_nil (e0_2 rfl (e4_5 b' m' cm' s' hb' ?_ Ix hJ E1))
   ·refine⟨same_trans Ix.same E1.same,⟨λc o e=>hk1 c o (λz=>?_) (Ix.le.get c o e)⟩,F1,Ix.off,λa ha=>?_,Ix.apart⟩
    ·rw [zS z,I'.off I (.inr (zH ..))] at e;cases e
    ·refine q1_1 (Ix.live a ha) λo ho=>?_
     exact⟨o,hk1 a o (λz=>hIX (zS z▸ha)) ho⟩
 ·refine byC0 λzn=>?_;refine q0_2 q λz1 z2=>?_;clear q;subst z1;refine q4_5 z2 λb' m' cm' s3 l Ia Ib hJ E1=>?_;clear z2;refine zn ?_;clear zn
  exact e0_2 rfl (e5_8 I b' m' cm' s3 l Ia hIf hIX hIs Ib hJ E1)
theorem ex_forE {target iter:Expr} {body:List Stmt} {p:Pos} {Ψ:Shared->Prop} (hE:Wp w A (eval iter env) (λx s1=>Wp w A (pyIter x) (λit s2=>codeAny (model Pg w) A (.forLoop target it body [] env) (λr s'=>r=.ok .next/\Ψ s') s2) s1) s)
  (hfold:autoParam (∀ x,foldedSetIterable iter env x=pure x) auI1):Wp w A (exec (.For target iter body [] p) env) (λfl s'=>fl=.next/\Ψ s') s:=
 wpAny_For (hE.to λx s1 q=>Wp.to q λit s2 q2=>codeAny_mono q2 λr s' q'=>by refine q0_2 q' λz1 z2=>?_;clear q';subst z1;revert z2;intro q';exact⟨rfl,q'⟩) hfold
end
noncomputable abbrev Evt:=Bool×Nat
noncomputable def outs (ev:List Evt):List Nat:=(ev.filter λe=>!e.1).map (·.2)
noncomputable def dns (ev:List Evt):List Nat:=(ev.filter λe=>e.1).map (·.2)
theorem outs_app (a b:List Evt):outs (a++b)=outs a++outs b:=by simp [outs]
theorem dns_app (a b:List Evt):dns (a++b)=dns a++dns b:=by simp [dns]
theorem outs_f (i:Nat):outs [(false,i)]=[i]:=rfl
theorem outs_t (i:Nat):outs [(true,i)]=[]:=rfl
theorem dns_f (i:Nat):dns [(false,i)]=[]:=rfl
theorem dns_t (i:Nat):dns [(true,i)]=[i]:=rfl
theorem mem_outs {ev:List Evt} {i:Nat}:i∈outs ev ↔ (false,i)∈ev:=by
 unfold outs
 simp
theorem mem_dns {ev:List Evt} {i:Nat}:i∈dns ev ↔ (true,i)∈ev:=by
 unfold dns
 simp
noncomputable def rnd:List Evt->Nat->Nat
 | [],_=>0
 | (false,j)::r,i=>if i=j then 0 else rnd r i
 | (true,_)::r,i=>rnd r i+1
theorem rnd_app {a:List Evt} {i:Nat} (h:i∈outs a) (b:List Evt):rnd (a++b) i=rnd a i:=by
 induction a with
 | nil=>simp [outs] at h
 | cons e r ih=>
  rcases e with ⟨c,j⟩
  cases c with
  | false=>
   show (if i=j then 0 else rnd (r++b) i)=if i=j then 0 else rnd r i
   by_cases e:i=j
   ·rw [if_pos e,if_pos e]
   ·rw [if_neg e,if_neg e]
    refine ih ?_
    rw [mem_outs] at h ⊢
    rcases zC h with h | h
    ·exact absurd (Prod.mk.inj h).2 e
    ·exact h
  | true=>
   show rnd (r++b) i+1=rnd r i+1
   rw [ih]
   rw [mem_outs] at h ⊢
   rcases zC h with h | h
   ·cases h
   ·exact h
theorem rnd_new {a:List Evt} {i:Nat} (h:i∉outs a):rnd (a++[(false,i)]) i=(dns a).length:=by
 induction a with
 | nil=>show (if i=i then 0 else rnd [] i)=0;simp
 | cons e r ih=>
  refine byC0 λzn=>?_;rcases e with ⟨c,j⟩;refine zn ?_;clear zn
  have h':i∉outs r:=λhm=>h (by rw [mem_outs] at hm ⊢;exact zT hm)
  cases c with
  | false=>
   have hne:i≠j:=λe=>h (by rw [mem_outs,e];exact zH ..)
   show (if i=j then 0 else rnd (r++[(false,i)]) i)=_
   rw [if_neg hne,ih h']
   rfl
  | true=>
   show rnd (r++[(false,i)]) i+1=_
   rw [ih h']
   rfl
noncomputable def kkey (o:Int) (ln:Nat->Nat) (ev:List Evt) (i:Nat):Int:=o * (rnd ev i:Int) * 1000-(ln i:Int)
noncomputable def Hist (ps:List (Nat×Nat)) (N:Nat) (o:Int) (ln:Nat->Nat) (ev:List Evt):Evt->Prop
 | (false,i)=>i<N/\i∉outs ev/\∀ p∈ps,p.2=i->p.1∈dns ev
 | (true,g)=>g∈outs ev/\g∉dns ev/\(∀ y∈outs ev,y∉dns ev->kkey o ln ev g<=kkey o ln ev y)/\∀ k,k<N->(∀ p∈ps,p.2=k->p.1∈dns ev)->k∈outs ev
inductive Run (ps:List (Nat×Nat)) (N:Nat) (o:Int) (ln:Nat->Nat):List Evt->Prop
 | nil:Run ps N o ln []
 | snoc {ev:List Evt} {x:Evt}:Run ps N o ln ev->Hist ps N o ln ev x->Run ps N o ln (ev++[x])
section
variable {ps:List (Nat×Nat)} {N:Nat} {o:Int} {ln:Nat->Nat} {ev:List Evt}
theorem Run.lt (h:Run ps N o ln ev):∀ i∈outs ev,i<N:=by
 induction h with
 | nil=>intro i hi;cases hi
 | @snoc ev x hr hx ih=>
  rcases x with ⟨c,j⟩
  intro i hi
  rw [outs_app] at hi
  rcases List.mem_append.mp hi with hi | hi
  ·exact ih i hi
  ·cases c with
   | false=>rw [outs_f,List.mem_singleton] at hi;rw [hi];exact hx.1
   | true=>cases hi
theorem Run.outN (h:Run ps N o ln ev):(outs ev).Nodup:=by
 induction h with
 | nil=>exact List.nodup_nil
 | @snoc ev x hr hx ih=>
  rcases x with ⟨c,j⟩
  rw [outs_app]
  cases c with
  | false=>
   rw [outs_f,List.nodup_append]
   refine⟨ih,by simp,λa ha b hb e=>?_⟩
   rw [List.mem_singleton] at hb
   subst hb
   exact hx.2.1 (e▸ha)
  | true=>rw [outs_t,List.append_nil];exact ih
theorem Run.dnN (h:Run ps N o ln ev):(dns ev).Nodup:=by
 induction h with
 | nil=>exact List.nodup_nil
 | @snoc ev x hr hx ih=>
  rcases x with ⟨c,j⟩
  rw [dns_app]
  cases c with
  | true=>
   rw [dns_t,List.nodup_append]
   refine⟨ih,by simp,λa ha b hb e=>?_⟩
   rw [List.mem_singleton] at hb
   subst hb
   exact hx.2.1 (e▸ha)
  | false=>rw [dns_f,List.append_nil];exact ih
theorem Run.sub (h:Run ps N o ln ev):∀ i∈dns ev,i∈outs ev:=by
 induction h with
 | nil=>intro i hi;cases hi
 | @snoc ev x hr hx ih=>
  refine byC0 λzn=>?_;rcases x with ⟨c,j⟩;refine zn ?_;clear zn
  intro i hi
  rw [dns_app] at hi
  rw [outs_app]
  rcases List.mem_append.mp hi with hi | hi
  ·exact List.mem_append_left _ (ih i hi)
  ·cases c with
   | true=>rw [dns_t,List.mem_singleton] at hi;rw [hi];exact List.mem_append_left _ hx.1
   | false=>cases hi
theorem Run.pred (h:Run ps N o ln ev):∀ i∈outs ev,∀ p∈ps,p.2=i->p.1∈dns ev:=by
 induction h with
 | nil=>intro i hi;cases hi
 | @snoc ev x hr hx ih=>
  refine byC0 λzn=>?_;rcases x with ⟨c,j⟩;refine zn ?_;clear zn
  intro i hi p hp hpi
  rw [outs_app] at hi
  rw [dns_app]
  rcases List.mem_append.mp hi with hi | hi
  ·exact List.mem_append_left _ (ih i hi p hp hpi)
  ·cases c with
   | false=>
    rw [outs_f,List.mem_singleton] at hi
    subst hi
    exact List.mem_append_left _ (hx.2.2 p hp hpi)
   | true=>cases hi
theorem Run.outs:∀ (l:List Nat) {ev:List Evt},Run ps N o ln ev->l.Nodup->(∀ i∈l,i<N/\i∉Mine.Internal.outs ev/\∀ p∈ps,p.2=i->p.1∈dns ev)->Run ps N o ln (ev++l.map λi=>(false,i))
 | [],ev,h,_,_=>by simpa using h
 | a::l,ev,h,hn,hl=>by
  rw [List.nodup_cons] at hn
  have h1:=Run.outs l (ev:=ev++[(false,a)]) (Run.snoc h (hl a (zH ..))) hn.2 λi hi=>by
   refine q0_3 (hl i (zT hi)) λa1 a2 a3=>?_
   refine⟨a1,λhm=>?_,λp hp e=>by rw [dns_app];exact List.mem_append_left _ (a3 p hp e)⟩
   rw [outs_app,outs_f] at hm
   rcases List.mem_append.mp hm with hm | hm
   ·exact a2 hm
   ·rw [List.mem_singleton] at hm
    subst hm
    exact hn.1 hi
  rw [List.append_assoc] at h1
  exact h1
theorem outs_map (l:List Nat):outs (l.map λi=>(false,i))=l:=by
 induction l with
 | nil=>rfl
 | cons a r ih=>
  show a::outs (r.map λi=>(false,i))=a::r
  rw [ih]
theorem dns_map (l:List Nat):dns (l.map λi=>(false,i))=[]:=by
 induction l with
 | nil=>rfl
 | cons a r ih=>exact ih
noncomputable def left (ps:List (Nat×Nat)) (D:List Nat) (i:Nat):Nat:=(ps.filter λp=>p.2 == i && !decide (p.1∈D)).length
theorem left_zero {D:List Nat} {i:Nat}:left ps D i=0 ↔ ∀ p∈ps,p.2=i->p.1∈D:=by
 unfold left
 rw [List.length_eq_zero_iff,List.filter_eq_nil_iff]
 constructor
 ·intro h p hp e
  have:=h p hp
  simp [e] at this
  exact this
 ·intro h p hp
  simp
  exact λe=>h p hp e
noncomputable def npOf (ps:List (Nat×Nat)) (ev:List Evt) (i:Nat):Int:=if i∈dns ev then -2 else if i∈outs ev then -1 else (left ps (dns ev) i:Int)
noncomputable def preds (ps:List (Nat×Nat)) (j:Nat):List Nat:=(ps.filter λp=>p.2 == j).map (·.1)
end
theorem left_done {ps:List (Nat×Nat)} {D:List Nat} {g i:Nat}:∀ (hg:g∉D),left ps D i=left ps (D++[g]) i+(preds ps i).count g:=by
 intro hg
 unfold left preds
 induction ps with
 | nil=>rfl
 | cons p r ih=>
  refine byC0 λzn=>?_;rcases p with ⟨a,b⟩;refine zn ?_;clear zn
  simp only [List.filter_cons]
  by_cases hb:b=i
  ·subst hb
   by_cases ha:a=g
   ·subst ha
    simp [hg]
    simp at ih
    omega
   ·have ha':g≠a:=λe=>ha e.symm
    by_cases hD:a∈D
    ·simp [hD,List.count_cons,ha]
     simpa using ih
    ·simp [hD,ha,List.count_cons]
     simp at ih
     omega
  ·have:(b == i)=false:=by simpa using hb
   simp only [this,Bool.false_and,Bool.false_eq_true,if_false]
   exact ih
section
open PySem
noncomputable def suR (ps:List (Nat×Nat)):Nat->Nat->List Nat
 | 0,_=>[]
 | n+1,i=>if i=n then [] else suR ps n i++List.replicate ((preds ps n).count i) n
section
variable {ps:List (Nat×Nat)} {N:Nat} {o:Int} {ln:Nat->Nat} {ev:List Evt}
theorem preds_lt (hp:∀ p∈ps,p.1<p.2) {i j:Nat} (h:j<=i):(preds ps j).count i=0:=by
 rw [List.count_eq_zero]
 intro hm
 refine q1_2 (List.mem_map.mp hm) λp hp' z1=>?_;subst z1
 have h1:=List.mem_filter.mp hp'
 have h2:=hp p h1.1
 have h3:p.2=j:=by simpa using h1.2
 omega
theorem suR_count (hp:∀ p∈ps,p.1<p.2) (i j:Nat):∀ n,i<n->(suR ps n i).count j=if j<n then (preds ps j).count i else 0:=by
 have low:∀ n,n<=i->(suR ps n i).count j=0:=by
  intro n
  induction n with
  | zero=>intro _;rfl
  | succ n ih=>
   intro h
   unfold suR
   rw [if_neg (by omega),List.count_append,ih (by omega),preds_lt hp (by omega)]
   simp
 intro n
 induction n with
 | zero=>intro h;omega
 | succ n ih=>
  intro h
  unfold suR
  by_cases e:i=n
  ·subst e
   rw [if_pos rfl]
   by_cases hj:j<i+1
   ·rw [if_pos hj,preds_lt hp (by omega)];rfl
   ·rw [if_neg hj];rfl
  ·rw [if_neg e,List.count_append,ih (by omega),List.count_replicate]
   by_cases hj:j=n
   ·subst hj
    simp
   ·have h1:(n == j)=false:=by simpa using λe:n=j=>hj e.symm
    rw [h1]
    simp only [Bool.false_eq_true,if_false,Nat.add_zero]
    by_cases h2:j<n
    ·rw [if_pos h2,if_pos (by omega)]
    ·rw [if_neg h2,if_neg (by omega)]
theorem mem_suR (hp:∀ p∈ps,p.1<p.2) {i j:Nat} (hi:i<N) (h:j∈suR ps N i):i<j/\j<N/\i∈preds ps j:=by
 have h1:=List.count_pos_iff.mpr h
 rw [suR_count hp i j N hi] at h1
 split at h1
 ·rename_i hj
  refine⟨?_,hj,List.count_pos_iff.mp h1⟩
  rcases Nat.lt_or_ge i j with h2 | h2
  ·exact h2
  ·rw [preds_lt hp h2] at h1;omega
 ·omega
theorem suR_len (hp:∀ p∈ps,p.1<p.2) (n i:Nat):(suR ps n i).length<=n * ps.length:=by
 induction n with
 | zero=>simp [suR]
 | succ n ih=>
  unfold suR
  split
  ·simp
  ·rw [List.length_append,List.length_replicate,Nat.succ_mul]
   have h1:(preds ps n).count i<=(preds ps n).length:=List.count_le_length
   have h2:(preds ps n).length<=ps.length:=by unfold preds;rw [List.length_map];exact List.length_filter_le _ _
   omega
theorem dfold_np (i:Nat):∀ (su:List Nat) (st:(Nat->Int)×List Nat),(dfold su st).1 i=st.1 i-(su.count i:Int):=by
 intro su
 induction su with
 | nil=>intro st;simp [dfold]
 | cons a r ih=>
  intro st
  show (dfold r (dstep st a)).1 i=_
  rw [ih]
  show (if i=a then st.1 a-1 else st.1 i)-_=_
  by_cases e:i=a
  ·subst e
   rw [if_pos rfl,List.count_cons_self]
   omega
  ·rw [if_neg e,List.count_cons_of_ne (λz=>e z.symm)]
theorem dfold_l:∀ (su:List Nat) (st:(Nat->Int)×List Nat),(∀ j∈su,(su.count j:Int)<=st.1 j)->∃ L,(dfold su st).2=st.2++L/\L.Nodup/\∀ j,j∈L ↔ j∈su/\st.1 j=(su.count j:Int):=by
 intro su
 induction su with
 | nil=>intro st _;exact⟨[],by simp [dfold],List.nodup_nil,λj=>by simp⟩
 | cons a r ih=>
  intro st h
  have ha:=h a (zH ..)
  rw [List.count_cons_self] at ha
  refine q1_3 (ih (dstep st a) (λj hj=>by
   show _<=(if j=a then st.1 a-1 else st.1 j)
   by_cases e:j=a
   ·subst e;rw [if_pos rfl];omega
   ·have:=h j (zT hj)
    rw [List.count_cons_of_ne (λz=>e z.symm)] at this
    rw [if_neg e];exact this)) λL h1 h2 h3=>?_
  have h3':∀ j,j∈L ↔ j∈r/\(if j=a then st.1 a-1 else st.1 j)=(r.count j:Int):=h3
  have e0:(dfold (a::r) st).2=(dstep st a).2++L:=h1
  have e1:(dstep st a).2=if st.1 a-1=0 then st.2++[a] else st.2:=rfl
  by_cases h0:st.1 a-1=0
  ·have hc:r.count a=0:=by omega
   have har:a∉r:=List.count_eq_zero.mp hc
   refine e1_3 (a::L) (by rw [e0,e1,if_pos h0];simp) (List.nodup_cons.mpr ⟨λhm=>har ((h3' a).mp hm).1,h2⟩) (λj=>?_)
   rw [List.mem_cons,h3' j,List.mem_cons]
   by_cases e:j=a
   ·subst e
    rw [List.count_cons_self]
    constructor
    ·intro _;exact⟨.inl rfl,by omega⟩
    ·intro _;exact .inl rfl
   ·rw [if_neg e,List.count_cons_of_ne (λz=>e z.symm)]
    simp [e]
  ·refine e1_3 L (by rw [e0,e1,if_neg h0]) h2 (λj=>?_)
   rw [h3' j,List.mem_cons]
   by_cases e:j=a
   ·subst e
    rw [if_pos rfl,List.count_cons_self]
    constructor
    ·intro zz;refine q0_2 zz λ_ q=>?_;clear zz;exact⟨.inl rfl,by omega⟩
    ·intro zz;refine q0_2 zz λ_ q=>?_;clear zz
     refine⟨List.count_pos_iff.mp ?_,by omega⟩
     omega
   ·rw [if_neg e,List.count_cons_of_ne (λz=>e z.symm)]
    simp [e]
structure Pst (ps:List (Nat×Nat)) (N:Nat) (o:Int) (ln:Nat->Nat) (ev:List Evt) (np:Nat->Int) (rd wt:List Nat):Prop where
 run:Run ps N o ln ev
 np:∀ i,i<N->np i=npOf ps ev i
 rdN:rd.Nodup
 rd:∀ i,i∈rd ↔ i<N/\i∉outs ev/\∀ p∈ps,p.2=i->p.1∈dns ev
 wt:wt.Perm ((outs ev).filter λi=>!decide (i∈dns ev))
theorem Pst.start (hN:∀ i,i<N->(preds ps i).length=left ps [] i):Pst ps N o ln [] (λi=>((preds ps i).length:Int)) ((List.range N).filter λi=>(((preds ps i).length:Int) == 0)) []:=by
 refine⟨Run.nil,λi hi=>?_,List.Pairwise.filter _ List.nodup_range,λi=>?_,List.Perm.refl _⟩
 ·show _=npOf ps [] i
  unfold npOf
  rw [if_neg (by simp [dns]),if_neg (by simp [outs]),hN i hi]
  rfl
 ·rw [List.mem_filter,List.mem_range]
  constructor
  ·intro zz;refine q0_2 zz λh1 h2=>?_;clear zz
   refine⟨h1,by simp [outs],?_⟩
   have h3:(preds ps i).length=0:=by simpa using h2
   rw [hN i h1] at h3
   exact left_zero.mp h3
  ·intro zz;refine q0_3 zz λh1 _ h3=>?_;clear zz
   refine⟨h1,?_⟩
   have:=left_zero.mpr h3
   have e:(dns ([]:List Evt))=[]:=rfl
   rw [e,← hN i h1] at this
   simpa using this
theorem preds_left (i:Nat):(preds ps i).length=left ps [] i:=by
 unfold preds left
 simp
section
variable {np:Nat->Int} {rd wt:List Nat}
structure Mid (ps:List (Nat×Nat)) (N:Nat) (o:Int) (ln:Nat->Nat) (ev:List Evt) (np:Nat->Int) (wt:List Nat):Prop where
 run:Run ps N o ln ev
 np:∀ i,i<N->np i=npOf ps ev i
 wt:wt.Perm ((outs ev).filter λi=>!decide (i∈dns ev))
 eager:∀ k,k<N->(∀ p∈ps,p.2=k->p.1∈dns ev)->k∈outs ev
theorem Pst.mid (h:Pst ps N o ln ev np rd wt):Mid ps N o ln (ev++rd.map λi=>(false,i)) (λi=>if i∈rd then -1 else np i) (wt++rd):=by
 have ho:outs (ev++rd.map λi=>(false,i))=outs ev++rd:=by rw [outs_app,outs_map]
 have hd:dns (ev++rd.map λi=>(false,i))=dns ev:=by rw [dns_app,dns_map,List.append_nil]
 have hrd:∀ i∈rd,i∉dns ev:=λi hi hm=>((h.rd i).mp hi).2.1 (h.run.sub i hm)
 refine⟨Run.outs rd h.run h.rdN λi hi=>(h.rd i).mp hi,λi hi=>?_,?_,λk hk hp=>?_⟩
 ·unfold npOf
  rw [ho,hd]
  by_cases e:i∈rd
  ·rw [if_pos e,if_neg (hrd i e),if_pos (List.mem_append_right _ e)]
  ·rw [if_neg e,h.np i hi]
   unfold npOf
   by_cases e2:i∈dns ev
   ·rw [if_pos e2,if_pos e2]
   ·rw [if_neg e2,if_neg e2]
    by_cases e3:i∈outs ev
    ·rw [if_pos e3,if_pos (List.mem_append_left _ e3)]
    ·rw [if_neg e3,if_neg (λhm=>(List.mem_append.mp hm).elim e3 e)]
 ·rw [ho,hd,List.filter_append]
  have:rd.filter (λi=>!decide (i∈dns ev))=rd:=List.filter_eq_self.mpr λi hi=>by simp [hrd i hi]
  rw [this]
  exact h.wt.append_right rd
 ·rw [hd] at hp
  rw [ho]
  by_cases e:k∈outs ev
  ·exact List.mem_append_left _ e
  ·exact List.mem_append_right _ ((h.rd k).mpr ⟨hk,e,hp⟩)
theorem Mid.mem (h:Mid ps N o ln ev np wt) {g:Nat}:g∈wt ↔ g∈outs ev/\g∉dns ev:=by
 rw [h.wt.mem_iff,List.mem_filter]
 simp
theorem Mid.done (hp:∀ p∈ps,p.1<p.2) (h:Mid ps N o ln ev np wt) {g:Nat} {rest:List Nat} (hw:(g::rest).Perm wt) (hk:∀ y∈rest,kkey o ln ev g<=kkey o ln ev y) :
  g<N/\np g=-1/\Pst ps N o ln (ev++[(true,g)]) (dfold (suR ps N g) (λi=>if i=g then -2 else np i,[])).1 (dfold (suR ps N g) (λi=>if i=g then -2 else np i,[])).2 rest:=by
 have hgw:g∈wt:=hw.mem_iff.mp (zH ..)
 refine q0_2 (h.mem.mp hgw) λhgo hgd=>?_
 have hgN:=h.run.lt g hgo
 have hnp:np g=-1:=by
  rw [h.np g hgN];unfold npOf;rw [if_neg hgd,if_pos hgo]
 have ho:outs (ev++[(true,g)])=outs ev:=by rw [outs_app,outs_t,List.append_nil]
 have hd:dns (ev++[(true,g)])=dns ev++[g]:=by rw [dns_app,dns_t]
 have nout:∀ j∈suR ps N g,j∉outs ev:=λj hj hm=>by
  refine byC0 λzn=>?_
  refine q0_3 (mem_suR hp hgN hj) λh1 h2 h3=>?_
  refine q1_2 (List.mem_map.mp h3) λp hp' z1=>?_;subst z1
  refine q0_2 (List.mem_filter.mp hp') λh4 h5=>?_
  refine zn ?_;clear zn
  exact hgd (h.run.pred j hm p h4 (by simpa using h5))
 have cnt:∀ j,j∉suR ps N g->(suR ps N g).count j=0:=λj hj=>List.count_eq_zero.mpr hj
 have npo:∀ j,j<N->j∉outs ev->np j=(left ps (dns ev++[g]) j:Int)+((suR ps N g).count j:Int):=λj hj hm=>by
  rw [h.np j hj]
  unfold npOf
  rw [if_neg (λz=>hm (h.run.sub j z)),if_neg hm,left_done hgd,suR_count hp g j N hgN,if_pos hj]
  omega
 refine⟨hgN,hnp,?_⟩
 refine q1_3 (dfold_l (suR ps N g) (λi=>if i=g then -2 else np i,[]) (λj hj=>by
  refine q0_3 (mem_suR hp hgN hj) λh1 h2 h3=>?_
  show _<=(if j=g then -2 else np j)
  rw [if_neg (by omega),npo j h2 (nout j hj)]
  omega)) λL l1 l2 l3=>?_
 rw [l1,List.nil_append]
 refine⟨Run.snoc h.run ⟨hgo,hgd,λy hy hyd=>?_,h.eager⟩,λi hi=>?_,l2,λi=>?_,?_⟩
 ·have hyw:=hw.mem_iff.mpr (h.mem.mpr ⟨hy,hyd⟩)
  (rcases zD hyw with rfl | hyr)
  ·exact Int.le_refl _
  ·exact hk y hyr
 ·rw [dfold_np]
  show (if i=g then -2 else np i)-_=_
  unfold npOf
  rw [ho,hd]
  by_cases e:i=g
  ·subst e
   rw [if_pos rfl,if_pos (by simp),cnt i (λhm=>absurd (mem_suR hp hgN hm).1 (Nat.lt_irrefl _))]
   rfl
  ·rw [if_neg e]
   by_cases e3:i∈outs ev
   ·rw [cnt i (λhm=>nout i hm e3),h.np i hi]
    unfold npOf
    by_cases e2:i∈dns ev
    ·rw [if_pos e2,if_pos (List.mem_append_left _ e2)];rfl
    ·rw [if_neg e2,if_neg (λhm=>(List.mem_append.mp hm).elim e2 λz=>e (zS z)),if_pos e3,if_pos e3];rfl
   ·have e2:i∉dns ev:=λz=>e3 (h.run.sub i z)
    rw [if_neg (λhm=>(List.mem_append.mp hm).elim e2 λz=>e (zS z)),if_neg e3,npo i hi e3]
    omega
 ·rw [l3 i,ho,hd]
  show i∈suR ps N g/\(if i=g then -2 else np i)=_ ↔ _
  constructor
  ·intro zz;refine q0_2 zz λh1 h2=>?_;clear zz
   refine q0_3 (mem_suR hp hgN h1) λm1 m2 m3=>?_
   rw [if_neg (by omega),npo i m2 (nout i h1)] at h2
   exact⟨m2,nout i h1,left_zero.mp (by omega)⟩
  ·intro zz;refine q0_3 zz λh1 h2 h3=>?_;clear zz
   have hz:=left_zero.mpr h3
   have hin:i∈suR ps N g:=by
    cases Nat.eq_zero_or_pos ((suR ps N g).count i) with
    | inl h0=>
     exfalso
     have:=npo i h1 h2
     rw [h.np i h1,hz,h0] at this
     unfold npOf at this
     rw [if_neg (λz=>h2 (h.run.sub i z)),if_neg h2] at this
     exact h2 (h.eager i h1 (left_zero.mp (by omega)))
    | inr h0=>exact List.count_pos_iff.mp h0
   refine⟨hin,?_⟩
   have:=(mem_suR hp hgN hin).1
   rw [if_neg (by omega),npo i h1 h2,hz]
   omega
 ·rw [ho,hd]
  have h1:=hw.trans h.wt
  have h2:(outs ev).filter (λi=>!decide (i∈dns ev++[g]))=((outs ev).filter λi=>!decide (i∈dns ev)).filter λi=>!decide (i=g):=by
   rw [List.filter_filter]
   congr 1
   funext i
   simp [List.mem_append]
   by_cases a:i=g<;>by_cases b:i∈dns ev<;>simp [a,b]
  rw [h2]
  have h3:=h1.filter λi=>!decide (i=g)
  have hgr:g∉rest:=by
   have:(g::rest).Nodup:=h1.nodup_iff.mpr (List.Pairwise.filter _ h.run.outN)
   exact (List.nodup_cons.mp this).1
  have h4:(g::rest).filter (λi=>!decide (i=g))=rest:=by
   rw [List.filter_cons]
   simp
   intro a ha e
   exact hgr (e▸ha)
  rw [h4] at h3
  exact h3
end
end
end
section
variable {w:World} {A:Around} {s:Shared} {b h:Heap} {env:Env} {own:List (Str×Addr)} {m cm:SoV}
theorem ex_while {test:Expr} {body:List Stmt} {p:Pos} {Q:Shared->Prop} (I:Nat->Shared->Prop)
  (turn:∀ n s,I n s->Wp w A (isTrue test env (eval test env)) (λc s2=>if c=true then Wp w A (execs body env) (λf s3=>(f=.next\/f=.cont)/\∃ k,k<n/\I k s3) s2 else Q s2) s)
  (n:Nat) (hI:I n s):Wp w A (exec (.While test body [] p) env) (λf s'=>f=.next/\Q s') s:=by
 refine wpAny_While (codeAny_mono (R:=λr s'=>r=.ok .next/\Q s') (codeAny_whileLoop I (λn s hI=>(turn n s hI).to λc s2 q=>?_) n hI) λr s' q=>?_)
 ·cases c with
  | true=>
   simp only [if_true] at q ⊢
   refine q.to λf s3 q3=>?_
   refine byC0 λzn=>?_;(refine q0_2 q3 λz1 z2=>?_;clear q3;((rcases z1 with rfl | rfl))<;>(revert z2;intro q3))<;>(refine zn ?_;clear zn)
   ·exact q3
   ·exact q3
  | false=>
   simp only [Bool.false_eq_true,if_false] at q ⊢
   exact wpAny_execs_nil ⟨rfl,q⟩
 ·refine q0_2 q λz1 z2=>?_;clear q;subst z1;revert z2;intro q
  exact⟨rfl,q⟩
theorem eval_callF {x:Str} {p pos:Pos} {f:Addr} {fd:FuncData} {e:Expr} {rest:List Expr} {Ps:List (Value->Heap->Prop)} {Q:Value->Shared->Prop} (hb:Le b s.heap) (hf:Var s.heap env x (.ref f)) (hF:FnAt s.heap f fd) (ha:Yds w A b s.heap env (e::rest) Ps)
  (ho:∀ vs s1,Kp s s1->Paired (λP v=>P v s1.heap) Ps vs->Wp w A (call (.ref f) vs) Q s1)
  (hd:autoParam ((x == ("__debug__" : Str))=false) auD) (he:autoParam (starEach (e::rest) env=(false,eval e env)::starEach rest env) auR) :
  Wp w A (eval (.Call (.Name x p) (e::rest) [] pos) env) Q s:=by
 refine q1_3 (hF.fn) λo ho' hd' _=>?_
 exact PyProof.Rows.Call_Name rfl (wpAny_Name (hf w A s _ _ (Le.refl _) (callWith_def hd' ((ha s pos hb (Le.refl _)).to λvs s1 q=>
  ⟨q.1.le.get _ _ ho',ho vs s1 q.1 (q.2 _ (hb.trans q.1.le) (Nw.self _ _))⟩) he)) hd)
theorem eval_K0 {K:Frag} {x:Str} {p pos:Pos} {f:Value} {Q:Value->Shared->Prop} (hf:Var s.heap env x f) (X:K.In s.heap) (hk:keepIn K f=true) (h:Wp w A (call f []) Q s) (hd:autoParam ((x == ("__debug__" : Str))=false) auD) :
  Wp w A (eval (.Call (.Name x p) [] [] pos) env) Q s:=
 PyProof.Rows.Call_Name rfl (wpAny_Name (hf w A s _ _ (Le.refl _) (callWith_K0 X hk h)) hd)
theorem lookIn_ns {h:Heap} {a:Addr} {m:SoV} {n:Str} (N:h.Ns1 a m) (hm:m n=none):∃ o,h.get? a=some o/\lookIn n o=some none:=by
 refine q3_5 N λo es ep e d k _ f=>?_;clear N
 refine e1_2 o e ?_
 have hf:=f n
 rw [hm] at hf
 have h1:es.toList.find? (·.key.isStr n)=none:=by
  unfold nsFind findBy at hf
  rw [← Array.find?_toList] at hf
  simpa using hf
 have h2:es.toList.any (·.refKey)=false:=by
  rw [List.any_eq_false]
  intro en hen
  refine q2_1 (k en (Array.mem_toList_iff.mp hen)) λx t q=>?_
  simp [DictEntry.refKey,q]
 unfold lookIn
 rw [d]
 simp only [h1,h2,Bool.false_eq_true,if_false]
structure Con2 (K:Frag):Prop where
 pg:plainGet K 151 (sO "add")=true
 hh:hasDictIn K 151=true
 fi:findIn K (.ref 151) (sO "add")=some (some (.ref 101))
 isf:isFn K (.ref 101)=true
 sp:specialIn K (.ref 101) "__get__"=some (some (.builtin "function.__get__"))
 tk:takesIn K (.ref 101)=some false
 fn:fnIn K 101=true
theorem eval_methS {x dx:Addr} {mA:SoV} {K:Frag} {n:Str} {np apos pos sp:Pos} {e c:Expr} {P:Value->Heap->Prop} {ns:List Nat} {Q:Value->Shared->Prop} (hb:Le b s.heap) (V:Var s.heap env n (.ref x)) (I:IA s.heap x dx mA)
  (hm:mA (sO "add")=none) (X:K.In s.heap) (C2:Con2 K) (ha:Yd w A b s.heap env e P) (hc:Yd w A b s.heap env c (λv g=>∃ a,v=.ref a/\NatL g a ns)) (hsz:ns.length<=sizeLine)
  (h:∀ v vs s1,Kp s s1->P v s1.heap->Paired IsN ns vs->codeAny (model Pg w) A (.call (.ref 101) ⟨.ref x::v::vs,[]⟩) (λr s'=>match r with | .ok (.ret v)=>Q v s' | .ok _=>False | .error e=>Bot e s') s1) (hd:autoParam ((n == ("__debug__" : Str))=false) auD) (he:autoParam (starEach [e,.Starred c sp] env=(false,eval e env)::starEach [.Starred c sp] env) auR)
  (he':autoParam (starEach [.Starred c sp] env=(true,eval c env)::starEach [] env) auR) (hst:autoParam ((backTo pos (starEach [.Starred c sp] env)).any (·.1)=true) auR)
  (hE:autoParam (eval (.Call (.Attribute (.Name n np) (sO "add") apos) [e,.Starred c sp] [] pos) env=(do
   let ov ← eval (.Name n np) env
   standAt apos.atName
   let (f,first) ← holding [ov] (do pure (← getAttr ov (sO "add") true,[]))
   callWith pos f first (backTo pos (starEach [e,.Starred c sp] env)) [])) auR) :
  Wp w A (eval (.Call (.Attribute (.Name n np) (sO "add") apos) [e,.Starred c sp] [] pos) env) Q s:=by
 refine byC0 λzn=>?_
 refine q1_4 (I.obj) λox hox hcl hdx hnc=>?_
 refine q1_2 (lookIn_ns I.ns hm) λod hod hl=>?_
 refine zn ?_;clear zn
 have II:InstAt s.heap x ox 151 (some od):=⟨hox,hcl,by unfold notCls;split<;>first | rfl | (rename_i c hc;exact absurd hc (hnc c)),by rw [hdx];exact hod⟩
 rw [hE]
 refine wpAny_bind (Wp.to (Φ:=λv s'=>v=.ref x/\s'=s) (wpAny_Name (V w A s _ _ (Le.refl _) ⟨rfl,rfl⟩) hd) λv s1 q=>?_)
 refine byC0 λzn=>?_;refine q0_2 q λz1 e0=>?_;clear q;subst z1;refine zn ?_;clear zn
 rw [e0]
 clear e0 s1
 refine wpAny_bind (wpAny_standAt (wpAny_bind (wpAny_holding (wpAny_bind ?_))))
 refine get_bind X II (plainGet_of C2.pg).1 (findObj_fn C2.hh C2.fi C2.sp C2.tk (by decide) hl) (plainGet_of C2.pg).2
  (wpAny_call (fn_get (s:={ s with toks:=s.toks+1 }) X (beq_iff_eq.mp C2.isf) (handed_on rfl (wpAny_pure ?_))))
 generalize hs1:({ s with heap:=s.heap.push (methodObj (.ref 101) (.ref x)),toks:=s.toks+1 }:Shared)=s1
 have k1:Kp s s1:=by rw [← hs1];exact Kp.mk' (Le.push _ _)
 have hq:s1.heap.get? s.heap.objs.size=some (methodObj (.ref 101) (.ref x)):=by rw [← hs1];exact Heap.get?_push_size _ rfl
 show Wp w A (callWith pos (.ref s.heap.objs.size) [] (backTo pos (starEach [e,.Starred c sp] env)) []) Q _
 have hs1':({ s with heap:=s.heap.push (methodObj (.ref 101) (.ref x)),toks:=s.toks+1 }:Shared)=s1:=hs1
 refine ks_call (P:=MethP K s.heap.objs.size 101 (.ref x)) (by rw [he];show (false || (backTo pos (starEach [.Starred c sp] env)).any (·.1))=true;rw [hst];rfl) (λh=>keeps_M C2.fn h) ?_
 rw [he]
 refine evalArgs_plain (spliced_cons ?_)
 refine ((ha s1 (hb.trans k1.le) k1.le).to λv s2 q=>items_star (Wp.to (hc s2 (hb.trans (k1.trans q.1).le) (k1.trans q.1).le) λz s3 q3=>?_) he')
 have k3:=q.1.trans q3.1
 refine byC0 λzn=>?_;refine q1_2 (q3.2 s3.heap (hb.trans (k1.trans k3).le) (Nw.self _ _)) λa z1 z2=>?_;subst z1;refine q1_2 z2 λvs hvs hp=>?_;clear z2;refine zn ?_;clear zn
 refine star_list hvs.isList (by have:=hp.length;omega) λs4 k4=>spliced_nil ?_
 have k5:=k3.trans k4
 have hqm:=k5.le.get _ _ hq
 refine⟨⟨hqm,X.keeps (k1.trans k5).le.get⟩,?_⟩
 rw [List.append_nil]
 refine wpAny_call (method_call hqm ?_)
 exact h v vs s4 (k1.trans k5) (q.2 _ (hb.trans (k1.trans k5).le) ((Nw.self s1 s4).left (q3.1.trans k4).le)) hp
theorem Fs.upfC {s s':Shared} (F:Fs s.heap env own m cm) (U:Upf env.locals s s') (k:∀ n c,(n,c)∈own->∀ o,s.heap.get? c=some o->s'.heap.get? c=some o):Fs s'.heap env own m cm:=by
 refine byC0 λzn=>?_
 refine q3_4 (F.ns) λo es ep h1 h2 h3 h4=>?_
 refine q1_1 (U o h1) λsl h5=>?_
 refine zn ?_;clear zn
 refine⟨e3_4 _ es ep h5 h2 h3 h4,λn c hc=>?_,F.look,F.apart,F.off⟩
 refine q1_2 (F.cell n c hc) λoc e d=>?_
 exact e1_2 oc (k n c hc oc e) d
theorem evn_expr {e:Expr} {pos:Pos} {Φ:Value->Shared->Prop} (h:Wp w A (eval e env) Φ s) (hi:autoParam (interactive env=false) auR) (hs:autoParam (swapsWith e none pos.line env=pure false) auR):Wp w A (exec (.Expr e pos) env) (λfl s'=>fl=.next/\∃ v,Φ v s') s:=
 wpAny_Expr_any (h.to λv s' q=>e0_2 rfl (e1_1 v q)) hi hs
theorem is_true_call {e:Expr} {c:Bool} {Q:Bool->Shared->Prop} (h:Wp w A (eval e env) (λv s'=>v=.bool c/\Q c s') s) (he:autoParam (isTrue e env (eval e env)=(do let v ← eval e env;standAt e.pos;holding [v] (truthy v))) auR):Wp w A (isTrue e env (eval e env)) Q s:=by
 refine isTrue_plain (Wp.to h λv s' q=>?_) he
 refine q0_2 q λz1 z2=>?_;clear q;subst z1;revert z2;intro q
 exact wpAny_truthy_bool q
end
noncomputable def stF:PySem.Stmt->PySem.Expr×PySem.Expr | .For t it ..=>(t,it) | _=>(.Constant .none 0 default,.Constant .none 0 default)
noncomputable abbrev rcEnv (pm cd:Value) (L:Addr):Env:=callEnvC (fdOf (top 14) (sO "_law_record") .none pm cd) L 172
theorem rcCells (pm cd:Value) (L:Addr):(rcEnv pm cd L).cells=[(sO "node",L+1)]:=rfl
theorem preds_flat (ps:List (Nat×Nat)) (j:Nat):preds ps j=(ps.filter λp=>p.2 == j).flatMap λp=>[p.1]:=(flat2 _ _ _).symm
theorem preds_len (ps:List (Nat×Nat)) (j:Nat):(preds ps j).length<=ps.length:=by unfold preds;rw [List.length_map];exact List.length_filter_le _ _
namespace Z6
noncomputable section
def zQ (w:World) (A:Around) (s₀ s:Shared) (b b₀:Heap) (X:List Addr) (pm cd:Value) (L:Addr) (m cm mg mb mN:SoV) (K:Frag) (x dx d P Bh:Addr) (mA:SoV) (ps:List (Nat×Nat)) (vs us:List Value) (N n:Nat):Prop:=∀ (ok:Ok (n+5) A) (S:St w mg mb mN K b₀) (C:Con mg mb mN K) (C2:Con2 K) (I0:InF s₀ b X (rcEnv pm cd L) (rcEnv pm cd L).cells m cm s) (hb:Le b₀ b) (hps:m (sO "pairs")=some (.ref P)) (hbe:m (sO "behind")=some (.ref Bh)) (hso:m (sO "sorter")=some (.ref x)) (hP:b.IsList P vs.toArray) (hPs:Paired (λp v=>IsNP p v b) ps vs) (hBh:b.IsList Bh us.toArray) (hus:us.length=N) (hpl:∀ p∈ps,p.1<p.2) (hN:N<=100) (hpl2:ps.length<=100) (dX:d∈X) (hxd:x≠d) (hdd:dx≠d) (xX:x∈X/\dx∈X) (Ia:IA s.heap x dx mA) (hW:Within mA tsN) (h2:mA (sO "_node2info")=some (.ref d)) (hr:mA (sO "_ready_nodes")=some .none) (hd0:s.heap.DictOf (intKind Pg w) d []),Wp w A (exec (nth (fBody (top 14)) 1) (rcEnv pm cd L)) (λfl s'=>fl=.next/\∃ cm',InF s₀ b X (rcEnv pm cd L) (rcEnv pm cd L).cells m cm' s'/\IA s'.heap x dx mA/\(∃ NA EA SA,Gr w s'.heap d NA EA SA N (λi=>((preds ps i).length:Int)) (suR ps N)/\∀ a∈gA d NA EA SA N,a=d\/s.heap.get? a=none)/\∀ c o,c∉ft (rcEnv pm cd L) (rcEnv pm cd L).cells->c≠d->s.heap.get? c=some o->s'.heap.get? c=some o) s
abbrev zY:=((((World×(Around×Shared))×(Shared×(Heap×Heap)))×(((List Addr)×(Value×Value))×((Addr×SoV)×(SoV×SoV))))×(((SoV×(SoV×Frag))×((Addr×Addr)×(Addr×Addr)))×((Addr×(SoV×(List (Nat×Nat))))×(((List Value)×(List Value))×(Nat×Nat)))))
def zR (p:zY):=zQ p.1.1.1.1 p.1.1.1.2.1 p.1.1.1.2.2 p.1.1.2.1 p.1.1.2.2.1 p.1.1.2.2.2 p.1.2.1.1 p.1.2.1.2.1 p.1.2.1.2.2 p.1.2.2.1.1 p.1.2.2.1.2 p.1.2.2.2.1 p.1.2.2.2.2 p.2.1.1.1 p.2.1.1.2.1 p.2.1.1.2.2 p.2.1.2.1.1 p.2.1.2.1.2 p.2.1.2.2.1 p.2.1.2.2.2 p.2.2.1.1 p.2.2.1.2.1 p.2.2.1.2.2 p.2.2.2.1.1 p.2.2.2.1.2 p.2.2.2.2.1 p.2.2.2.2.2
def zc:zY:=eps1 (neP (neP (neP (neP neW (neP neA neS)) (neP neS neI)) neI) neI) zR
def w:=zc.1.1.1.1
def A:=zc.1.1.1.2.1
def s₀:=zc.1.1.1.2.2
def s:=zc.1.1.2.1
def b:=zc.1.1.2.2.1
def b₀:=zc.1.1.2.2.2
def X:=zc.1.2.1.1
def pm:=zc.1.2.1.2.1
def cd:=zc.1.2.1.2.2
def L:=zc.1.2.2.1.1
def m:=zc.1.2.2.1.2
def cm:=zc.1.2.2.2.1
def mg:=zc.1.2.2.2.2
def mb:=zc.2.1.1.1
def mN:=zc.2.1.1.2.1
def K:=zc.2.1.1.2.2
def x:=zc.2.1.2.1.1
def dx:=zc.2.1.2.1.2
def d:=zc.2.1.2.2.1
def P:=zc.2.1.2.2.2
def Bh:=zc.2.2.1.1
def mA:=zc.2.2.1.2.1
def ps:=zc.2.2.1.2.2
def vs:=zc.2.2.2.1.1
def us:=zc.2.2.2.1.2
def N:=zc.2.2.2.2.1
def n:=zc.2.2.2.2.2
theorem zaux:zQ w A s₀ s b b₀ X pm cd L m cm mg mb mN K x dx d P Bh mA ps vs us N n:=by
 intro ok S C C2 I0 hb hps hbe hso hP hPs hBh hus hpl hN hpl2 dX hxd hdd xX Ia hW h2 hr hd0
 have lbs:=hb.trans I0.le
 have bR:=C.blt (sO "range") (by simp)
 have bL:=C.blt (sO "len") (by simp)
 have VR:=I0.fs.blt (S.le lbs).g bR.1 (S.le lbs).b (bR.2.trans (by decide +kernel:bootBuiltins (sO "range")=some (.type "range"))) rfl rfl rfl rfl
 have VL:=I0.fs.blt (S.le lbs).g bL.1 (S.le lbs).b (bL.2.trans (by decide +kernel:bootBuiltins (sO "len")=some (.builtin "len"))) rfl rfl rfl rfl
 have mNd:(sO "node",L+1)∈(rcEnv pm cd L).cells:=by rw [rcCells];simp
 have dft:d∉ft (rcEnv pm cd L) (rcEnv pm cd L).cells:=I0.apart d dX
 refine q1_2 (Ia.obj) λox hox _=>?_
 obtain ⟨odx,hodx⟩:∃ o,s.heap.get? dx=some o:=q3_2 Ia.ns.ns λo _ _ e _=>⟨o,e⟩
 have src:Src w A b s.heap (rcEnv pm cd L) ((stF (nth (fBody (top 14)) 1)).2) (List.range N) (λi v=>∃ t,v=.int (i:Int) t):=
  Src.range ok.hd VR (Yd.lenL (n:=N) VL (Yd.namV (I0.fs.var (x:=sO "behind") rfl rfl hbe)) (λv g hg hg' q=>by cases q;exact e2_3 Bh _ rfl (hBh.at λo e=>hg.get _ _ e) (by simp [hus])) (by omega)) (by omega)
 refine Wp.to (ex_forE (Ψ:=λs'=>∃ cm',InF s₀ b X (rcEnv pm cd L) (rcEnv pm cd L).cells m cm' s'/\IA s'.heap x dx mA/\(∃ NA EA SA,Gr w s'.heap d NA EA SA N (λi=>((preds ps i).length:Int)) (suR ps N)/\∀ a∈gA d NA EA SA N,a=d\/s.heap.get? a=none)/\
   ∀ c o,c∉ft (rcEnv pm cd L) (rcEnv pm cd L).cells->c≠d->s.heap.get? c=some o->s'.heap.get? c=some o) ((src.2 s I0.le (Le.refl _)).to λx0 s1 q1=>?_) src.1) λfl s' q=>q
 have I1:=I0.kp q1.1
 refine Wp.to (for_loopE (body:=fBody (nth (fBody (top 14)) 1)) (target:=(stF (nth (fBody (top 14)) 1)).1) (B:=IsN) (xs:=List.range N) (λv m cm m' cm'=>∃ u,IsN v u/\m'=m/\cm'=up cm (sO "node") u)
  (λIk i b' m' cm' s'=>b'=b/\m'=m/\IA s'.heap x dx mA/\(∃ NA EA SA,Gr w s'.heap d NA EA SA i (λi=>((preds ps i).length:Int)) (suR ps i)/\(∀ a∈gA d NA EA SA i,a=d\/s.heap.get? a=none)/\Ik∉gA d NA EA SA i)/\
   ∀ c o,c∉ft (rcEnv pm cd L) (rcEnv pm cd L).cells->c≠d->s.heap.get? c=some o->s'.heap.get? c=some o) I1 q1.2
  (λIk s' k hIk=>?_) (λv u s' m' cm' hp hB hs' F'=>?_) λi v Ik b' m1 cm1 t1 m2 cm2 t2 hi hl' Iin hIX hI0 hJ E12 hK J2=>?_) λit s2 q2=>codeAny_mono q2 λr s' q=>?_
 ·have l:Le s.heap s'.heap:=(q1.1.trans k).le
  refine⟨rfl,rfl,Ia.le l,e3_3 (λ_=>0) (λ_=>0) (λ_=>0) ⟨hd0.at λo e=>l.get _ _ e,λi hi=>absurd hi (Nat.not_lt_zero _),λi hi=>absurd hi (Nat.not_lt_zero _),λi j hi=>absurd hi (Nat.not_lt_zero _),λi hi=>absurd hi (Nat.not_lt_zero _)⟩ (λa ha=>?_) (λhm=>?_),λc o _ _ e=>l.get _ _ e⟩
  ·(rcases mem_gA.mp ha with h | z1)<;>(first | (refine q1_2 z1 λi hi _=>?_;clear z1) | skip)
   ·exact .inl h
   ·exact absurd hi (Nat.not_lt_zero _)
  ·(rcases mem_gA.mp hm with h | z1)<;>(first | (refine q1_2 z1 λi hi _=>?_;clear z1) | skip)
   ·refine q1_1 (I1.live d dX) λo e=>?_
    rw [h,e] at hIk;cases hIk
   ·exact absurd hi (Nat.not_lt_zero _)
 ·exact (asg_cell F' rfl rfl mNd (λn c' hn he=>by rw [rcCells] at hn;subst he;simp at hn;exact hn)).to λ_ s'' q=>e0_2 q.1 (e2_2 _ _ q.2 (e1_3 u hB rfl rfl))
 ·refine byC0 λzn=>?_
  refine q0_5 hJ λhbb hmm Ja z1 hkeep=>?_;clear hJ;refine q3_3 z1 λNA EA SA G hnew hIg=>?_;clear z1
  refine q1_3 hK λu z1 hm2 z3=>?_;clear hK;refine q1_1 z1 λtv z2=>?_;clear z1;subst z2;subst z3
  refine zn ?_;clear zn
  rw [hbb] at Iin J2 ⊢
  rw [hm2,hmm] at J2
  clear hm2 hmm Iin hl' hbb b' m1 m2
  have hiv:v=i:=by
   have:=List.getElem?_eq_some_iff.mp hi
   refine q1_1 this λh1 h2=>?_;clear this
   simp at h2;omega
  subst hiv
  have hvN:v<N:=by have:=List.mem_of_getElem? hi;simpa using this
  have hDf:∀ a∈gA d NA EA SA v,a∉Ik::ft (rcEnv pm cd L) (rcEnv pm cd L).cells:=λa ha hm=>by
   rcases zC hm with h | h
   ·exact hIg (h▸ha)
   ·(rcases hnew a ha with rfl | h')
    ·exact dft h
    ·refine q1_1 (I0.fs.live a h) λo e=>?_
     rw [h'] at e;cases e
  have keep12:∀ c o,c∉ft (rcEnv pm cd L) (rcEnv pm cd L).cells->c≠Ik->t1.heap.get? c=some o->t2.heap.get? c=some o:=λc o h1 h2 e=>E12.get c o (λhm=>(zC hm).elim h2 h1) e
  have xIk:∀ {c:Addr} {o:Obj},s.heap.get? c=some o->c≠Ik:=λ{c o} e z=>by
   have:=q1.1.le.get _ _ e
   rw [z,hI0] at this;cases this
  have xft:x∉ft (rcEnv pm cd L) (rcEnv pm cd L).cells/\dx∉ft (rcEnv pm cd L) (rcEnv pm cd L).cells:=⟨I0.apart x xX.1,I0.apart dx xX.2⟩
  have G2:=G.get (h':=t2.heap) λa ha o e=>E12.get a o (hDf a ha) e
  have Ja2:IA t2.heap x dx mA:=Ja.get λa ha o e=>keep12 a o (by (rcases ha with rfl | rfl);exact xft.1;exact xft.2) (by (rcases ha with rfl | rfl);exact xIk hox;exact xIk hodx) e
  have off:∀ a∈gA d NA EA SA v,b.get? a=none:=λa ha=>by
   (rcases hnew a ha with rfl | h')
   ·exact I0.off _ (.inr dX)
   ·exact I0.le.none h'
  have nxg:x∉gA d NA EA SA v/\dx∉gA d NA EA SA v:=by
   refine⟨λhm=>?_,λhm=>?_⟩
   ·rcases hnew x hm with h | h
    ·exact hxd h
    ·rw [hox] at h;cases h
   ·rcases hnew dx hm with h | h
    ·exact hdd h
    ·rw [hodx] at h;cases h
  have lt2:=hb.trans J2.le
  have hcn:=(J2.fs.cell (sO "node") (L+1) mNd)
  rw [show up cm1 (sO "node") (Value.int (v:Int) tv) (sO "node")=some (Value.int (v:Int) tv) from by simp [up]] at hcn
  refine seqk (Wp.to (evn_expr (Φ:=λu t4=>∃ t3,Kp t2 t3/\Ev (gA d NA EA SA v) t3 t4/\∃ a e l,t3.heap.get? a=none/\t3.heap.get? e=none/\t3.heap.get? l=none/\
   Gr w t4.heap d (λi=>if i=v then a else NA i) (λi=>if i=v then e else EA i) (λi=>if i=v then l else SA i) (v+1) (λi=>if i=v then ((preds ps v).length:Int) else ((preds ps i).length:Int)) (λi=>if i=v then [] else suR ps v i++List.replicate ((preds ps v).count i) v))
   (eval_methS (ns:=preds ps v) J2.le (J2.fs.var (x:=sO "sorter") rfl rfl hso) Ja2 (Mine.Internal.Within.no hW (by decide)) (S.le lt2).k C2 (Yd.namI (J2.fs.varC (x:=sO "node") (v:=.int (v:Int) tv) rfl rfl mNd (by simp [up]))) ?comp ?sz λz zs t3 k3 hz hzs=>?call)) λfl t4 q=>?_)
  case comp=>
   rw [preds_flat]
   refine (Yd.comp (cl:=[(sO "node",L+1)]) (xs:=ps) (B:=λp v=>IsNP p v b) (R:=λi v _=>IsN i v) (K₁:=λp m _=>(∃ t,m (sO "first")=some (.int (p.1:Int) t))/\∃ t,m (sO "last")=some (.int (p.2:Int) t)) rfl rfl (by decide) rfl (by intro g' h;cases h) (by intro C n c h;cases h) J2.le
    (Src.list ok.hd (Yd.namV (J2.fs.var (x:=sO "pairs") rfl rfl hps)) (hP.at λo e=>J2.le.get _ _ e) hPs) (by
     rw [flat2,List.length_map,sizeLine_eq]
     have:=List.length_filter_le (λp:Nat×Nat=>p.2 == v) ps
     omega) λCc D' O=>⟨λp u s' m' cm' hx hB hs F=>?_,λp hh m' cm' hx hr F hK=>?_,λp hx hpp=>emit_leaf rfl J2.le O λhh m' cm' hr F hK=>?_⟩).mono λ_ _ _ q=>IsL.nat q
   ·refine byC0 λzn=>?_;refine q2_2 hB λT ws z1 z2=>?_;clear hB;subst z1;refine q0_2 z2 λhT hw=>?_;clear z2;refine zn ?_;clear zn
    refine v2 hw λy1 y2 ey a a'=>?_;subst ey
    refine byC0 λzn=>?_
    refine q1_1 a λta z1=>?_;clear a;subst z1
    refine q1_1 a' λtb z1=>?_;clear a';subst z1
    refine zn ?_;clear zn
    exact (asg_tup2 ok.hd F rfl rfl rfl (hT.at λo e=>(J2.le.trans hs).get _ _ e)).to λ_ s'' q=>e0_2 q.1 (e2_3 _ _ q.2 ⟨ta,by simp +decide [up]⟩ ⟨tb,by simp [up]⟩)
   ·refine byC0 λzn=>?_;refine q0_2 hK λz1 z2=>?_;clear hK;refine q1_1 z1 λta ha=>?_;clear z1;refine q1_1 z2 λtb hb'=>?_;clear z2;refine zn ?_;clear zn
    have e:(((p.2:Nat):Int) == ((v:Nat):Int))=(p.2 == v):=by rw [Bool.eq_iff_iff];simp only [beq_iff_eq];omega
    rw [← e]
    exact Ts.one (Td.eq (Yd.nam (F.var (x:=sO "last") rfl rfl hb') λ_ _=>⟨tb,rfl⟩) (Yd.nam (F.cel (x:=sO "node") (hcn.keeps hr.get) rfl rfl rfl) λ_ _=>⟨tv,rfl⟩))
   ·refine byC0 λzn=>?_;refine q0_2 hK λz1 z2=>?_;clear hK;refine q1_1 z1 λta ha=>?_;clear z1;refine q1_1 z2 λtb hb'=>?_;clear z2;refine zn ?_;clear zn
    exact Yd.nam (F.var (x:=sO "first") rfl rfl ha) λ_ _=>⟨ta,rfl⟩
  case sz=>
   have:=preds_len ps v
   rw [sizeLine_eq];omega
  case call=>
   refine byC0 λzn=>?_;refine q1_1 hz λtz z1=>?_;clear hz;subst z1;refine zn ?_;clear zn
   have lt3:=lt2.trans k3.le
   refine codeAny_mono (add_code (n:=n) ok S lt3 C (Ja2.le k3.le) h2 hr (Mine.Internal.Within.no hW (by decide)) (G2.le k3.le) (λa ha=>hb.none (off a ha)) nxg.1 nxg.2 (by omega) hzs (λp hp=>?_) (by have:=preds_len ps v;omega) λi hi=>?_) λr t4 q=>by
    rcases r with e | (_ | _ | _ | v')<;>first | exact q.elim | exact⟨t3,k3,q.2⟩
   ·refine byC0 λzn=>?_
    refine q1_2 (List.mem_map.mp hp) λp' hp' z1=>?_;subst z1
    refine q0_2 (List.mem_filter.mp hp') λh3 h4=>?_
    refine zn ?_;clear zn
    have:=hpl p' h3
    have h5:p'.2=v:=by simpa using h4
    omega
   ·have:=suR_len hpl v i
    have h6:v * ps.length<=100 * 100:=Nat.mul_le_mul (by omega) hpl2
    omega
  ·refine byC0 λzn=>?_;refine q0_2 q λz1 z2=>?_;clear q;subst z1;refine q2_3 z2 λu t3 k3 E34 z3=>?_;clear z2;refine q3_4 z3 λa e l na ne nl G4=>?_;clear z3;refine zn ?_;clear zn
   have E24:Ev (gA d NA EA SA v) t2 t4:=k3.ev.trans E34
   have nI:Ik≠a/\Ik≠e/\Ik≠l:=by
    refine q1_1 (J2.live Ik (zH ..)) λo q=>?_
    have q':=k3.le.get _ _ q
    refine⟨?_,?_,?_⟩<;>(intro z;subst z;rw [q'] at *;simp_all)
   have hIgo:Ik∉gA d NA EA SA v:=hIg
   have new0:∀ {c:Addr},t3.heap.get? c=none->s.heap.get? c=none:=λ{c} hc=>by
    cases q:s.heap.get? c with
    | none=>rfl
    | some o=>
     exfalso
     by_cases h1:c∈ft (rcEnv pm cd L) (rcEnv pm cd L).cells
     ·refine q1_1 (J2.fs.live c h1) λo' e'=>?_
      rw [k3.le.get _ _ e'] at hc;cases hc
     ·by_cases h2:c=d
      ·refine q1_1 (G2.live d (by simp [gA])) λo' e'=>?_
       rw [h2,k3.le.get _ _ e'] at hc;cases hc
      ·rw [k3.le.get _ _ (keep12 c o h1 (xIk q) (hkeep c o h1 h2 q))] at hc;cases hc
   refine nil_ (e0_3 (.inl rfl) (λo q=>E24.get Ik o hIgo q) (e3_7 b m _ (Le.refl _) (J2.ev2 E24 off (J2.fs.get λc hc o e=>E24.get c o (λhm=>hDf c hm (zT hc)) e) (λc hc hm=>?_)) rfl rfl ?_ (e3_3 _ _ _ (G4.congr (λi _=>by split<;>simp_all) (λi _=>rfl)) (λc hc=>?_) (λhm=>?_)) (λc o h1 h2 q=>?_)))
   ·(rcases zD hc with rfl | hc)
    ·exact absurd hm hIgo
    ·(rcases hnew c hm with rfl | h)
     ·exact G4.live _ (by simp [gA])
     ·refine q1_1 (I0.live c hc) λo q=>?_
      rw [h] at q;cases q
   ·exact Ja2.get λc hc o q=>E24.get c o (by (rcases hc with rfl | rfl);exact nxg.1;exact nxg.2) q
   ·(rcases mem_gA.mp hc with z0 | z1)<;>(first | subst z0 | (refine q1_2 z1 λi hi h=>?_;clear z1) | skip)
    ·exact .inl rfl
    ·by_cases hiv:i=v
     ·subst hiv
      simp only [if_true] at h
      (rcases h with z0 | z0 | z0)<;>(replace z0:=Eq.symm z0;subst z0)
      ·exact .inr (new0 na)
      ·exact .inr (new0 ne)
      ·exact .inr (new0 nl)
     ·simp only [if_neg hiv] at h
      exact hnew c (mem_gA.mpr (.inr (e1_2 i (by omega) h)))
   ·(rcases mem_gA.mp hm with h | z1)<;>(first | (refine q1_2 z1 λi hi h=>?_;clear z1) | skip)
    ·exact hIg (mem_gA.mpr (.inl h))
    ·by_cases hiv:i=v
     ·subst hiv
      simp only [if_true] at h
      rcases h with h | h | h
      ·exact nI.1 h
      ·exact nI.2.1 h
      ·exact nI.2.2 h
     ·simp only [if_neg hiv] at h
      exact hIg (mem_gA.mpr (.inr (e1_2 i (by omega) h)))
   ·refine E24.get c o (λhm=>?_) (keep12 c o h1 (xIk q) (hkeep c o h1 h2 q))
    rcases hnew c hm with h | h
    ·exact h2 h
    ·rw [q] at h;cases h
 ·refine byC0 λzn=>?_;refine q0_2 q λz1 z2=>?_;clear q;subst z1;refine q5_8 z2 λIk b' m' cm' s3 l' I4 hIf hIX hIn I5 z3 E3=>?_;clear z2;refine q0_2 z3 λz4 z5=>?_;clear z3;subst z4;refine q0_2 z5 λz6 z7=>?_;clear z5;subst z6;refine q0_3 z7 λJa z8 hkeep=>?_;clear z7;refine q3_3 z8 λNA EA SA G hnew hIg=>?_;clear z8;refine zn ?_;clear zn
  rw [List.length_range] at G hnew hIg
  have xIk:∀ {c:Addr} {o:Obj},s.heap.get? c=some o->c≠Ik:=λ{c o} e z=>by
   have:=q1.1.le.get _ _ e
   rw [z,hIn] at this;cases this
  refine e0_2 rfl (e1_4 cm' I4 (Ja.get λc hc o q=>E3.get c o (by (rcases hc with rfl | rfl);simpa using xIk hox;simpa using xIk hodx) q) ⟨NA,EA,SA,G.get λc hc o q=>E3.get c o (λhm=>hIg (zS hm▸hc)) q,hnew⟩ (λc o h1 h2 q=>E3.get c o (by simpa using xIk q) (hkeep c o h1 h2 q)))
theorem zall:∀ p,zR p:=all1 zaux
end
end Z6
theorem rec_adds {w A s₀ s b b₀ X pm cd L m cm mg mb mN K x dx d P Bh mA ps vs us N n}:Z6.zQ w A s₀ s b b₀ X pm cd L m cm mg mb mN K x dx d P Bh mA ps vs us N n:=Z6.zall ((((w,(A,s₀)),(s,(b,b₀))),((X,(pm,cd)),((L,m),(cm,mg)))),(((mb,(mN,K)),((x,dx),(d,P))),((Bh,(mA,ps)),((vs,us),(N,n)))))
noncomputable def uCps (e:Evt):List Nat:=if e.1 then [92,97+e.2] else [97+e.2]
noncomputable def tCps (ev:List Evt):List Nat:=ev.flatMap uCps
noncomputable def bkFrom:Nat->List Evt->List (Nat×Evt)
 | _,[]=>[]
 | n,e::r=>(n+(uCps e).length-1,e)::bkFrom (n+(uCps e).length) r
theorem tCps_app (a b:List Evt):tCps (a++b)=tCps a++tCps b:=by simp [tCps]
theorem tCps_one (e:Evt):tCps [e]=uCps e:=by simp [tCps]
theorem bkFrom_app (a b:List Evt):∀ n,bkFrom n (a++b)=bkFrom n a++bkFrom (n+(tCps a).length) b:=by
 induction a with
 | nil=>intro n;simp [bkFrom,tCps]
 | cons e r ih=>
  intro n
  show _::bkFrom _ (r++b)=_::bkFrom _ r++_
  rw [ih]
  have:(tCps (e::r)).length=(uCps e).length+(tCps r).length:=by simp [tCps]
  rw [this,Nat.add_assoc]
  rfl
theorem bkFrom_len (a:List Evt):∀ n,(bkFrom n a).length=a.length:=by
 induction a with
 | nil=>intro n;rfl
 | cons e r ih=>intro n;simp [bkFrom,ih]
theorem uCps_len (e:Evt):1<=(uCps e).length/\(uCps e).length<=2:=by unfold uCps;split<;>simp
theorem tCps_len (a:List Evt):(tCps a).length<=2 * a.length:=by
 induction a with
 | nil=>simp [tCps]
 | cons e r ih=>
  have h:(tCps (e::r)).length=(uCps e).length+(tCps r).length:=by simp [tCps]
  have:=uCps_len e
  rw [h,List.length_cons];omega
noncomputable def IsBk (p:Nat×Evt) (v:Value) (g:Heap):Prop:=IsT [IsI (p.1:Int),IsS ⟨(uCps p.2).toArray⟩] v g
theorem IsBk.le {p:Nat×Evt} {v:Value} {g g':Heap} (l:Le g g') (x:IsBk p v g):IsBk p v g':=by
 refine q2_2 x λT vs z1 z2=>?_;clear x;subst z1;refine q0_2 z2 λhT hp=>?_;clear z2
 refine e2_3 T vs rfl (hT.at λo e=>l.get _ _ e) ?_
 refine v2 hp λy1 y2 ey a a'=>?_;subst ey
 exact .cons a (.cons a' .nil)
theorem valueAt_app_old {kv:List (Int×Value)} {k:Int} {u v:Value} {j:Int} (h:valueAt kv j=some v):valueAt (kv++[(k,u)]) j=some v:=by
 unfold valueAt at h ⊢
 rw [List.find?_append]
 cases e:kv.find? λx=>x.1=j with
 | none=>rw [e] at h;cases h
 | some p=>rw [e] at h;exact h
theorem valueAt_app_new {kv:List (Int×Value)} {k:Int} {u:Value} (h:k∉kv.map (·.1)):valueAt (kv++[(k,u)]) k=some u:=by
 unfold valueAt
 rw [List.find?_append]
 have:kv.find? (λx=>x.1=k)=none:=by
  rw [List.find?_eq_none]
  intro x hx
  simp
  exact λe=>h (List.mem_map.mpr (e1_2 x hx e))
 rw [this]
 simp
theorem stored_new {kv:List (Int×Value)} {k:Int} {u:Value} (h:k∉kv.map (·.1)):stored kv k u=kv++[(k,u)]:=by
 unfold stored
 rw [if_neg]
 intro hm
 rw [List.any_eq_true] at hm
 refine q1_2 hm λx hx e=>?_;clear hm
 exact h (List.mem_map.mpr (e1_2 x hx (of_decide_eq_true e)))
structure Rs (w:World) (b h:Heap) (m:SoV) (B r W:Addr) (ev:List Evt) (wt:List Nat):Prop where
 text:∃ t,m (sO "text")=some (.str ⟨(tCps ev).toArray⟩ t)
 mb:m (sO "book")=some (.ref B)
 mr:m (sO "rounds")=some (.ref r)
 mw:m (sO "waiting")=some (.ref W)
 turn:∃ t,m (sO "turn")=some (.int ((dns ev).length:Int) t)
 book:∃ bs,h.PlainList B (List.toArray bs)/\Paired (λe v=>IsBk e v b) (bkFrom 0 ev) bs
 wt:∃ ws,h.PlainList W (List.toArray ws)/\Paired IsN wt ws
 rs:∃ kv,h.DictOf (intKind Pg w) r kv/\kv.map (·.1)=(outs ev).map (λ(i:Nat)=>(i:Int))/\∀ i∈outs ev,∃ t,valueAt kv (i:Int)=some (.int (rnd ev i:Int) t)
theorem Rs.get {w:World} {b b' h h':Heap} {m:SoV} {B r W:Addr} {ev:List Evt} {wt:List Nat} (R:Rs w b h m B r W ev wt) (l:Le b b') (k:∀ a∈[B,r,W],∀ o,h.get? a=some o->h'.get? a=some o):Rs w b' h' m B r W ev wt:=
 ⟨R.text,R.mb,R.mr,R.mw,R.turn,q1_2 R.book λbs h1 h2=>(e1_2 bs (h1.at λo e=>k _ (by simp) o e) (Paired.imp (λ_ _ x=>x.le l) h2)),q1_2 R.wt λws h1 h2=>(e1_2 ws (h1.at λo e=>k _ (by simp) o e) h2),
  q1_2 R.rs λkv h1 h2=>(e1_2 kv (h1.at λo e=>k _ (by simp) o e) h2)⟩
noncomputable def abcS:Str:=⟨#[97,98,99,100,101,102]⟩
theorem abc_at {k:Nat} (h:k<6):abcS.cps[k]?=some (97+k):=(by decide +kernel:∀ k,k<6->abcS.cps[k]?=some (97+k)) k h
noncomputable def wBody:List Stmt:=fBody (nth (fBody (top 14)) 9)
noncomputable def wFor:Stmt:=nth wBody 0
noncomputable def wForB:List Stmt:=fBody wFor
namespace Z18
noncomputable section
def zQ (w:World) (A:Around) (s₀ s:Shared) (b b₀:Heap) (X:List Addr) (pm cd:Value) (L:Addr) (m cm mg mb mN:SoV) (K:Frag) (B r W:Addr) (ev:List Mine.Internal.Evt) (wt:List Nat) (i:Nat) (tv:Tok):Prop:=∀ (hA:A.handled=none) (S:St w mg mb mN K b₀) (C:Con mg mb mN K) (I0:InF s₀ b X (rcEnv pm cd L) (rcEnv pm cd L).cells m cm s) (hb:Le b₀ b) (hn:cm (sO "node")=some (.int (i:Int) tv)) (R:Rs w b s.heap m B r W ev wt) (hX:B∈X/\r∈X/\W∈X) (hne:B≠r/\B≠W/\r≠W) (hi:i<6) (hio:i∉outs ev) (hev:ev.length<=100) (hwt:wt.length<=100),Wp w A (execs wForB (rcEnv pm cd L)) (λfl s'=>(fl=.next\/fl=.cont)/\∃ b' t',Le b b'/\InF s₀ b' X (rcEnv pm cd L) (rcEnv pm cd L).cells (up m (sO "text") (.str ⟨(tCps (ev++[(false,i)])).toArray⟩ t')) cm s'/\Rs w b' s'.heap (up m (sO "text") (.str ⟨(tCps (ev++[(false,i)])).toArray⟩ t')) B r W (ev++[(false,i)]) (wt++[i])/\Ev (ft (rcEnv pm cd L) (rcEnv pm cd L).cells++[B,r,W]) s s') s
abbrev zY:=((((World×Around)×(Shared×(Shared×Heap)))×((Heap×((List Addr)×Value))×(Value×(Addr×SoV))))×(((SoV×(SoV×SoV))×(SoV×(Frag×Addr)))×((Addr×(Addr×(List Mine.Internal.Evt)))×((List Nat)×(Nat×Tok)))))
def zR (p:zY):=zQ p.1.1.1.1 p.1.1.1.2 p.1.1.2.1 p.1.1.2.2.1 p.1.1.2.2.2 p.1.2.1.1 p.1.2.1.2.1 p.1.2.1.2.2 p.1.2.2.1 p.1.2.2.2.1 p.1.2.2.2.2 p.2.1.1.1 p.2.1.1.2.1 p.2.1.1.2.2 p.2.1.2.1 p.2.1.2.2.1 p.2.1.2.2.2 p.2.2.1.1 p.2.2.1.2.1 p.2.2.1.2.2 p.2.2.2.1 p.2.2.2.2.1 p.2.2.2.2.2
def zc:zY:=eps1 (neP (neP (neP (neP neW neA) (neP neS (neP neS neI))) neI) neI) zR
def w:=zc.1.1.1.1
def A:=zc.1.1.1.2
def s₀:=zc.1.1.2.1
def s:=zc.1.1.2.2.1
def b:=zc.1.1.2.2.2
def b₀:=zc.1.2.1.1
def X:=zc.1.2.1.2.1
def pm:=zc.1.2.1.2.2
def cd:=zc.1.2.2.1
def L:=zc.1.2.2.2.1
def m:=zc.1.2.2.2.2
def cm:=zc.2.1.1.1
def mg:=zc.2.1.1.2.1
def mb:=zc.2.1.1.2.2
def mN:=zc.2.1.2.1
def K:=zc.2.1.2.2.1
def B:=zc.2.1.2.2.2
def r:=zc.2.2.1.1
def W:=zc.2.2.1.2.1
def ev:=zc.2.2.1.2.2
def wt:=zc.2.2.2.1
def i:=zc.2.2.2.2.1
def tv:=zc.2.2.2.2.2
theorem zaux:zQ w A s₀ s b b₀ X pm cd L m cm mg mb mN K B r W ev wt i tv:=by
 intro hA S C I0 hb hn R hX hne hi hio hev hwt
 refine byC0 λzn=>?_
 refine q1_1 (R.text) λtt htext=>?_
 refine q1_1 (R.turn) λtu hturn=>?_
 refine q1_2 (R.book) λbs hB hbp=>?_
 refine q1_2 (R.wt) λws hW hwp=>?_
 refine q1_3 (R.rs) λkv hr hk hv=>?_
 refine zn ?_;clear zn
 have mNd:(sO "node",L+1)∈(rcEnv pm cd L).cells:=by rw [rcCells];simp
 have hbsl:bs.length=ev.length:=by rw [← hbp.length,bkFrom_len]
 have hwsl:ws.length=wt.length:=hwp.length.symm
 have hol:(outs ev).length<=ev.length:=by unfold outs;rw [List.length_map];exact List.length_filter_le _ _
 have hkl:kv.length<=100:=by have:=congrArg List.length hk;simp at this;omega
 have hin:(i:Int)∉kv.map (·.1):=by
  rw [hk];intro hm
  refine q1_2 (List.mem_map.mp hm) λj hj e=>?_
  have:j=i:=by omega
  exact hio (this▸hj)
 have stp:∀ {a:Addr} {s s':Shared} {b:Heap} {m:SoV},InF s₀ b X (rcEnv pm cd L) (rcEnv pm cd L).cells m cm s->a∈X->Ev [a] s s'->(∃ o,s'.heap.get? a=some o)->InF s₀ b X (rcEnv pm cd L) (rcEnv pm cd L).cells m cm s':=λ{a s s' b m} I ha E lv=>
  I.ev' E (λc hc=>.inr (by rw [zS hc];exact ha)) (I.fs.get λc hc o e=>E.get c o (λz=>I.apart _ ha (zS z▸hc)) e) (λc _ hc=>by rw [zS hc];exact lv)
 have nft:∀ {a:Addr},a∈X->a∉ft (rcEnv pm cd L) (rcEnv pm cd L).cells:=λha=>I0.apart _ ha
 have Vn:=I0.fs.varC (x:=sO "node") rfl rfl mNd hn
 have hs0:=I0.le
 refine seqn (Φ:=λs1=>Ev [r] s s1/\s1.heap.DictOf (intKind Pg w) r (stored kv (i:Int) (.int ((dns ev).length:Int) tu))) (wpAny_Assign_Subscript ((Yd.namV (I0.fs.var (x:=sO "turn") rfl rfl hturn) (by decide) s hs0 (Le.refl _)).to λu s5 q5=>
   (Yd.namV (I0.fs.var (x:=sO "rounds") rfl rfl R.mr) (by decide) s5 (hs0.trans q5.1.le) q5.1.le).to λz s6 q6=>(Yd.namI Vn (by decide) s6 ((hs0.trans q5.1.le).trans q6.1.le) (q5.1.le.trans q6.1.le)).to λz' s7 q7=>?_)) λs1 q=>?_
 ·have k7:=(q5.1.trans q6.1).trans q7.1
  have e0:u=_:=q5.2 _ (hs0.trans q5.1.le) (Nw.self _ _)
  have e1:z=.ref r:=q6.2 _ (hs0.trans (q5.1.le.trans q6.1.le)) (Nw.self _ _)
  subst e0 e1
  refine byC0 λzn=>?_;refine q1_1 (q7.2 _ (hs0.trans k7.le) (Nw.self _ _)) λt' z1=>?_;subst z1;refine zn ?_;clear zn
  exact wpAny_setItem_pairs (knd:=intKind Pg w) (k:=(i:Int)) (by simp [intKind,Value.isInt]) (hr.keep k7.le.get) (λh' hd' hs'=>⟨rfl,k7.ev.trans ⟨e2_1 _ _ rfl,λc o hc e=>hs'.extBut c o (λz=>hc (by simp [z])) e⟩,hd'⟩) (by rw [sizeLine_eq];omega)
 refine q0_2 q λE1 hr1=>?_;clear q
 rw [stored_new hin] at hr1
 have I1:=stp I0 hX.2.1 E1 (q3_2 hr1 λo _ _ e _=>⟨o,e⟩)
 refine seqn (ex_append I1.le (Yd.namV (I1.fs.var (x:=sO "waiting") rfl rfl R.mw)) (Yd.namI (I1.fs.varC (x:=sO "node") rfl rfl mNd hn)) (hW.at λo e=>E1.get _ o (by simpa using hne.2.2.symm) e) (by rw [sizeLine_eq];simp;omega)) λs2 q=>?_
 refine byC0 λzn=>?_
 refine s2_4 q λE2 vn s2' k2' hPn E2' hW2=>?_;clear q
 refine q1_1 (hPn _ (I1.le.trans k2'.le) (Nw.self _ _)) λtn z1=>?_;subst z1
 refine zn ?_;clear zn
 have I2:=stp I1 hX.2.2 E2 (q1_1 hW2 λn q=>⟨_,q⟩)
 have htl:=tCps_len ev
 refine seqn (ex_augS I2 rfl rfl htext (Yd.sitem (x:=abcS) (k:=i) (Yd.namI (I2.fs.varC (x:=sO "node") rfl rfl mNd hn)) (abc_at hi) (by omega)) (by rw [sizeLine_eq];show (tCps ev).toArray.size+1<=_;simp;omega)) λs3 q=>?_
 refine byC0 λzn=>?_;refine s1_1 q λE3 t3 I3=>?_;clear q;refine zn ?_;clear zn
 have etx:(⟨(tCps ev).toArray⟩:Str)++⟨#[97+i]⟩=⟨(tCps (ev++[(false,i)])).toArray⟩:=by
  show Str.mk ((tCps ev).toArray++#[97+i])=_
  rw [tCps_app,tCps_one]
  simp [uCps]
 rw [etx] at I3
 have bL:=C.blt (sO "len") (by simp)
 have VL:=I3.fs.blt (S.le (hb.trans I3.le)).g bL.1 (S.le (hb.trans I3.le)).b (bL.2.trans (by decide +kernel:bootBuiltins (sO "len")=some (.builtin "len"))) rfl rfl rfl rfl
 have htl':=tCps_len (ev++[(false,i)])
 rw [List.length_append,List.length_singleton] at htl'
 have hB3:s3.heap.PlainList B (List.toArray bs):=((hB.at λo e=>E1.get _ o (by simpa using hne.1) e).at λo e=>E2.get _ o (by simpa using hne.2.1) e).at λo e=>E3.get _ o (nft hX.1) e
 refine seqn (ex_append (P:=IsT [IsI (((⟨(tCps (ev++[(false,i)])).toArray⟩:Str).length:Int)-1),IsS ⟨#[97+i]⟩]) I3.le (Yd.namV (I3.fs.var (x:=sO "book") (v:=.ref B) rfl rfl (by simp +decide [up];exact R.mb)))
   (Yd.tup (Yds.two (Yd.sub (Yd.lens VL (Yd.nam (I3.fs.var (x:=sO "text") (v:=.str ⟨(tCps (ev++[(false,i)])).toArray⟩ t3) rfl rfl (by simp [up])) λ_ _=>⟨t3,rfl⟩) (by show (tCps (ev++[(false,i)])).toArray.size<_;simp;omega)) Yd.int)
    (Yd.sitem (x:=abcS) (k:=i) (Yd.namI (I3.fs.varC (x:=sO "node") rfl rfl mNd hn)) (abc_at hi) (by omega)))) hB3 (by rw [sizeLine_eq];simp;omega)) λs4 q=>?_
 refine byC0 λzn=>?_
 refine s2_4 q λE4 vb s4' k4' hPb E4' hB4=>?_;clear q
 refine q1_3 (I3.step E4 (λc hc=>.inr (by rw [zS hc];exact hX.1)) (I3.fs.get λc hc o e=>E4.get c o (λz=>I3.apart _ hX.1 (zS z▸hc)) e) (λc _ hc=>by rw [zS hc];refine q1_1 hB4 λn q=>?_;clear hB4;exact⟨_,q⟩)) λb' l' I4 g=>?_
 refine zn ?_;clear zn
 have n4:Nw s3 s4' b':=(I3.nw g).leftE E4' (λa ha=>by rw [zS ha];refine q1_1 hB3 λn q=>?_;clear hB3;exact⟨_,q⟩)
 have hvb:=hPb b' l' n4
 have ebk:bkFrom 0 (ev++[(false,i)])=bkFrom 0 ev++[((tCps (ev++[(false,i)])).length-1,(false,i))]:=by
  rw [bkFrom_app,tCps_app,tCps_one,List.length_append]
  simp [bkFrom]
 have hr4:s4.heap.DictOf (intKind Pg w) r (kv++[((i:Int),.int ((dns ev).length:Int) tu)]):=((hr1.at λo e=>E2.get _ o (by simpa using hne.2.2) e).at λo e=>E3.get _ o (nft hX.2.1) e).at λo e=>E4.get _ o (by simpa using hne.1.symm) e
 have hW4:s4.heap.PlainList W ((List.toArray ws).push (.int (i:Int) tn)):=(hW2.at λo e=>E3.get _ o (nft hX.2.2) e).at λo e=>E4.get _ o (by simpa using hne.2.1.symm) e
 refine nil_ (e0_2 (.inl rfl) (e2_4 b' t3 l' I4 ⟨⟨t3,by simp [up]⟩,by simp +decide [up];exact R.mb,by simp +decide [up];exact R.mr,by simp +decide [up];exact R.mw,⟨tu,by simp +decide [up];rw [dns_app,dns_f,List.append_nil];exact hturn⟩,e1_2 (bs++[vb]) (by simpa using hB4) ?_,e1_2 (ws++[.int (i:Int) tn]) (by simpa using hW4) (Paired.app hwp (.cons ⟨tn,rfl⟩ .nil)),e1_3 _ hr4 ?_ (λj hj=>?_)⟩ ?_))
 ·rw [ebk]
  refine Paired.app (Paired.imp (λ_ _ x=>x.le l') hbp) (.cons ?_ .nil)
  have e1:(((⟨(tCps (ev++[(false,i)])).toArray⟩:Str).length:Int)-1)=(((tCps (ev++[(false,i)])).length-1:Nat):Int):=by
   show ((((tCps (ev++[(false,i)])).toArray.size:Nat):Int)-1)=_
   have:1<=(tCps (ev++[(false,i)])).length:=by rw [tCps_app,tCps_one,List.length_append];have:=uCps_len (false,i);omega
   simp;omega
  rw [e1] at hvb
  exact hvb
 ·rw [List.map_append,hk,outs_app,outs_f,List.map_append];rfl
 ·rw [outs_app,outs_f] at hj
  rcases List.mem_append.mp hj with hj | hj
  ·refine q1_1 (hv j hj) λt e=>?_
   exact⟨t,by rw [rnd_app hj];exact valueAt_app_old e⟩
  ·rw [zS hj,rnd_new hio]
   exact⟨tu,valueAt_app_new hin⟩
 ·have m1:∀ a∈[r],a∈ft (rcEnv pm cd L) (rcEnv pm cd L).cells++[B,r,W]:=λa ha=>by rw [zS ha];simp
  have m2:∀ a∈[W],a∈ft (rcEnv pm cd L) (rcEnv pm cd L).cells++[B,r,W]:=λa ha=>by rw [zS ha];simp
  have m4:∀ a∈[B],a∈ft (rcEnv pm cd L) (rcEnv pm cd L).cells++[B,r,W]:=λa ha=>by rw [zS ha];simp
  exact (((E1.mono m1).trans (E2.mono m2)).trans (E3.mono λa ha=>List.mem_append_left _ ha)).trans (E4.mono m4)
theorem zall:∀ p,zR p:=all1 zaux
end
end Z18
theorem rec_put {w A s₀ s b b₀ X pm cd L m cm mg mb mN K B r W ev wt i tv}:Z18.zQ w A s₀ s b b₀ X pm cd L m cm mg mb mN K B r W ev wt i tv:=Z18.zall ((((w,A),(s₀,(s,b))),((b₀,(X,pm)),(cd,(L,m)))),(((cm,(mg,mb)),(mN,(K,B))),((r,(W,ev)),(wt,(i,tv)))))
theorem run_len {ps:List (Nat×Nat)} {N:Nat} {o:Int} {ln:Nat->Nat} {ev:List Evt} (h:Run ps N o ln ev):ev.length<=2 * N:=by
 have e:ev.length=(outs ev).length+(dns ev).length:=by
  clear h
  induction ev with
  | nil=>rfl
  | cons e r ih=>
   rcases e with ⟨c,j⟩
   cases c with
   | false=>rw [show outs ((false,j)::r)=j::outs r from rfl,show dns ((false,j)::r)=dns r from rfl];simp;omega
   | true=>rw [show outs ((true,j)::r)=outs r from rfl,show dns ((true,j)::r)=j::dns r from rfl];simp;omega
 have h1:=nodup_len N _ h.outN h.lt
 have h2:=nodup_len N _ h.dnN λi hi=>h.lt i (h.sub i hi)
 omega
section
variable {w:World} {A:Around} {s₀ s:Shared} {b b₀:Heap} {X:List Addr} {pm cd:Value} {L:Addr} {m cm:SoV} {mg mb mN:SoV} {K:Frag} {B r W:Addr} {ev:List Evt} {wt rd:List Nat}
 {x dx d q:Addr} {NA EA SA:Nat->Addr} {N:Nat} {np:Nat->Int} {ps:List (Nat×Nat)} {o:Int} {ln:Nat->Nat}
end
namespace Z23
noncomputable section
def zQ (w:World) (A:Around) (s₀ s:Shared) (b b₀:Heap) (X:List Addr) (pm cd:Value) (L:Addr) (m cm mg mb mN:SoV) (K:Frag) (B r W:Addr) (ev:List Mine.Internal.Evt) (wt rd:List Nat) (x dx d q:Addr) (NA EA SA:Nat->Addr) (N:Nat) (np:Nat->Int) (ps:List (Nat×Nat)) (o:Int) (ln:Nat->Nat) (n:Nat):Prop:=∀ (ok:Ok (n+1) A) (S:St w mg mb mN K b₀) (C:Con mg mb mN K) (I0:InF s₀ b X (rcEnv pm cd L) (rcEnv pm cd L).cells m cm s) (hb:Le b₀ b) (hso:m (sO "sorter")=some (.ref x)) (R:Rs w b s.heap m B r W ev wt) (Z:Sor w s.heap x dx d q NA EA SA N np (suR ps N) rd ((outs ev).length:Int) ((dns ev).length:Int)) (P:Pst ps N o ln ev np rd wt) (hX:B∈X/\r∈X/\W∈X) (hsX:∀ a∈sorA x dx d q NA EA SA N,a∈X/\a≠B/\a≠r/\a≠W) (hne:B≠r/\B≠W/\r≠W) (hN:N<=6),Wp w A (exec wFor (rcEnv pm cd L)) (λfl s'=>fl=.next/\∃ b' m' cm',Le b b'/\InF s₀ b' X (rcEnv pm cd L) (rcEnv pm cd L).cells m' cm' s'/\Rs w b' s'.heap m' B r W (ev++rd.map λi=>(false,i)) (wt++rd)/\Sor w s'.heap x dx d q NA EA SA N (λi=>if i∈rd then -1 else np i) (suR ps N) [] ((outs (ev++rd.map λi=>(false,i))).length:Int) ((dns (ev++rd.map λi=>(false,i))).length:Int)/\(∀ y,y≠sO "text"->m' y=m y)) s
abbrev zY:=(((((World×Around)×(Shared×Shared))×((Heap×Heap)×((List Addr)×Value)))×(((Value×Addr)×(SoV×SoV))×((SoV×SoV)×(SoV×(Frag×Addr)))))×((((Addr×Addr)×((List Mine.Internal.Evt)×(List Nat)))×(((List Nat)×Addr)×(Addr×(Addr×Addr))))×((((Nat->Addr)×(Nat->Addr))×((Nat->Addr)×Nat))×(((Nat->Int)×(List (Nat×Nat)))×(Int×((Nat->Nat)×Nat))))))
def zR (p:zY):=zQ p.1.1.1.1.1 p.1.1.1.1.2 p.1.1.1.2.1 p.1.1.1.2.2 p.1.1.2.1.1 p.1.1.2.1.2 p.1.1.2.2.1 p.1.1.2.2.2 p.1.2.1.1.1 p.1.2.1.1.2 p.1.2.1.2.1 p.1.2.1.2.2 p.1.2.2.1.1 p.1.2.2.1.2 p.1.2.2.2.1 p.1.2.2.2.2.1 p.1.2.2.2.2.2 p.2.1.1.1.1 p.2.1.1.1.2 p.2.1.1.2.1 p.2.1.1.2.2 p.2.1.2.1.1 p.2.1.2.1.2 p.2.1.2.2.1 p.2.1.2.2.2.1 p.2.1.2.2.2.2 p.2.2.1.1.1 p.2.2.1.1.2 p.2.2.1.2.1 p.2.2.1.2.2 p.2.2.2.1.1 p.2.2.2.1.2 p.2.2.2.2.1 p.2.2.2.2.2.1 p.2.2.2.2.2.2
def zc:zY:=eps1 (neP (neP (neP (neP (neP neW neA) (neP neS neS)) neI) neI) neI) zR
def w:=zc.1.1.1.1.1
def A:=zc.1.1.1.1.2
def s₀:=zc.1.1.1.2.1
def s:=zc.1.1.1.2.2
def b:=zc.1.1.2.1.1
def b₀:=zc.1.1.2.1.2
def X:=zc.1.1.2.2.1
def pm:=zc.1.1.2.2.2
def cd:=zc.1.2.1.1.1
def L:=zc.1.2.1.1.2
def m:=zc.1.2.1.2.1
def cm:=zc.1.2.1.2.2
def mg:=zc.1.2.2.1.1
def mb:=zc.1.2.2.1.2
def mN:=zc.1.2.2.2.1
def K:=zc.1.2.2.2.2.1
def B:=zc.1.2.2.2.2.2
def r:=zc.2.1.1.1.1
def W:=zc.2.1.1.1.2
def ev:=zc.2.1.1.2.1
def wt:=zc.2.1.1.2.2
def rd:=zc.2.1.2.1.1
def x:=zc.2.1.2.1.2
def dx:=zc.2.1.2.2.1
def d:=zc.2.1.2.2.2.1
def q:=zc.2.1.2.2.2.2
def NA:=zc.2.2.1.1.1
def EA:=zc.2.2.1.1.2
def SA:=zc.2.2.1.2.1
def N:=zc.2.2.1.2.2
def np:=zc.2.2.2.1.1
def ps:=zc.2.2.2.1.2
def o:=zc.2.2.2.2.1
def ln:=zc.2.2.2.2.2.1
def n:=zc.2.2.2.2.2.2
theorem zaux:zQ w A s₀ s b b₀ X pm cd L m cm mg mb mN K B r W ev wt rd x dx d q NA EA SA N np ps o ln n:=by
 intro ok S C I0 hb hso R Z P hX hsX hne hN
 refine q1_6 (Z.ia) λmA Ia hW h2 hr hpo hfi=>?_
 have hbs:=hb.trans I0.le
 have evl:=run_len P.run
 have mNd:(sO "node",L+1)∈(rcEnv pm cd L).cells:=by rw [rcCells];simp
 have rdl:=nodup_len N rd P.rdN λi hi=>((P.rd i).mp hi).1
 have wtl:wt.length<=N:=by
  rw [P.wt.length_eq]
  have:=List.length_filter_le (λi=>!decide (i∈dns ev)) (outs ev)
  have:=nodup_len N _ P.run.outN P.run.lt
  omega
 refine ex_forE (Ψ:=λs'=>∃ b' m' cm',Le b b'/\InF s₀ b' X (rcEnv pm cd L) (rcEnv pm cd L).cells m' cm' s'/\Rs w b' s'.heap m' B r W (ev++rd.map λi=>(false,i)) (wt++rd)/\
   Sor w s'.heap x dx d q NA EA SA N (λi=>if i∈rd then -1 else np i) (suR ps N) [] ((outs (ev++rd.map λi=>(false,i))).length:Int) ((dns (ev++rd.map λi=>(false,i))).length:Int)/\(∀ y,y≠sO "text"->m' y=m y))
  (eval_meth0 (I0.fs.var (x:=sO "sorter") rfl rfl hso) (S.le hbs).ts Ia C.rdy (S.le hbs).f113.choose_spec.choose_spec (C.mN0 _ (by simp)) (C.mN0 _ (by simp)) (Mine.Internal.Within.no hW (by decide)) tl7
   ((rdy_call (n:=n) ok S hbs C Z (λa ha=>hb.none (I0.off a (.inr (hsX a ha).1))) (λi hi=>((P.rd i).mp hi).1) (by omega)).to λv s1 q1=>?_))
 refine byC0 λzn=>?_
 refine q2_2 q1 λT vs z1 z2=>?_;clear q1;subst z1;refine q0_5 z2 λhT hvs hTn E1 Z1=>?_;clear z2
 refine q1_3 (I0.step E1 (λa ha=>.inr (hsX a ha).1) (I0.fs.get λc hc oo e=>E1.get c oo (λhm=>I0.apart c (hsX c hm).1 hc) e) (λa _ ha=>Z1.live a ha)) λb1 l1 I1 g1=>?_
 refine zn ?_;clear zn
 have hTb:b1.IsTuple T vs.toArray:=hT.at λoo e=>g1 T oo (λhm=>by refine q1_1 (I0.fs.live T hm) λo' e'=>?_;rw [hTn] at e';cases e') (λhm=>by refine q1_1 (I0.live T hm) λo' e'=>?_;rw [hTn] at e';cases e') e
 have R1:Rs w b1 s1.heap m B r W ev wt:=R.get l1 λa ha oo e=>E1.get a oo (λhm=>by
  have:=hsX a hm
  replace ha:=mem3 ha
  (rcases ha with rfl | rfl | rfl)
  ·exact this.2.1 rfl
  ·exact this.2.2.1 rfl
  ·exact this.2.2.2 rfl) e
 have hYX:∀ a∈[B,r,W],a∈X:=λa ha=>by
  replace ha:=mem3 ha
  (rcases ha with rfl | rfl | rfl)
  ·exact hX.1
  ·exact hX.2.1
  ·exact hX.2.2
 refine Wp.to (for_loop (xs:=rd) (B:=IsN) (λv m cm m' cm'=>∃ u,IsN v u/\m'=m/\cm'=up cm (sO "node") u)
  (λi b' m' cm' s'=>Rs w b' s'.heap m' B r W (ev++(rd.take i).map λi=>(false,i)) (wt++rd.take i)/\Le b1 b'/\∀ y,y≠sO "text"->m' y=m y) [B,r,W] hYX I1
  (Itr.tuple ok.hd hTb I1.le hvs) (λs' k=>⟨by simpa using R1.get (Le.refl _) λa _ oo e=>k.le.get a oo e,Le.refl _,λ_ _=>rfl⟩)
  (λv u s' m' cm' hp hB hs' F'=>(asg_cell F' rfl rfl mNd (λn c' hn he=>by rw [rcCells] at hn;subst he;simp at hn;exact hn)).to λ_ s'' q=>e0_2 q.1 (e2_2 _ _ q.2 (e1_3 u hB rfl rfl)))
  λi v I b' m1 cm1 s1' m2 cm2 s2' hi hl' Iin hIX hIn hJ E12 hK I2=>?_) λit s2 q2=>codeAny_mono q2 λrr s' q=>?_
 ·refine q0_3 hJ λRJ lb hm=>?_;clear hJ
  rcases hK with ⟨u,⟨tv,rfl⟩,rfl,rfl⟩
  have hv:=List.mem_of_getElem? hi
  refine q0_3 ((P.rd v).mp hv) λhvN hvo hvp=>?_
  have R2:Rs w b' s2'.heap m2 B r W (ev++(rd.take i).map λi=>(false,i)) (wt++rd.take i):=RJ.get (Le.refl _) λa ha oo e=>E12.get a oo (λhm=>by
   rcases zC hm with h | h
   ·exact hIX (h▸hYX a ha)
   ·exact I1.apart a (hYX a ha) h) e
  have htk:(rd.take i).length<=rd.length:=by rw [List.length_take];omega
  have e1:rd.take (i+1)=rd.take i++[v]:=by rw [List.take_add_one,hi];rfl
  have hni:v∉rd.take i:=λhm=>by
   have hn:(rd.take (i+1)).Nodup:=P.rdN.sublist (List.take_sublist ..)
   rw [e1,List.nodup_append] at hn
   exact hn.2.2 v hm v (by simp) rfl
  refine (rec_put (i:=v) (tv:=tv) ok.hd S C I2 ((hb.trans l1).trans lb) (by simp [up]) R2 ⟨zT hX.1,zT hX.2.1,zT hX.2.2⟩ hne (by omega) (λhm=>?_) (by simp;omega) (by simp;omega)).to λfl s3 q=>?_
  ·rw [outs_app,outs_map] at hm
   exact (List.mem_append.mp hm).elim hvo hni
  ·refine byC0 λzn=>?_;refine s2_4 q λhf b3 t3 l3 I3 R3 E23=>?_;clear q;refine zn ?_;clear zn
   refine e0_2 hf (e3_6 b3 _ _ l3 E23 I3 ?_ (lb.trans l3) (λy hy=>?_))
   ·rw [e1,List.map_append,← List.append_assoc,← List.append_assoc]
    exact R3
   ·rw [show up m2 (sO "text") _ y=m2 y from if_neg hy]
    exact hm y hy
 ·refine byC0 λzn=>?_;refine q0_2 q λz1 z2=>?_;clear q;subst z1;refine q5_9 z2 λI b' m' cm' s3 l' I4 hIf hIX hIn I5 z3 E3 E4=>?_;clear z2;refine q0_3 z3 λRJ lb hm=>?_;clear z3;refine zn ?_;clear zn
  have hso2:outs (ev++rd.map λi=>(false,i))=outs ev++rd:=by rw [outs_app,outs_map]
  have hd2:dns (ev++rd.map λi=>(false,i))=dns ev:=by rw [dns_app,dns_map,List.append_nil]
  rw [List.take_length] at RJ
  refine⟨rfl,b',m',cm',l1.trans l',I4,RJ.get (Le.refl _) λa ha oo e=>E3.get a oo (λhm=>hIX (zS hm▸hYX a ha)) e,?_,hm⟩
  rw [hso2,hd2,List.length_append]
  have:=Z1.get (h':=s'.heap) λa ha oo e=>E4.get a oo (λhm=>by
   rcases List.mem_append.mp hm with h | h
   ·exact I1.apart a (hsX a ha).1 h
   ·have:=hsX a ha
    replace h:=mem3 h
    (rcases h with rfl | rfl | rfl)
    ·exact this.2.1 rfl
    ·exact this.2.2.1 rfl
    ·exact this.2.2.2 rfl) e
  rw [show ((((outs ev).length+rd.length:Nat)):Int)=((outs ev).length:Int)+(rd.length:Int) by omega]
  exact this
theorem zall:∀ p,zR p:=all1 zaux
end
end Z23
theorem rec_for {w A s₀ s b b₀ X pm cd L m cm mg mb mN K B r W ev wt rd x dx d q NA EA SA N np ps o ln n}:Z23.zQ w A s₀ s b b₀ X pm cd L m cm mg mb mN K B r W ev wt rd x dx d q NA EA SA N np ps o ln n:=Z23.zall (((((w,A),(s₀,s)),((b,b₀),(X,pm))),(((cd,L),(m,cm)),((mg,mb),(mN,(K,B))))),((((r,W),(ev,wt)),((rd,x),(dx,(d,q)))),(((NA,EA),(SA,N)),((np,ps),(o,(ln,n))))))
section
variable {w:World} {A:Around} {s₀ s:Shared} {b b₀:Heap} {X:List Addr} {pm cd:Value} {L:Addr} {m cm:SoV} {mg mb mN:SoV} {K:Frag} {B r W:Addr} {ev:List Evt} {wt rd:List Nat}
 {x dx d q:Addr} {NA EA SA:Nat->Addr} {N:Nat} {np:Nat->Int} {ps:List (Nat×Nat)} {o:Int} {C bh P fI fL fM cM cO cB cR:Addr} {ls:List (List Nat)}
end
namespace Z5
noncomputable section
def zQ (w:World) (A:Around) (s₀ s:Shared) (b b₀:Heap) (X:List Addr) (pm cd:Value) (L:Addr) (m cm mg mb mN:SoV) (K:Frag) (B r W:Addr) (ev:List Mine.Internal.Evt) (wt:List Nat) (x dx d q:Addr) (NA EA SA:Nat->Addr) (N:Nat) (np:Nat->Int) (ps:List (Nat×Nat)) (o:Int) (C bh P fI fL fM cM cO cB cR:Addr) (ls:List (List Nat)) (n:Nat):Prop:=∀ (ok:Ok (n+8) A) (S:St w mg mb mN K b₀) (Cn:Con mg mb mN K) (I0:InF s₀ b (W::X) (rcEnv pm cd L) (rcEnv pm cd L).cells m cm s) (hb:Le b₀ b) (hso:m (sO "sorter")=some (.ref x)) (hse:m (sO "served")=some (.ref C)) (R:Rs w b s.heap m B r W ev wt) (Z:Sor w s.heap x dx d q NA EA SA N np (suR ps N) [] ((outs ev).length:Int) ((dns ev).length:Int)) (Pm:Mid ps N o (λi=>(ls.getD i []).length) ev np wt) (hX:B∈X/\r∈X/\W∉X) (hsX:∀ a∈sorA x dx d q NA EA SA N,a∈X/\a≠B/\a≠r) (hne:B≠r) (hN:N<=6) (hw:wt≠[]) (Zv:SvAt b C r bh o P fI fL fM cM cO cB cR) (ho:o=0\/o=1) (hbh:LL b b bh ls) (hlsN:ls.length=N) (hll:∀ l∈ls,l.length<1000) (hpl:∀ p∈ps,p.1<p.2) (hpll:ps.length<=100),Wp w A (execs (wBody.drop 1) (rcEnv pm cd L)) (λfl s'=>(fl=.next\/fl=.cont)/\∃ b' m' D g rest np' rd',Le b b'/\InF s₀ b' (D::X) (rcEnv pm cd L) (rcEnv pm cd L).cells m' cm s'/\Rs w b' s'.heap m' B r D (ev++[(true,g)]) rest/\Sor w s'.heap x dx d q NA EA SA N np' (suR ps N) rd' ((outs (ev++[(true,g)])).length:Int) ((dns (ev++[(true,g)])).length:Int)/\Pst ps N o (λi=>(ls.getD i []).length) (ev++[(true,g)]) np' rd' rest/\D∉X/\(∀ y,y∉[sO "text",sO "waiting",sO "gone",sO "turn"]->m' y=m y)) s
abbrev zY:=(((((World×Around)×(Shared×(Shared×Heap)))×((Heap×((List Addr)×Value))×(Value×(Addr×SoV))))×(((SoV×SoV)×(SoV×(SoV×Frag)))×((Addr×(Addr×Addr))×((List Mine.Internal.Evt)×((List Nat)×Addr)))))×((((Addr×Addr)×(Addr×((Nat->Addr)×(Nat->Addr))))×(((Nat->Addr)×(Nat×(Nat->Int)))×((List (Nat×Nat))×(Int×Addr))))×(((Addr×Addr)×(Addr×(Addr×Addr)))×((Addr×(Addr×Addr))×(Addr×((List (List Nat))×Nat))))))
def zR (p:zY):=zQ p.1.1.1.1.1 p.1.1.1.1.2 p.1.1.1.2.1 p.1.1.1.2.2.1 p.1.1.1.2.2.2 p.1.1.2.1.1 p.1.1.2.1.2.1 p.1.1.2.1.2.2 p.1.1.2.2.1 p.1.1.2.2.2.1 p.1.1.2.2.2.2 p.1.2.1.1.1 p.1.2.1.1.2 p.1.2.1.2.1 p.1.2.1.2.2.1 p.1.2.1.2.2.2 p.1.2.2.1.1 p.1.2.2.1.2.1 p.1.2.2.1.2.2 p.1.2.2.2.1 p.1.2.2.2.2.1 p.1.2.2.2.2.2 p.2.1.1.1.1 p.2.1.1.1.2 p.2.1.1.2.1 p.2.1.1.2.2.1 p.2.1.1.2.2.2 p.2.1.2.1.1 p.2.1.2.1.2.1 p.2.1.2.1.2.2 p.2.1.2.2.1 p.2.1.2.2.2.1 p.2.1.2.2.2.2 p.2.2.1.1.1 p.2.2.1.1.2 p.2.2.1.2.1 p.2.2.1.2.2.1 p.2.2.1.2.2.2 p.2.2.2.1.1 p.2.2.2.1.2.1 p.2.2.2.1.2.2 p.2.2.2.2.1 p.2.2.2.2.2.1 p.2.2.2.2.2.2
def zc:zY:=eps1 (neP (neP (neP (neP (neP neW neA) (neP neS (neP neS neI))) neI) neI) neI) zR
def w:=zc.1.1.1.1.1
def A:=zc.1.1.1.1.2
def s₀:=zc.1.1.1.2.1
def s:=zc.1.1.1.2.2.1
def b:=zc.1.1.1.2.2.2
def b₀:=zc.1.1.2.1.1
def X:=zc.1.1.2.1.2.1
def pm:=zc.1.1.2.1.2.2
def cd:=zc.1.1.2.2.1
def L:=zc.1.1.2.2.2.1
def m:=zc.1.1.2.2.2.2
def cm:=zc.1.2.1.1.1
def mg:=zc.1.2.1.1.2
def mb:=zc.1.2.1.2.1
def mN:=zc.1.2.1.2.2.1
def K:=zc.1.2.1.2.2.2
def B:=zc.1.2.2.1.1
def r:=zc.1.2.2.1.2.1
def W:=zc.1.2.2.1.2.2
def ev:=zc.1.2.2.2.1
def wt:=zc.1.2.2.2.2.1
def x:=zc.1.2.2.2.2.2
def dx:=zc.2.1.1.1.1
def d:=zc.2.1.1.1.2
def q:=zc.2.1.1.2.1
def NA:=zc.2.1.1.2.2.1
def EA:=zc.2.1.1.2.2.2
def SA:=zc.2.1.2.1.1
def N:=zc.2.1.2.1.2.1
def np:=zc.2.1.2.1.2.2
def ps:=zc.2.1.2.2.1
def o:=zc.2.1.2.2.2.1
def C:=zc.2.1.2.2.2.2
def bh:=zc.2.2.1.1.1
def P:=zc.2.2.1.1.2
def fI:=zc.2.2.1.2.1
def fL:=zc.2.2.1.2.2.1
def fM:=zc.2.2.1.2.2.2
def cM:=zc.2.2.2.1.1
def cO:=zc.2.2.2.1.2.1
def cB:=zc.2.2.2.1.2.2
def cR:=zc.2.2.2.2.1
def ls:=zc.2.2.2.2.2.1
def n:=zc.2.2.2.2.2.2
theorem zaux:zQ w A s₀ s b b₀ X pm cd L m cm mg mb mN K B r W ev wt x dx d q NA EA SA N np ps o C bh P fI fL fM cM cO cB cR ls n:=by
 intro ok S Cn I0 hb hso hse R Z Pm hX hsX hne hN hw Zv ho hbh hlsN hll hpl hpll
 refine byC0 λzn=>?_
 refine q1_1 (R.text) λtt htext=>?_
 refine q1_1 (R.turn) λtu hturn=>?_
 refine q1_2 (R.book) λbs hB hbp=>?_
 refine q1_2 (R.wt) λws hW hwp=>?_
 refine q1_3 (R.rs) λkv hr hk hv=>?_
 refine zn ?_;clear zn
 have evl:=run_len Pm.run
 have outl:=nodup_len N _ Pm.run.outN Pm.run.lt
 have wtl:wt.length<=N:=by
  rw [Pm.wt.length_eq]
  have:=List.length_filter_le (λi=>!decide (i∈dns ev)) (outs ev)
  omega
 have hbs:=hb.trans I0.le
 have bS:=Cn.blt (sO "sorted") (by simp)
 have bL:=Cn.blt (sO "len") (by simp)
 have VS:=I0.fs.blt (S.le hbs).g bS.1 (S.le hbs).b (bS.2.trans (by decide +kernel:bootBuiltins (sO "sorted")=some (.builtin "sorted"))) rfl rfl rfl rfl
 have wtN:∀ i∈wt,i∈outs ev/\i<N:=λi hi=>⟨(Pm.mem.mp hi).1,Pm.run.lt i (Pm.mem.mp hi).1⟩
 refine seqn (ex_asgM (Y:=[]) (Φ:=λv s2=>∃ D ms us,v=.ref D/\s.heap.get? D=none/\s2.heap.PlainList D (List.toArray us)/\Paired IsN ms us/\ms.Perm wt/\
   ∀ i j,i<=j->j<ms.length->keyF o (λi=>(rnd ev i:Int)) (λi=>(ls.getD i []).length) (ms.getD i 0)<=keyF o (λi=>(rnd ev i:Int)) (λi=>(ls.getD i []).length) (ms.getD j 0)) I0 rfl rfl (λa ha=>by cases ha)
  (eval_kw I0.le VS (Yd.namV (I0.fs.var (x:=sO "waiting") rfl rfl R.mw)) (Yd.namV (I0.fs.var (x:=sO "served") rfl rfl hse)) λu z s1 k1 hu hz=>?_) rfl) λs2 q=>?_
 ·cases hu;cases hz
  have l1:=I0.le.trans k1.le
  refine (sorted_call (n:=n) ok (S.le (hb.trans l1)) Cn (Zv.le l1) ho (hr.keep k1.le.get) (λi hi=>hv i (wtN i hi).1) (hbh.le l1) (λi hi=>by have:=(wtN i hi).2;omega) hll (by omega) ((hW.at λoo e=>k1.le.get _ _ e).isList) hwp (by omega)).to λv s2 q=>?_
  refine byC0 λzn=>?_;refine q3_2 q λD ms us z1 z2=>?_;clear q;subst z1;refine q0_6 z2 λk2 hD h1 h2 h3 h4=>?_;clear z2;refine zn ?_;clear zn
  exact e0_3 ((k1.trans k2).ev) (λa ha=>by cases ha) (e3_6 D ms us rfl (k1.le.none hD) h1 h2 h3 h4)
 refine byC0 λzn=>?_;refine q3_6 q λv s1 b2 E1 z1 E2 l2 I2 g2=>?_;clear q;refine q3_2 z1 λD ms us z2 z3=>?_;clear z1;subst z2;refine q0_5 z3 λhDn hDl hmu hmp hso4=>?_;clear z3;refine zn ?_;clear zn
 have Dft:D∉ft (rcEnv pm cd L) (rcEnv pm cd L).cells:=λhm=>by refine q1_1 (I0.fs.live D hm) λo' e'=>?_;rw [hDn] at e';cases e'
 have DX:D∉W::X:=λhm=>by refine q1_1 (I0.live D hm) λo' e'=>?_;rw [hDn] at e';cases e'
 have hDl2:s2.heap.PlainList D (List.toArray us):=hDl.at λoo e=>E2.get _ oo Dft e
 have lv2:∃ oo,s2.heap.get? D=some oo:=q1_1 hDl2 λnn e=>⟨_,e⟩
 have E02:Ev (ft (rcEnv pm cd L) (rcEnv pm cd L).cells) s s2:=(E1.mono λa ha=>by cases ha).trans E2
 have I3:InF s₀ (hideAll b2 [D]) (D::X) (rcEnv pm cd L) (rcEnv pm cd L).cells (up m (sO "waiting") (.ref D)) cm s2:=(I2.hide [D] (λa ha=>by rw [zS ha];exact lv2) (λa ha=>by rw [zS ha];exact Dft)).sub λa ha=>by
  rcases zC ha with h | h
  ·rw [h];exact zH ..
  ·exact zT (zT h)
 have l3:Le b (hideAll b2 [D]):=le_hide l2 λa ha=>by rw [zS ha];exact I0.le.none hDn
 generalize hideAll b2 [D]=b3 at I3 l3
 have hDX:D∈D::X:=zH ..
 have nX:∀ a∈X,a∉ft (rcEnv pm cd L) (rcEnv pm cd L).cells/\a≠D:=λa ha=>⟨I0.apart a (zT ha),λz=>DX (z▸zT ha)⟩
 refine byC0 λzn=>?_
 obtain ⟨g,rest,rfl⟩:∃ g rest,ms=g::rest:=by
  cases ms with
  | nil=>exact absurd hmp.symm.eq_nil hw
  | cons g rest=>exact e2_1 g rest rfl
 obtain ⟨y,us',rfl,hy,hus⟩:∃ y us',us=y::us'/\IsN g y/\Paired IsN rest us':=by
  cases hmu with
  | cons a r'=>exact e2_3 _ _ rfl a r'
 refine q1_1 hy λty z1=>?_;clear hy;subst z1
 refine zn ?_;clear zn
 have usl:us'.length=rest.length:=hus.length.symm
 have msl:rest.length+1=wt.length:=by have:=hmp.length_eq;simpa using this
 have hgw:g∈wt:=hmp.mem_iff.mp (zH ..)
 have hgo:=wtN g hgw
 refine seqn (ex_asgM (Y:=[D]) (Φ:=λv s4=>v=.int (g:Int) ty/\s4.heap.PlainList D (List.toArray us')) I3 rfl rfl (λa ha=>by rw [zS ha];exact hDX)
  ((eval_pop0 I3.le (Yd.namV (I3.fs.var (x:=sO "waiting") (v:=.ref D) rfl rfl (by simp [up]))) hDl2 (y:=.int (g:Int) ty) rfl (by rw [sizeLine_eq];simp;omega)).to λv s4 q=>⟨q.2.1,λa ha=>by rw [zS ha];refine q1_1 (q.2.2) λnn e=>?_;exact⟨_,e⟩,q.1,by simpa [Array.eraseIdxIfInBounds] using q.2.2⟩) rfl) λs5 q=>?_
 refine byC0 λzn=>?_;refine q3_6 q λv s4 b5 E3 z1 E4 l5 I5 g5=>?_;clear q;refine q0_2 z1 λz2 hD4=>?_;clear z1;subst z2;refine zn ?_;clear zn
 have hD5:s5.heap.PlainList D (List.toArray us'):=hD4.at λoo e=>E4.get _ oo Dft e
 have lb5:=l3.trans l5
 have E05:∀ a∈X,∀ oo,s.heap.get? a=some oo->s5.heap.get? a=some oo:=λa ha oo e=>E4.get a oo (nX a ha).1 (E3.get a oo (by simpa using (nX a ha).2) (E02.get a oo (nX a ha).1 e))
 have Vg:=I5.fs.var (x:=sO "gone") (v:=.int (g:Int) ty) rfl rfl (by simp [up])
 have htl:=tCps_len ev
 have eu:(⟨#[92]⟩:Str)++(⟨#[97+g]⟩:Str)=⟨(uCps (true,g)).toArray⟩:=by
  show Str.mk (#[92]++#[97+g])=_
  simp [uCps]
 refine seqn (ex_augS I5 rfl rfl (u:=⟨(tCps ev).toArray⟩) (t:=tt) (by simp +decide [up];exact htext) ((Yd.adds (Yd.str (x:=⟨#[92]⟩)) (Yd.sitem (x:=abcS) (k:=g) (Yd.namI Vg) (abc_at (by omega)) (by omega)) (by rw [sizeLine_eq];show 2<=16777216;decide)).mono λv g' _ h=>eu▸h) (by rw [sizeLine_eq];show (tCps ev).toArray.size+(uCps (true,g)).toArray.size<=_;simp [uCps];omega)) λs6 q=>?_
 refine byC0 λzn=>?_;refine s1_1 q λE6 t6 I6=>?_;clear q;refine zn ?_;clear zn
 have etx:(⟨(tCps ev).toArray⟩:Str)++⟨(uCps (true,g)).toArray⟩=⟨(tCps (ev++[(true,g)])).toArray⟩:=by
  show Str.mk ((tCps ev).toArray++(uCps (true,g)).toArray)=_
  rw [tCps_app,tCps_one]
  simp
 rw [etx] at I6
 have hb6:=(hb.trans lb5).trans I6.le
 have VL:=I6.fs.blt (S.le hb6).g bL.1 (S.le hb6).b (bL.2.trans (by decide +kernel:bootBuiltins (sO "len")=some (.builtin "len"))) rfl rfl rfl rfl
 have htl':=tCps_len (ev++[(true,g)])
 rw [List.length_append,List.length_singleton] at htl'
 have hbsl:bs.length=ev.length:=by rw [← hbp.length,bkFrom_len]
 have hB6:s6.heap.PlainList B (List.toArray bs):=(hB.at λoo e=>E05 B hX.1 oo e).at λoo e=>E6.get _ oo (nX B hX.1).1 e
 have Vg6:=I6.fs.var (x:=sO "gone") (v:=.int (g:Int) ty) rfl rfl (by simp +decide [up])
 have hBX:B∈D::X:=zT hX.1
 refine seqn (ex_append (P:=IsT [IsI (((⟨(tCps (ev++[(true,g)])).toArray⟩:Str).length:Int)-1),IsS ⟨(uCps (true,g)).toArray⟩]) I6.le (Yd.namV (I6.fs.var (x:=sO "book") (v:=.ref B) rfl rfl (by simp +decide [up];exact R.mb)))
   (Yd.tup (Yds.two (Yd.sub (Yd.lens VL (Yd.nam (I6.fs.var (x:=sO "text") (v:=.str ⟨(tCps (ev++[(true,g)])).toArray⟩ t6) rfl rfl (by simp [up])) λ_ _=>⟨t6,rfl⟩) (by show (tCps (ev++[(true,g)])).toArray.size<_;simp;omega)) Yd.int)
    ((Yd.adds (Yd.str (x:=⟨#[92]⟩)) (Yd.sitem (x:=abcS) (k:=g) (Yd.namI Vg6) (abc_at (by omega)) (by omega)) (by rw [sizeLine_eq];show 2<=16777216;decide)).mono λv g' _ h=>eu▸h))) hB6 (by rw [sizeLine_eq];simp;omega)) λs7 q=>?_
 refine byC0 λzn=>?_
 refine s2_4 q λE7 vb s7' k7' hPb E7' hB7=>?_;clear q
 refine q1_3 (I6.step E7 (λc hc=>.inr (by rw [zS hc];exact hBX)) (I6.fs.get λc hc oo e=>E7.get c oo (λz=>I6.apart _ hBX (zS z▸hc)) e) (λc _ hc=>by rw [zS hc];refine q1_1 hB7 λnn e=>?_;clear hB7;exact⟨_,e⟩)) λb7 l7 I7 g7=>?_
 have n7:Nw s6 s7' b7:=(I6.nw g7).leftE E7' (λa ha=>by rw [zS ha];refine q1_1 hB6 λnn e=>?_;clear hB6;exact⟨_,e⟩)
 have hvb:=hPb b7 l7 n7
 have lb7:=lb5.trans l7
 have E07:∀ a∈X,a≠B->∀ oo,s.heap.get? a=some oo->s7.heap.get? a=some oo:=λa ha hab oo e=>E7.get a oo (by simpa using hab) (E6.get a oo (nX a ha).1 (E05 a ha oo e))
 have Z7:=Z.get (h':=s7.heap) λa ha oo e=>E07 a (hsX a ha).1 (hsX a ha).2.1 oo e
 have hD7:s7.heap.PlainList D (List.toArray us'):=(hD5.at λoo e=>E6.get _ oo Dft e).at λoo e=>E7.get _ oo (by simpa using λz=>(nX B hX.1).2 z.symm) e
 have hr7:=hr.at (h':=s7.heap) λoo e=>E07 r hX.2.1 hne.symm oo e
 refine q0_3 (Pm.done hpl hmp (λy hy=>by
  refine q1_1 (List.getElem_of_mem hy) λj z1=>?_;refine q1_1 z1 λhj z2=>?_;clear z1;subst z2
  have:=hso4 0 (j+1) (by omega) (by simp;omega)
  unfold kkey
  simpa [List.getD,hj,keyF] using this)) λhgN hnp P'=>?_
 refine q1_6 (Z7.ia) λmA Ia hWi h2 hrn hpo hfi=>?_
 refine zn ?_;clear zn
 have hs7:=(hb.trans lb7).trans I7.le
 refine seqn (evn_expr (Φ:=λu s8=>Ev (sorA x dx d q NA EA SA N) s7 s8/\Sor w s8.heap x dx d q NA EA SA N (dfold (suR ps N g) (λi=>if i=g then -2 else np i,[])).1 (suR ps N) (dfold (suR ps N g) (λi=>if i=g then -2 else np i,[])).2 ((outs ev).length:Int) ((dns ev).length+1:Int))
  (eval_meth I7.le (I7.fs.var (x:=sO "sorter") (v:=.ref x) rfl rfl (by simp +decide [up];exact hso)) (S.le hs7).ts Ia Cn.dn (S.le hs7).f134.choose_spec.choose_spec (Cn.mN0 _ (by simp)) (Cn.mN0 _ (by simp)) (Mine.Internal.Within.no hWi (by decide)) tl9
   (Yds.one (Yd.namI (I7.fs.var (x:=sO "gone") (v:=.int (g:Int) ty) rfl rfl (by simp +decide [up])))) λvs s8 k8 hvs=>?_)) λs8 q=>?_
 ·refine v1 hvs λy1 ey a=>?_;subst ey
  refine byC0 λzn=>?_;refine q1_1 a λt' z1=>?_;clear a;subst z1;refine zn ?_;clear zn
  have hsl:=suR_len hpl N g
  have h6:N * ps.length<=6 * 100:=Nat.mul_le_mul hN hpll
  refine (done_call (n:=n+7) ok S (hs7.trans k8.le) Cn (Z7.get λa _ oo e=>k8.le.get a oo e) (λa ha=>hb.none (I0.off a (.inr (zT (hsX a ha).1)))) hgN hnp (λj hj=>(mem_suR hpl hgN hj).2.1) (by simp;omega)).to λv s9 q=>?_
  refine⟨k8.ev.trans (q.2.1.mono λa ha=>?_),q.2.2⟩
  (rcases mem_dnA.mp ha with z0 | z0 | z0 | z1)<;>(first | subst z0 | (refine q1_2 z1 λi hi z2=>?_;clear z1;subst z2) | skip)
  ·simp [sorA]
  ·simp [sorA]
  ·simp [sorA]
  ·exact zT (zT (zT (mem_gA.mpr (.inr (e1_2 i hi (.inl rfl))))))
 refine q1_2 q λu E8 Z8=>?_;clear q
 have I8:=I7.ev' E8 (λa ha=>.inr (zT (hsX a ha).1)) (I7.fs.get λc hc oo e=>E8.get c oo (λhm=>(nX c (hsX c hm).1).1 hc) e) (λa _ ha=>Z8.live a ha)
 refine seqn (ex_augI I8 rfl rfl (i:=((dns ev).length:Int)) (t:=tu) (by simp +decide [up];exact hturn) Yd.int) λs9 q=>?_
 refine byC0 λzn=>?_;refine s1_1 q λE9 t9 I9=>?_;clear q;refine zn ?_;clear zn
 have hso2:outs (ev++[(true,g)])=outs ev:=by rw [outs_app,outs_t,List.append_nil]
 have hd2:dns (ev++[(true,g)])=dns ev++[g]:=by rw [dns_app,dns_t]
 have nsor:∀ {a:Addr},a∈X->(∀ c∈sorA x dx d q NA EA SA N,a≠c)->True:=λ_ _=>trivial
 have Bs:B∉sorA x dx d q NA EA SA N:=λhm=>(hsX B hm).2.1 rfl
 have rs:r∉sorA x dx d q NA EA SA N:=λhm=>(hsX r hm).2.2 rfl
 have Ds:D∉sorA x dx d q NA EA SA N:=λhm=>(nX D (hsX D hm).1).2 rfl
 have ebk:bkFrom 0 (ev++[(true,g)])=bkFrom 0 ev++[((tCps (ev++[(true,g)])).length-1,(true,g))]:=by
  rw [bkFrom_app,tCps_app,tCps_one,List.length_append]
  simp [bkFrom]
 refine nil_ (e0_2 (.inl rfl) (e7_7 b7 _ D g rest _ _ lb7 I9 ⟨⟨t6,by simp +decide [up]⟩,by simp +decide [up];exact R.mb,by simp +decide [up];exact R.mr,by simp +decide [up],⟨t9,by rw [hd2];simp [up]⟩,e1_2 (bs++[vb]) ?_ ?_,e1_2 us' ?_ hus,e1_3 kv ?_ (by rw [hso2];exact hk) (λj hj=>?_)⟩ ?_ P' (λhm=>(nX D hm).2 rfl) (λy hy=>?_)))
 ·have:=(hB7.at (h':=s8.heap) λoo e=>E8.get _ oo Bs e).at (h':=s9.heap) λoo e=>E9.get _ oo (nX B hX.1).1 e
  simpa using this
 ·rw [ebk]
  refine Paired.app (Paired.imp (λ_ _ z=>z.le lb7) hbp) (.cons ?_ .nil)
  have e1:(((⟨(tCps (ev++[(true,g)])).toArray⟩:Str).length:Int)-1)=(((tCps (ev++[(true,g)])).length-1:Nat):Int):=by
   show ((((tCps (ev++[(true,g)])).toArray.size:Nat):Int)-1)=_
   have:1<=(tCps (ev++[(true,g)])).length:=by rw [tCps_app,tCps_one,List.length_append];have:=uCps_len (true,g);omega
   simp;omega
  rw [e1] at hvb
  exact hvb
 ·exact (hD7.at (h':=s8.heap) λoo e=>E8.get _ oo Ds e).at (h':=s9.heap) λoo e=>E9.get _ oo Dft e
 ·exact (hr7.at (h':=s8.heap) λoo e=>E8.get _ oo rs e).at (h':=s9.heap) λoo e=>E9.get _ oo (nX r hX.2.1).1 e
 ·rw [hso2] at hj
  rw [rnd_app hj]
  exact hv j hj
 ·rw [hso2,hd2,List.length_append,List.length_singleton]
  have:=Z8.get (h':=s9.heap) λa ha oo e=>E9.get a oo (nX a (hsX a ha).1).1 e
  exact this
 ·simp only [List.mem_cons,List.not_mem_nil,or_false,not_or] at hy
  simp only [up,if_neg hy.1,if_neg hy.2.1,if_neg hy.2.2.1,if_neg hy.2.2.2]
theorem zall:∀ p,zR p:=all1 zaux
end
end Z5
theorem rec_rest {w A s₀ s b b₀ X pm cd L m cm mg mb mN K B r W ev wt x dx d q NA EA SA N np ps o C bh P fI fL fM cM cO cB cR ls n}:Z5.zQ w A s₀ s b b₀ X pm cd L m cm mg mb mN K B r W ev wt x dx d q NA EA SA N np ps o C bh P fI fL fM cM cO cB cR ls n:=Z5.zall (((((w,A),(s₀,(s,b))),((b₀,(X,pm)),(cd,(L,m)))),(((cm,mg),(mb,(mN,K))),((B,(r,W)),(ev,(wt,x))))),((((dx,d),(q,(NA,EA))),((SA,(N,np)),(ps,(o,C)))),(((bh,P),(fI,(fL,fM))),((cM,(cO,cB)),(cR,(ls,n))))))
section
variable {ps:List (Nat×Nat)} {N:Nat} {o:Int} {ln:Nat->Nat} {ev:List Evt}
theorem run_wait (h:Run ps N o ln ev):((outs ev).filter λi=>!decide (i∈dns ev)).length+(dns ev).length=(outs ev).length:=by
 induction h with
 | nil=>rfl
 | @snoc ev x hr hx ih=>
  refine byC0 λzn=>?_;rcases x with ⟨c,j⟩;refine zn ?_;clear zn
  rw [outs_app,dns_app]
  cases c with
  | false=>
   rw [outs_f,dns_f,List.append_nil,List.filter_append,List.length_append,List.length_append]
   have hj:j∉dns ev:=λhm=>hx.2.1 (hr.sub j hm)
   rw [List.filter_cons_of_pos (by simp [hj]),List.filter_nil,List.length_singleton]
   omega
  | true=>
   rw [outs_t,dns_t,List.append_nil,List.length_append,List.length_singleton]
   have e:(outs ev).filter (λi=>!decide (i∈dns ev++[j]))=((outs ev).filter λi=>!decide (i∈dns ev)).erase j:=by
    rw [List.Nodup.erase_eq_filter (hr.outN.filter _),List.filter_filter]
    congr 1
    funext i
    simp [bne,Bool.and_comm]
    by_cases h:i=j<;>simp [h]
   rw [e,List.length_erase_of_mem (by rw [List.mem_filter];exact⟨hx.1,by simp [hx.2.1]⟩)]
   have:0<((outs ev).filter λi=>!decide (i∈dns ev)).length:=List.length_pos_of_mem (a:=j) (by rw [List.mem_filter];exact⟨hx.1,by simp [hx.2.1]⟩)
   omega
theorem Pst.end_ {np:Nat->Int} {rd wt:List Nat} (hpl:∀ p∈ps,p.1<p.2) (h:Pst ps N o ln ev np rd wt) (h1:(outs ev).length<=(dns ev).length) (h2:rd=[]):∀ i,i<N->i∈outs ev/\i∈dns ev:=by
 have e:=run_wait h.run
 have hw:(outs ev).filter (λi=>!decide (i∈dns ev))=[]:=List.length_eq_zero_iff.mp (by omega)
 have od:∀ i∈outs ev,i∈dns ev:=λi hi=>by
  have:=List.filter_eq_nil_iff.mp hw i hi
  simpa using this
 intro i
 induction i using Nat.strongRecOn with
 | ind i ih=>
  intro hi
  have hio:i∈outs ev:=by
   by_cases hm:i∈outs ev
   ·exact hm
   ·have:i∈rd:=(h.rd i).mpr ⟨hi,hm,λp hp e=>(ih p.1 (by have:=hpl p hp;omega) (by have:=hpl p hp;omega)).2⟩
    rw [h2] at this;cases this
  exact⟨hio,od i hio⟩
end
section
variable {w:World} {A:Around} {s₀ s:Shared} {b b₀:Heap} {X:List Addr} {pm cd:Value} {L:Addr} {m cm:SoV} {mg mb mN:SoV} {K:Frag} {B r W:Addr} {ev:List Evt} {wt rd:List Nat}
 {x dx d q:Addr} {NA EA SA:Nat->Addr} {N:Nat} {np:Nat->Int} {ps:List (Nat×Nat)} {o:Int} {C bh P fI fL fM cM cO cB cR:Addr} {ls:List (List Nat)}
end
namespace Z20
noncomputable section
def zQ (w:World) (A:Around) (s₀ s:Shared) (b b₀:Heap) (X:List Addr) (pm cd:Value) (L:Addr) (m cm mg mb mN:SoV) (K:Frag) (B r W:Addr) (ev:List Mine.Internal.Evt) (wt rd:List Nat) (x dx d q:Addr) (NA EA SA:Nat->Addr) (N:Nat) (np:Nat->Int) (ps:List (Nat×Nat)) (o:Int) (C bh P fI fL fM cM cO cB cR:Addr) (ls:List (List Nat)) (n:Nat):Prop:=∀ (ok:Ok (n+8) A) (S:St w mg mb mN K b₀) (Cn:Con mg mb mN K) (I0:InF s₀ b (W::X) (rcEnv pm cd L) (rcEnv pm cd L).cells m cm s) (hb:Le b₀ b) (hso:m (sO "sorter")=some (.ref x)) (hse:m (sO "served")=some (.ref C)) (R:Rs w b s.heap m B r W ev wt) (Z:Sor w s.heap x dx d q NA EA SA N np (suR ps N) rd ((outs ev).length:Int) ((dns ev).length:Int)) (Ps:Pst ps N o (λi=>(ls.getD i []).length) ev np rd wt) (hX:B∈X/\r∈X/\W∉X) (hsX:∀ a∈sorA x dx d q NA EA SA N,a∈X/\a≠B/\a≠r) (hne:B≠r) (hN:N<=6) (Zv:SvAt b C r bh o P fI fL fM cM cO cB cR) (ho:o=0\/o=1) (hbh:LL b b bh ls) (hlsN:ls.length=N) (hll:∀ l∈ls,l.length<1000) (hpl:∀ p∈ps,p.1<p.2) (hpll:ps.length<=100),Wp w A (exec (nth (fBody (top 14)) 9) (rcEnv pm cd L)) (λfl s'=>fl=.next/\∃ b' m' cm' W' ev' wt',Le b b'/\InF s₀ b' (W'::X) (rcEnv pm cd L) (rcEnv pm cd L).cells m' cm' s'/\Rs w b' s'.heap m' B r W' ev' wt'/\Run ps N o (λi=>(ls.getD i []).length) ev'/\∀ i,i<N->i∈outs ev'/\i∈dns ev') s
abbrev zY:=(((((World×Around)×(Shared×(Shared×Heap)))×((Heap×((List Addr)×Value))×(Value×(Addr×SoV))))×(((SoV×SoV)×(SoV×(SoV×Frag)))×((Addr×(Addr×Addr))×((List Mine.Internal.Evt)×((List Nat)×(List Nat))))))×((((Addr×Addr)×(Addr×(Addr×(Nat->Addr))))×(((Nat->Addr)×((Nat->Addr)×Nat))×((Nat->Int)×((List (Nat×Nat))×Int))))×(((Addr×(Addr×Addr))×(Addr×(Addr×Addr)))×((Addr×(Addr×Addr))×(Addr×((List (List Nat))×Nat))))))
def zR (p:zY):=zQ p.1.1.1.1.1 p.1.1.1.1.2 p.1.1.1.2.1 p.1.1.1.2.2.1 p.1.1.1.2.2.2 p.1.1.2.1.1 p.1.1.2.1.2.1 p.1.1.2.1.2.2 p.1.1.2.2.1 p.1.1.2.2.2.1 p.1.1.2.2.2.2 p.1.2.1.1.1 p.1.2.1.1.2 p.1.2.1.2.1 p.1.2.1.2.2.1 p.1.2.1.2.2.2 p.1.2.2.1.1 p.1.2.2.1.2.1 p.1.2.2.1.2.2 p.1.2.2.2.1 p.1.2.2.2.2.1 p.1.2.2.2.2.2 p.2.1.1.1.1 p.2.1.1.1.2 p.2.1.1.2.1 p.2.1.1.2.2.1 p.2.1.1.2.2.2 p.2.1.2.1.1 p.2.1.2.1.2.1 p.2.1.2.1.2.2 p.2.1.2.2.1 p.2.1.2.2.2.1 p.2.1.2.2.2.2 p.2.2.1.1.1 p.2.2.1.1.2.1 p.2.2.1.1.2.2 p.2.2.1.2.1 p.2.2.1.2.2.1 p.2.2.1.2.2.2 p.2.2.2.1.1 p.2.2.2.1.2.1 p.2.2.2.1.2.2 p.2.2.2.2.1 p.2.2.2.2.2.1 p.2.2.2.2.2.2
def zc:zY:=eps1 (neP (neP (neP (neP (neP neW neA) (neP neS (neP neS neI))) neI) neI) neI) zR
def w:=zc.1.1.1.1.1
def A:=zc.1.1.1.1.2
def s₀:=zc.1.1.1.2.1
def s:=zc.1.1.1.2.2.1
def b:=zc.1.1.1.2.2.2
def b₀:=zc.1.1.2.1.1
def X:=zc.1.1.2.1.2.1
def pm:=zc.1.1.2.1.2.2
def cd:=zc.1.1.2.2.1
def L:=zc.1.1.2.2.2.1
def m:=zc.1.1.2.2.2.2
def cm:=zc.1.2.1.1.1
def mg:=zc.1.2.1.1.2
def mb:=zc.1.2.1.2.1
def mN:=zc.1.2.1.2.2.1
def K:=zc.1.2.1.2.2.2
def B:=zc.1.2.2.1.1
def r:=zc.1.2.2.1.2.1
def W:=zc.1.2.2.1.2.2
def ev:=zc.1.2.2.2.1
def wt:=zc.1.2.2.2.2.1
def rd:=zc.1.2.2.2.2.2
def x:=zc.2.1.1.1.1
def dx:=zc.2.1.1.1.2
def d:=zc.2.1.1.2.1
def q:=zc.2.1.1.2.2.1
def NA:=zc.2.1.1.2.2.2
def EA:=zc.2.1.2.1.1
def SA:=zc.2.1.2.1.2.1
def N:=zc.2.1.2.1.2.2
def np:=zc.2.1.2.2.1
def ps:=zc.2.1.2.2.2.1
def o:=zc.2.1.2.2.2.2
def C:=zc.2.2.1.1.1
def bh:=zc.2.2.1.1.2.1
def P:=zc.2.2.1.1.2.2
def fI:=zc.2.2.1.2.1
def fL:=zc.2.2.1.2.2.1
def fM:=zc.2.2.1.2.2.2
def cM:=zc.2.2.2.1.1
def cO:=zc.2.2.2.1.2.1
def cB:=zc.2.2.2.1.2.2
def cR:=zc.2.2.2.2.1
def ls:=zc.2.2.2.2.2.1
def n:=zc.2.2.2.2.2.2
theorem zaux:zQ w A s₀ s b b₀ X pm cd L m cm mg mb mN K B r W ev wt rd x dx d q NA EA SA N np ps o C bh P fI fL fM cM cO cB cR ls n:=by
 intro ok S Cn I0 hb hso hse R Z Ps hX hsX hne hN Zv ho hbh hlsN hll hpl hpll
 refine Wp.to (ex_while (body:=wBody) (λk s'=>∃ b' m' cm' W' ev' np' rd' wt',k=2 * N+1-ev'.length/\Le b b'/\InF s₀ b' (W'::X) (rcEnv pm cd L) (rcEnv pm cd L).cells m' cm' s'/\Rs w b' s'.heap m' B r W' ev' wt'/\
   Sor w s'.heap x dx d q NA EA SA N np' (suR ps N) rd' ((outs ev').length:Int) ((dns ev').length:Int)/\Pst ps N o (λi=>(ls.getD i []).length) ev' np' rd' wt'/\W'∉X/\m' (sO "sorter")=some (.ref x)/\m' (sO "served")=some (.ref C))
  (Q:=λs'=>∃ b' m' cm' W' ev' wt',Le b b'/\InF s₀ b' (W'::X) (rcEnv pm cd L) (rcEnv pm cd L).cells m' cm' s'/\Rs w b' s'.heap m' B r W' ev' wt'/\
   Run ps N o (λi=>(ls.getD i []).length) ev'/\∀ i,i<N->i∈outs ev'/\i∈dns ev') (λk s' hI=>?_) _ (e8_9 b m cm W ev np rd wt rfl (Le.refl _) I0 R Z Ps hX.2.2 hso hse)) λfl s' q=>q
 refine byC0 λzn=>?_
 refine q6_1 hI λb' m' cm' W' ev' np' z1=>?_;clear hI;refine q2_2 z1 λrd' wt' z2 z3=>?_;clear z1;subst z2;refine q0_8 z3 λl' I' R' Z' P' hW' hso' hse'=>?_;clear z3
 refine q1_6 (Z'.ia) λmA Ia hWi h2 hrn z1 z2=>?_;refine q1_1 z1 λtp hpo=>?_;clear z1;refine q1_1 z2 λtf hfi=>?_;clear z2
 refine zn ?_;clear zn
 have hbs:=(hb.trans l').trans I'.le
 have rdl:=nodup_len N rd' P'.rdN λi hi=>((P'.rd i).mp hi).1
 refine is_true_call (c:=decide (((dns ev').length:Int)<((outs ev').length:Int)) || !rd'.isEmpty) (eval_meth0 (I'.fs.var (x:=sO "sorter") rfl rfl hso') (S.le hbs).ts Ia Cn.act (S.le hbs).f120.choose_spec.choose_spec (Cn.mN0 _ (by simp)) (Cn.mN0 _ (by simp)) (Mine.Internal.Within.no hWi (by decide)) tl8
  ((act_call (n:=n+7) ok (S.le hbs) Cn Ia hrn hpo hfi Z'.rl (by omega)).to λv s1 q1=>⟨q1.2,?_⟩))
 have k1:=q1.1
 have I1:=I'.kp k1
 have R1:Rs w b' s1.heap m' B r W' ev' wt':=R'.get (Le.refl _) λa _ oo e=>k1.le.get a oo e
 have Z1:=Z'.get (h':=s1.heap) λa _ oo e=>k1.le.get a oo e
 have hww:=run_wait P'.run
 have hwl:=P'.wt.length_eq
 cases hc:(decide (((dns ev').length:Int)<((outs ev').length:Int)) || !rd'.isEmpty) with
 | false=>
  simp only [Bool.false_eq_true,if_false]
  simp only [Bool.or_eq_false_iff,decide_eq_false_iff_not,Bool.not_eq_false',List.isEmpty_iff] at hc
  exact e6_5 b' m' cm' W' ev' wt' l' I1 R1 P'.run (P'.end_ hpl (by omega) hc.2)
 | true=>
  simp only [if_true]
  have hwn:wt'++rd'≠[]:=λhz=>by
   refine q0_2 (List.append_eq_nil_iff.mp hz) λhz1 hz2=>?_
   subst hz1 hz2
   simp only [List.isEmpty_nil,Bool.not_true,Bool.or_false,decide_eq_true_eq] at hc
   simp only [List.length_nil] at hwl
   omega
  have hXw:B∈W'::X/\r∈W'::X/\W'∈W'::X:=⟨zT hX.1,zT hX.2.1,zH ..⟩
  have hneW:B≠r/\B≠W'/\r≠W':=⟨hne,λz=>hW' (z▸hX.1),λz=>hW' (z▸hX.2.1)⟩
  refine (seq (st:=wFor) (rest:=wBody.drop 1) (rec_for (n:=n+7) ok S Cn I1 (hb.trans l') hso' R1 Z1 P' hXw (λa ha=>⟨zT (hsX a ha).1,(hsX a ha).2.1,(hsX a ha).2.2,λz=>hW' (z▸(hsX a ha).1)⟩) hneW hN) λf s2 q=>?_)
  refine byC0 λzn=>?_;refine q0_2 q λz1 z2=>?_;clear q;subst z1;refine q3_5 z2 λb2 m2 cm2 l2 I2 R2 Z2 hm2=>?_;clear z2;refine zn ?_;clear zn
  refine (rec_rest (n:=n) ok S Cn I2 ((hb.trans l').trans l2) (by rw [hm2 _ (by decide)];exact hso') (by rw [hm2 _ (by decide)];exact hse') R2 Z2 P'.mid ⟨hX.1,hX.2.1,hW'⟩ hsX hne hN hwn (Zv.le (l'.trans l2)) ho (hbh.le (l'.trans l2)) hlsN hll hpl hpll).to λf s3 q=>?_
  refine byC0 λzn=>?_;refine q0_2 q λhf z1=>?_;clear q;refine q6_1 z1 λb3 m3 D g rest np3 z2=>?_;clear z1;refine q1_7 z2 λrd3 l3 I3 R3 Z3 P3 hD hm3=>?_;clear z2;refine zn ?_;clear zn
  have hlen:=run_len P3.run
  refine e0_2 hf (e1_2 (2 * N+1-(ev'++(rd'.map λi=>(false,i))++[(true,g)]).length) ?_ (e8_9 b3 m3 cm2 D _ np3 rd3 rest rfl ((l'.trans l2).trans l3) I3 R3 Z3 P3 hD ?_ ?_))
  ·simp only [List.length_append,List.length_map,List.length_singleton] at hlen ⊢
   omega
  ·rw [hm3 _ (by decide),hm2 _ (by decide)];exact hso'
  ·rw [hm3 _ (by decide),hm2 _ (by decide)];exact hse'
theorem zall:∀ p,zR p:=all1 zaux
end
end Z20
theorem rec_while {w A s₀ s b b₀ X pm cd L m cm mg mb mN K B r W ev wt rd x dx d q NA EA SA N np ps o C bh P fI fL fM cM cO cB cR ls n}:Z20.zQ w A s₀ s b b₀ X pm cd L m cm mg mb mN K B r W ev wt rd x dx d q NA EA SA N np ps o C bh P fI fL fM cM cO cB cR ls n:=Z20.zall (((((w,A),(s₀,(s,b))),((b₀,(X,pm)),(cd,(L,m)))),(((cm,mg),(mb,(mN,K))),((B,(r,W)),(ev,(wt,rd))))),((((x,dx),(d,(q,NA))),((EA,(SA,N)),(np,(ps,o)))),(((C,(bh,P)),(fI,(fL,fM))),((cM,(cO,cB)),(cR,(ls,n))))))
theorem InF.rebase {s₀ s:Shared} {b:Heap} {X:List Addr} {env:Env} {own:List (Str×Addr)} {m cm:SoV} (I:InF s₀ b X env own m cm s) (X':List Addr) (lv:∀ a∈X',∃ o,s.heap.get? a=some o) (ap:∀ a∈X',a∉ft env own) :
  InF s₀ (hideAll s.heap (ft env own++X')) X' env own m cm s:=⟨I.same,⟨λa o e=>of_hideAll _ e⟩,I.fs,λa ha=>hideAll_none _ (List.mem_append.mpr ha),lv,ap⟩
noncomputable def IsRec (ev:List Evt) (v:Value) (g:Heap):Prop:=∃ T t Bk bs,v=.ref T/\g.IsTuple T #[.str ⟨(tCps ev).toArray⟩ t,.ref Bk]/\g.PlainList Bk (List.toArray bs)/\Paired (λe v=>IsBk e v g) (bkFrom 0 ev) bs
noncomputable def Served (w:World) (H₁:Heap):Prop:=∀ (A:Around) (s:Shared) (r b:Addr) (o:Int) (t:Tok),Le H₁ s.heap->A.handled=none->A.depth<=600->A.units<=3000->Wp w A (call (.ref 167) [.ref r,.ref b,.int o t]) (λv s'=>KOut s v s' r b o) s
namespace Z2
noncomputable section
def zQ (w:World) (A:Around) (s:Shared) (b₀ H₁:Heap) (mg mb mN:SoV) (K:Frag) (N:Nat) (ps:List (Nat×Nat)) (o:Int) (bh Pp:Addr) (ls:List (List Nat)) (vs:List Value) (outer:List Env) (n:Nat) (t:Tok):Prop:=∀ (ok:Ok (n+9) A) (hdp:A.depth<=500) (hun:A.units<=2000) (hfr:A.frames=some outer) (fr:FrOk s.heap outer) (frq:∀ L∈frs outer,b₀.get? L=none) (S:St w mg mb mN K b₀) (hb:Le b₀ s.heap) (C:Con mg mb mN K) (C2:Con2 K) (SV:Served w H₁) (hH:Le H₁ s.heap) (frH:∀ L∈frs outer,H₁.get? L=none) (tH:∀ a∈tabs2,(∃ oo,H₁.get? a=some oo)/\b₀.get? a=none) (hP:b₀.IsList Pp vs.toArray) (hPs:Paired (λp v=>IsNP p v b₀) ps vs) (hbh:LL b₀ b₀ bh ls) (hlsN:ls.length=N) (hll:∀ l∈ls,l.length<1000) (hpl:∀ p∈ps,p.1<p.2) (hpll:ps.length<=100) (hN:N<=6) (ho:o=0\/o=1),Wp w A (call (.ref 172) [.ref Pp,.ref bh,.int o t]) (λv s'=>Ev (30::162::frs outer) s s'/\(∀ L∈frs outer,Upf L s s')/\Grown s.heap s'.heap 30/\Grown s.heap s'.heap 162/\∃ ev,Run ps N o (λi=>(ls.getD i []).length) ev/\(∀ i,i<N->i∈outs ev/\i∈dns ev)/\IsRec ev v s'.heap) s
abbrev zY:=((((World×Around)×(Shared×Heap))×((Heap×SoV)×(SoV×(SoV×Frag))))×(((Nat×(List (Nat×Nat)))×(Int×(Addr×Addr)))×(((List (List Nat))×(List Value))×((List Env)×(Nat×Tok)))))
def zR (p:zY):=zQ p.1.1.1.1 p.1.1.1.2 p.1.1.2.1 p.1.1.2.2 p.1.2.1.1 p.1.2.1.2 p.1.2.2.1 p.1.2.2.2.1 p.1.2.2.2.2 p.2.1.1.1 p.2.1.1.2 p.2.1.2.1 p.2.1.2.2.1 p.2.1.2.2.2 p.2.2.1.1 p.2.2.1.2 p.2.2.2.1 p.2.2.2.2.1 p.2.2.2.2.2
def zc:zY:=eps1 (neP (neP (neP (neP neW neA) (neP neS neI)) neI) neI) zR
def w:=zc.1.1.1.1
def A:=zc.1.1.1.2
def s:=zc.1.1.2.1
def b₀:=zc.1.1.2.2
def H₁:=zc.1.2.1.1
def mg:=zc.1.2.1.2
def mb:=zc.1.2.2.1
def mN:=zc.1.2.2.2.1
def K:=zc.1.2.2.2.2
def N:=zc.2.1.1.1
def ps:=zc.2.1.1.2
def o:=zc.2.1.2.1
def bh:=zc.2.1.2.2.1
def Pp:=zc.2.1.2.2.2
def ls:=zc.2.2.1.1
def vs:=zc.2.2.1.2
def outer:=zc.2.2.2.1
def n:=zc.2.2.2.2.1
def t:=zc.2.2.2.2.2
theorem zaux:zQ w A s b₀ H₁ mg mb mN K N ps o bh Pp ls vs outer n t:=by
 intro ok hdp hun hfr fr frq S hb C C2 SV hH frH tH hP hPs hbh hlsN hll hpl hpll hN ho
 refine q2_1 ((S.le hb).f172) λpm cd F=>?_
 refine wpAny_call (call_fnC (n:=n+8) (binds:=[(sO "pairs",.ref Pp),(sO "behind",.ref bh),(sO "odd",.int o t)]) [sO "node"] ok F (S.le hb).lim rfl (by kernel_rfl) rfl (by kernel_rfl) (λ_=>by kernel_rfl) (by decide) (λ_=>by kernel_rfl) λs1 L m cm B I1 ok'=>?_)
 have mps:m (sO "pairs")=some (.ref Pp):=B 0 _ _ rfl
 have mbh:m (sO "behind")=some (.ref bh):=B 1 _ _ rfl
 have mod:m (sO "odd")=some (.int o t):=B 2 _ _ rfl
 clear B
 have hfr':(A.deeper (rcEnv pm cd L)).frames=some (rcEnv pm cd L::outer):=Around.frames_deeper hfr
 have hb1:=hb.trans I1.le
 refine seqn (ex_asgM (Y:=[]) (Φ:=λv s2=>∃ x dx d mA,v=.ref x/\IA s2.heap x dx mA/\Within mA tsN/\mA (sO "_node2info")=some (.ref d)/\mA (sO "_ready_nodes")=some .none/\
   (∃ t,mA (sO "_npassedout")=some (.int 0 t))/\(∃ t,mA (sO "_nfinished")=some (.int 0 t))/\s2.heap.DictOf (intKind Pg w) d []/\s1.heap.get? x=none/\s1.heap.get? dx=none/\s1.heap.get? d=none/\x≠d/\dx≠d) I1 rfl rfl (λa ha=>by cases ha)
  (eval_K0 (I1.fs.glo (x:=sO "TopologicalSorter") (S.le hb1).g C.ts rfl rfl rfl) (S.le hb1).k C.tkp ((ts_new (n:=n+6) ok' (S.le hb1) C).to λv s2 q=>?_)) rfl) λs2 q=>?_
 ·refine q4_3 q λx dx d mA e1 k r=>?_;clear q
  exact e0_3 k.ev (λa ha=>by cases ha) (e4_2 x dx d mA e1 r)
 refine byC0 λzn=>?_;refine q3_6 q λv s1' b2 E1 z1 E2 l2 I2 g2=>?_;clear q;refine q4_2 z1 λx dx d mA z2 z3=>?_;clear z1;subst z2;refine q0_9 z3 λIa hW h2 hrn hpo hfi hd0 nx z4=>?_;clear z3;refine q0_4 z4 λndx nd xd dxd=>?_;clear z4;refine zn ?_;clear zn
 have nf:∀ a,s1.heap.get? a=none->a∉ft (rcEnv pm cd L) (rcEnv pm cd L).cells:=λa ha hm=>by refine q1_1 (I1.fs.live a hm) λo' e'=>?_;rw [ha] at e';cases e'
 have l12:Le s.heap s2.heap:=l2.trans I2.le
 have Ia2:IA s2.heap x dx mA:=Ia.get λa ha oo e=>E2.get a oo (by refine byC0 λzn=>?_;((rcases ha with z0 | z0)<;>(replace z0:=Eq.symm z0;subst z0))<;>(refine zn ?_;clear zn);exact nf _ nx;exact nf _ ndx) e
 have hd2:s2.heap.DictOf (intKind Pg w) d []:=hd0.at λoo e=>E2.get d oo (nf _ nd) e
 have n3:∀ a∈[x,dx,d],s1.heap.get? a=none:=λa ha=>by
  replace ha:=mem3 ha
  ((rcases ha with z0 | z0 | z0)<;>(replace z0:=Eq.symm z0;subst z0))<;>assumption
 have lv3:∀ a∈[x,dx,d],∃ oo,s2.heap.get? a=some oo:=λa ha=>by
  replace ha:=mem3 ha
  (rcases ha with z0 | z0 | z0)<;>(replace z0:=Eq.symm z0;subst z0)
  ·refine q1_2 (Ia2.obj) λoo e _=>?_;exact⟨oo,e⟩
  ·refine q3_2 (Ia2.ns) λoo _ _ e _=>?_;exact⟨oo,e⟩
  ·refine q3_2 hd2 λoo _ _ e _=>?_;clear hd2;exact⟨oo,e⟩
 have n0:∀ a,s1.heap.get? a=none->s.heap.get? a=none:=λa ha=>I1.le.none ha
 have I3:=I2.rebase [x,dx,d] lv3 λa ha=>nf a (n3 a ha)
 have l3:Le s.heap (hideAll s2.heap (ft (rcEnv pm cd L) (rcEnv pm cd L).cells++[x,dx,d])):=le_hide l12 λa ha=>by
  rcases List.mem_append.mp ha with h | h
  ·exact I1.off a (.inl h)
  ·exact n0 a (n3 a h)
 generalize hideAll s2.heap (ft (rcEnv pm cd L) (rcEnv pm cd L).cells++[x,dx,d])=b3 at I3 l3
 have lb3:=hb.trans l3
 refine q1_2 (hbh.le lb3) λus hus husp=>?_
 refine seqn (rec_adds (n:=n+3) ok' S C C2 I3 lb3 (by simp +decide [up];exact mps) (by simp +decide [up];exact mbh) (by simp [up]) (hP.at λoo e=>lb3.get _ _ e) (Paired.imp (λp v q=>?_) hPs) hus (by rw [← husp.length,hlsN]) hpl (by omega) hpll (by simp) xd dxd ⟨by simp,by simp⟩ Ia2 hW h2 hrn hd2) λs3 q=>?_
 ·refine q2_2 q λT ws z1 z2=>?_;clear q;subst z1;refine q0_2 z2 λhT hw=>?_;clear z2
  refine e2_3 T ws rfl (hT.at λoo e=>lb3.get _ _ e) ?_
  refine v2 hw λy1 y2 ey a a'=>?_;subst ey
  exact .cons a (.cons a' .nil)
 refine byC0 λzn=>?_;refine q1_4 q λcm3 I4 Ia3 z1 hkeep=>?_;clear q;refine q3_2 z1 λNA EA SA G hnew=>?_;clear z1;refine zn ?_;clear zn
 have nft:∀ {a:Addr} {oo:Obj},s.heap.get? a=some oo->a∉ft (rcEnv pm cd L) (rcEnv pm cd L).cells:=λe=>I1.notft e
 have l03:Le s.heap s3.heap:=l3.trans I4.le
 have gNew:∀ a∈gA d NA EA SA N,s.heap.get? a=none:=λa ha=>by
  (rcases hnew a ha with z0 | h)<;>(first | (replace z0:=Eq.symm z0;subst z0) | skip)
  ·exact n0 _ nd
  ·exact l12.none h
 have ndl:d∉frs outer:=λhm=>by
  refine byC0 λzn=>?_
  refine q1_2 (List.mem_filterMap.mp hm) λe he hf=>?_
  refine s2_3 (fr e he) λ_ L' o' hf' ho' _=>?_
  refine zn ?_;clear zn
  rw [hf] at hf';cases hf'
  rw [n0 _ nd] at ho';cases ho'
 have frl:∀ L'∈frs outer,∃ o,s.heap.get? L'=some o:=λL' hL'=>by
  refine byC0 λzn=>?_
  refine q1_2 (List.mem_filterMap.mp hL') λe he hf=>?_
  refine s2_3 (fr e he) λ_ L'' o' hf' ho' _=>?_
  refine zn ?_;clear zn
  rw [hf] at hf';cases hf'
  exact⟨o',ho'⟩
 have frne:∀ L'∈frs outer,∀ a,s.heap.get? a=none->L'≠a:=λL' hL' a ha z=>by
  refine q1_1 (frl L' hL') λo' e'=>?_
  rw [z,ha] at e';cases e'
 have frL:∀ L',L'∈frs (rcEnv pm cd L::outer)->L'=L\/L'∈frs outer:=λL' h=>zC (show L'∈L::frs outer from h)
 have Lft:L∈ft (rcEnv pm cd L) (rcEnv pm cd L).cells:=zH ..
 have gft:∀ a∈gA d NA EA SA N,a∉ft (rcEnv pm cd L) (rcEnv pm cd L).cells:=λa ha=>by
  (rcases hnew a ha with z0 | h)<;>(first | (replace z0:=Eq.symm z0;subst z0) | skip)
  ·exact nf _ nd
  ·intro hm;refine q1_1 (I2.fs.live a hm) λo' e'=>?_;rw [h] at e';cases e'
 have xg:x∉gA d NA EA SA N/\dx∉gA d NA EA SA N:=by
  refine⟨λhm=>?_,λhm=>?_⟩
  ·rcases hnew x hm with h | h
   ·exact xd h
   ·refine q1_1 (lv3 x (by simp)) λo' e'=>?_;rw [h] at e';cases e'
  ·rcases hnew dx hm with h | h
   ·exact dxd h
   ·refine q1_1 (lv3 dx (by simp)) λo' e'=>?_;rw [h] at e';cases e'
 have fr3:FrOk s3.heap (rcEnv pm cd L::outer):=by
  intro e he
  refine byC0 λzn=>?_;((rcases zC he with rfl | he))<;>(refine zn ?_;clear zn)
  ·refine q3_3 (I4.fs.ns) λo' es ep h1 h2 _=>?_
   exact e0_2 (show ScopeKind.function≠ScopeKind.module from by decide) (e2_3 _ o' rfl h1 (λvs q=>by rw [h2] at q;cases q))
  ·refine byC0 λzn=>?_;refine s2_3 (fr e he) λhk L' o' h1 h2' h3=>?_;refine zn ?_;clear zn
   exact e0_2 hk (e2_3 L' o' h1 (l03.get _ _ h2') h3)
 have hbs3:=hb.trans l03
 refine seqn (evn_expr (Φ:=λu s4=>Ev (x::dx::L::frs outer) s3 s4/\(∀ L'∈L::frs outer,Upf L' s3 s4)/\∃ q,IA s4.heap x dx (up mA (sO "_ready_nodes") (.ref q))/\NatL s4.heap q ((List.range N).filter λi=>(((preds ps i).length:Int) == 0))/\s3.heap.get? q=none)
  (eval_meth0 (I4.fs.var (x:=sO "sorter") (v:=.ref x) rfl rfl (by simp [up])) (S.le hbs3).ts Ia3 C.prep (S.le hbs3).f106.choose_spec.choose_spec (C.mN0 _ (by simp)) (C.mN0 _ (by simp)) (Mine.Internal.Within.no hW (by decide)) tl6
   ((prep_call (n:=n+5) ok' hfr' fr3 (λL' hL'=>by
     (rcases frL L' hL' with z0 | h)<;>(first | (replace z0:=Eq.symm z0;subst z0) | skip)
     ·exact hb.none (I1.off _ (.inl Lft))
     ·exact frq L' h) S hbs3 C Ia3 hW h2 hrn G (S.nmod (hb.none (n0 _ nd))) (λi hi j hj=>let h:=mem_suR hpl hi hj;⟨h.1,h.2.1⟩) ⟨by omega,λi hi=>by
      have h1:=suR_len hpl N i
      have h6:N * ps.length<=6 * 100:=Nat.mul_le_mul hN hpll
      omega⟩ (λL' hL'=>by
     (rcases frL L' hL' with z0 | h)<;>(first | (replace z0:=Eq.symm z0;subst z0) | skip)
     ·exact⟨λz=>nf _ nx (z▸Lft),λz=>nf _ ndx (z▸Lft),λz=>gft _ z Lft⟩
     ·exact⟨frne L' h _ (n0 _ nx),frne L' h _ (n0 _ ndx),λz=>frne L' h _ (gNew _ z) rfl⟩) xg.1 xg.2 ⟨hb.none (n0 _ nx),hb.none (n0 _ ndx)⟩).to λu s4 q=>⟨q.2.1,q.2.2.1,q.2.2.2⟩))) λs4 q=>?_
 refine byC0 λzn=>?_;refine q1_3 q λu E4 U4 z1=>?_;clear q;refine q1_3 z1 λq Ia4 hq nq=>?_;clear z1;refine zn ?_;clear zn
 have Lfo:∀ {a:Addr},a∈ft (rcEnv pm cd L) (rcEnv pm cd L).cells->a∉frs outer:=λ{a} ha hm=>by
  refine q1_1 (frl a hm) λo' e'=>?_
  exact nft e' ha
 have F4:Fs s4.heap (rcEnv pm cd L) (rcEnv pm cd L).cells _ cm3:=Fs.upfC I4.fs (U4 L (zH ..)) λnn c hc oo e=>E4.get c oo (λhm=>by
  have hcf:=mem_ft (env:=rcEnv pm cd L) hc
  simp only [List.mem_cons] at hm
  (rcases hm with z0 | z0 | z0 | hm)<;>(first | (replace z0:=Eq.symm z0;subst z0) | skip)
  ·exact nf _ nx hcf
  ·exact nf _ ndx hcf
  ·exact I4.fs.off _ _ hc rfl
  ·exact Lfo hcf hm) e
 have keep4:∀ a oo,a∉ft (rcEnv pm cd L) (rcEnv pm cd L).cells->a∉frs outer->a≠x->a≠dx->s3.heap.get? a=some oo->s4.heap.get? a=some oo:=λa oo h1 h2 h3 h4 e=>E4.get a oo (λhm=>by
  simp only [List.mem_cons] at hm
  (rcases hm with z0 | z0 | z0 | hm)<;>(first | (replace z0:=Eq.symm z0;subst z0) | skip)
  ·exact h3 rfl
  ·exact h4 rfl
  ·exact h1 Lft
  ·exact h2 hm) e
 have gfo:∀ a∈gA d NA EA SA N,a∉frs outer:=λa ha hm=>frne a hm a (gNew a ha) rfl
 have Gq:Gr w s4.heap d NA EA SA N (λi=>((preds ps i).length:Int)) (suR ps N):=G.get λa ha oo e=>keep4 a oo (gft a ha) (gfo a ha) (λz=>xg.1 (z▸ha)) (λz=>xg.2 (z▸ha)) e
 have qg:q∉gA d NA EA SA N:=λhm=>by refine q1_1 (G.live q hm) λo' e'=>?_;rw [nq] at e';cases e'
 have Z4:Sor w s4.heap x dx d q NA EA SA N (λi=>((preds ps i).length:Int)) (suR ps N) ((List.range N).filter λi=>(((preds ps i).length:Int) == 0)) ((outs []).length:Int) ((dns []).length:Int):=by
  refine⟨e1_6 _ Ia4 (Mine.Internal.Within.up hW (by decide)) (by simp +decide [up];exact h2) (by simp [up]) ?_ ?_,Gq,hq,xg.1,xg.2,qg⟩
  ·refine q1_1 hpo λtp e=>?_;clear hpo
   exact⟨tp,by simp +decide [up];exact e⟩
  ·refine q1_1 hfi λtp e=>?_;clear hfi
   exact⟨tp,by simp +decide [up];exact e⟩
 have sNew:∀ a∈sorA x dx d q NA EA SA N,s.heap.get? a=none/\a∉ft (rcEnv pm cd L) (rcEnv pm cd L).cells:=λa ha=>by
  simp only [sorA,List.mem_cons] at ha
  (rcases ha with z0 | z0 | z0 | ha)<;>(first | (replace z0:=Eq.symm z0;subst z0) | skip)
  ·exact⟨n0 _ nx,nf _ nx⟩
  ·exact⟨n0 _ ndx,nf _ ndx⟩
  ·exact⟨l03.none nq,λhm=>by refine q1_1 (I4.fs.live _ hm) λo' e'=>?_;rw [nq] at e';cases e'⟩
  ·exact⟨gNew a ha,gft a ha⟩
 have same4:∃ h' tk,s4={ s with heap:=h',toks:=tk }:=same_trans I4.same E4.same
 have I5:InF s (hideAll s4.heap (ft (rcEnv pm cd L) (rcEnv pm cd L).cells++sorA x dx d q NA EA SA N)) (sorA x dx d q NA EA SA N) (rcEnv pm cd L) (rcEnv pm cd L).cells _ cm3 s4:=⟨same4,⟨λa o e=>of_hideAll _ e⟩,F4,λa ha=>hideAll_none _ (List.mem_append.mpr ha),λa ha=>Z4.live a ha,λa ha=>(sNew a ha).2⟩
 have k04:∀ a oo,a∉frs outer->s.heap.get? a=some oo->s4.heap.get? a=some oo:=λa oo h e=>keep4 a oo (nft e) h (λz=>by rw [z,n0 _ nx] at e;cases e) (λz=>by rw [z,n0 _ ndx] at e;cases e) (l03.get _ _ e)
 have k05:∀ a oo,a∉frs outer->s.heap.get? a=some oo->(hideAll s4.heap (ft (rcEnv pm cd L) (rcEnv pm cd L).cells++sorA x dx d q NA EA SA N)).get? a=some oo:=λa oo h e=>hideAll_get _ (k04 a oo h e) λhm=>by
  rcases List.mem_append.mp hm with h' | h'
  ·exact nft e h'
  ·rw [(sNew a h').1] at e;cases e
 have U05:∀ L'∈frs outer,∀ oo,s.heap.get? L'=some oo->∃ sl,(hideAll s4.heap (ft (rcEnv pm cd L) (rcEnv pm cd L).cells++sorA x dx d q NA EA SA N)).get? L'=some { oo with slots:=sl }:=λL' hL' oo e=>by
  refine q1_1 (U4 L' (zT hL') oo (l03.get _ _ e)) λsl e'=>?_
  refine⟨sl,hideAll_get _ e' λhm=>?_⟩
  rcases List.mem_append.mp hm with h' | h'
  ·exact nft e h'
  ·rw [(sNew L' h').1] at e;cases e
 generalize hideAll s4.heap (ft (rcEnv pm cd L) (rcEnv pm cd L).cells++sorA x dx d q NA EA SA N)=b5 at I5 k05 U05
 have lq5:Le b₀ b5:=⟨λa oo e=>k05 a oo (λhm=>by rw [frq a hm] at e;cases e) (hb.get _ _ e)⟩
 have lH5:Le H₁ b5:=⟨λa oo e=>k05 a oo (λhm=>by rw [frH a hm] at e;cases e) (hH.get _ _ e)⟩
 refine seqn (ex_asg I5 rfl rfl (Yd.str (x:=⟨#[]⟩)) rfl) λs5 q=>?_
 refine byC0 λzn=>?_;refine s2_3 q λE5 v5 b6 l6 I6 z2=>?_;clear q;refine q1_1 z2 λt5 z3=>?_;clear z2;subst z3;refine zn ?_;clear zn
 refine seqn (ex_asg I6 rfl rfl (Yd.lstN Yds.nil) rfl) λs6 q=>?_
 refine byC0 λzn=>?_;refine s2_4 q λE6 v6 b7 l7 I7 z2 z5=>?_;clear q;refine q2_2 z2 λBk vB z3 z4=>?_;clear z2;subst z3;refine q0_2 z4 λhBk hvB=>?_;clear z4;refine q1_2 z5 λ_ z nBk=>?_;clear z5;refine zn ?_;clear zn
 cases z;cases hvB
 refine seqn (ex_asg I7 rfl rfl (Yd.lstN Yds.nil) rfl) λs7 q=>?_
 refine byC0 λzn=>?_;refine s2_4 q λE7 v7 b8 l8 I8 z2 z5=>?_;clear q;refine q2_2 z2 λW vW z3 z4=>?_;clear z2;subst z3;refine q0_2 z4 λhWl hvW=>?_;clear z4;refine q1_2 z5 λ_ z nW=>?_;clear z5;refine zn ?_;clear zn
 cases z;cases hvW
 refine seqn (ex_asg I8 rfl rfl Yd.dict0 rfl) λs8 q=>?_
 refine byC0 λzn=>?_;refine s2_4 q λE8 v8 b9 l9 I9 z2 z4=>?_;clear q;refine q1_2 z2 λr z3 hr=>?_;clear z2;subst z3;refine q1_2 z4 λ_ z nr=>?_;clear z4;refine zn ?_;clear zn
 cases z
 have l59:=((l6.trans l7).trans l8).trans l9
 have hBk9:b9.PlainList Bk #[]:=hBk.at λoo e=>(l8.trans l9).get _ _ e
 have hWl9:b9.PlainList W #[]:=hWl.at λoo e=>l9.get _ _ e
 have nB5:b5.get? Bk=none/\Bk∉sorA x dx d q NA EA SA N:=⟨(l6.trans I6.le).none nBk,λhm=>by refine q1_1 (I6.live _ hm) λo' e'=>?_;rw [nBk] at e';cases e'⟩
 have nW5:b5.get? W=none/\W∉sorA x dx d q NA EA SA N:=⟨((l6.trans l7).trans I7.le).none nW,λhm=>by refine q1_1 (I7.live _ hm) λo' e'=>?_;rw [nW] at e';cases e'⟩
 have nr5:b5.get? r=none/\r∉sorA x dx d q NA EA SA N:=⟨(((l6.trans l7).trans l8).trans I8.le).none nr,λhm=>by refine q1_1 (I8.live _ hm) λo' e'=>?_;rw [nr] at e';cases e'⟩
 have hBW:Bk≠W:=λz=>by
  refine q1_1 hBk λnn e=>?_;clear hBk
  rw [z] at e
  rw [I7.le.get _ _ e] at nW;cases nW
 have hBr:Bk≠r:=λz=>by
  refine q1_1 hBk λnn e=>?_;clear hBk
  rw [z] at e
  rw [(l8.trans I8.le).get _ _ e] at nr;cases nr
 have hWr:r≠W:=λz=>by
  refine q1_1 hWl λnn e=>?_;clear hWl
  rw [← z] at e
  rw [I8.le.get _ _ e] at nr;cases nr
 have hBk9':s8.heap.PlainList Bk #[]:=hBk9.at λoo e=>I9.le.get _ _ e
 have hWl9':s8.heap.PlainList W #[]:=hWl9.at λoo e=>I9.le.get _ _ e
 have hr9':s8.heap.DictOf (intKind Pg w) r []:=hr.at λoo e=>I9.le.get _ _ e
 have lvT:∀ a∈tabs2,∃ oo,b9.get? a=some oo:=λa ha=>q1_1 ((tH a ha).1) λoo e=>⟨oo,(lH5.trans l59).get _ _ e⟩
 have nl4:∀ a∈tabs2++[W,Bk,r],(∃ oo,b9.get? a=some oo):=λa ha=>by
  rcases List.mem_append.mp ha with h | h
  ·exact lvT a h
  ·replace h:=mem3 h
   (rcases h with z0 | z0 | z0)<;>(replace z0:=Eq.symm z0;subst z0)
   ·refine q1_1 hWl9 λnn e=>?_;clear hWl9;exact⟨_,e⟩
   ·refine q1_1 hBk9 λnn e=>?_;clear hBk9;exact⟨_,e⟩
   ·refine q3_2 hr λoo _ _ e _=>?_;clear hr;exact⟨_,e⟩
 have I10:=I9.hide (tabs2++[W,Bk,r]) (λa ha=>q1_1 (nl4 a ha) λoo e=>⟨oo,I9.le.get _ _ e⟩) (λa ha=>q1_1 (nl4 a ha) λoo e=>I9.notft e)
 have lq10:Le b₀ (hideAll b9 (tabs2++[W,Bk,r])):=le_hide (lq5.trans l59) λa ha=>by
  rcases List.mem_append.mp ha with h | h
  ·exact (tH a h).2
  ·replace h:=mem3 h
   (rcases h with z0 | z0 | z0)<;>(replace z0:=Eq.symm z0;subst z0)
   ·exact lq5.none nW5.1
   ·exact lq5.none nB5.1
   ·exact lq5.none nr5.1
 have k10:∀ a oo,a∉tabs2->b5.get? a=some oo->(hideAll b9 (tabs2++[W,Bk,r])).get? a=some oo:=λa oo h e=>hideAll_get _ (l59.get _ _ e) λhm=>by
  rcases List.mem_append.mp hm with h' | h'
  ·exact h h'
  ·replace h':=mem3 h'
   (rcases h' with z0 | z0 | z0)<;>(replace z0:=Eq.symm z0;subst z0)
   ·rw [nW5.1] at e;cases e
   ·rw [nB5.1] at e;cases e
   ·rw [nr5.1] at e;cases e
 have hT8:Le H₁ s8.heap:=(lH5.trans l59).trans I9.le
 have lb8:=(lq5.trans l59).trans I9.le
 have tab8:∀ a∈tabs2,∀ oo,s.heap.get? a=some oo->s8.heap.get? a=some oo:=λa ha oo e=>(l59.trans I9.le).get _ _ (k05 a oo (λhm=>by
  refine q1_1 ((tH a ha).1) λo' e'=>?_
  rw [frH a hm] at e';cases e') e)
 generalize hideAll b9 (tabs2++[W,Bk,r])=b10 at I10 lq10 k10
 refine seqn (ex_asgM (Y:=tabs2) (Φ:=λv s9=>∃ s8',Kp s8 s8'/\KOut s8' v s9 r bh o) I10 rfl rfl (λa ha=>List.mem_append_left _ (List.mem_append_left _ ha))
  (eval_callF I10.le (I10.fs.glo (x:=sO "_law_served") (S.le lb8).g C.srv rfl rfl rfl) (S.le lb8).f167.choose_spec.choose_spec
   (Yds.cons (Yd.namV (I10.fs.var (x:=sO "rounds") (v:=.ref r) rfl rfl (by simp [up]))) (Yds.two (Yd.namV (I10.fs.var (x:=sO "behind") (v:=.ref bh) rfl rfl (by simp +decide [up];exact mbh))) (Yd.namV (I10.fs.var (x:=sO "odd") (v:=.int o t) rfl rfl (by simp +decide [up];exact mod)))) rfl) λvs' s8' k hv=>?_) rfl) λs10 qq=>?_
 ·refine v3 hv λy1 y2 y3 ey a1 a2 a3=>?_;subst ey
  cases a1;cases a2;cases a3
  refine (SV _ s8' r bh o t (hT8.trans k.le) ok'.hd (by show A.depth+1<=600;omega) (by show A.units+3<=3000;omega)).to λv s9 h=>?_
  refine q0_4 (id h) λhE g1 g2 rest=>?_
  refine e0_3 (k.ev.trans hE) (λa ha=>?_) (e1_2 s8' k h)
  (rcases zC ha with rfl | ha)
  ·refine q2_2 g1 λ_ _ _ e=>?_;clear g1;exact⟨_,e⟩
  ·rw [zS ha];refine q2_2 g2 λ_ _ _ e=>?_;clear g2;exact⟨_,e⟩
 refine byC0 λzn=>?_;refine q3_6 qq λv9 s9 b11 E9 z1 E10 l11 I11 g11=>?_;clear qq;refine q1_5 z1 λs8' k8 hKE gr1 gr2 z2=>?_;clear z1;refine q6_1 z2 λCc P fI fL fM cM z3=>?_;clear z2;refine q3_2 z3 λcO cB cR z4 z5=>?_;clear z3;subst z4;refine q0_2 z5 λnC hSv=>?_;clear z5;refine zn ?_;clear zn
 have n9:Nw s8' s9 b11:=((I10.nw g11).leftE E10 (λa ha=>I10.fs.live a ha)).right k8.le
 have Zv:=hSv b11 n9
 have X4:∀ a∈tabs2,a∉ft (rcEnv pm cd L) (rcEnv pm cd L).cells:=λa ha=>I10.apart a (List.mem_append_left _ (List.mem_append_left _ ha))
 have xn:∀ a∈[W,Bk,r],a∉tabs2:=λa ha hm=>by
  refine q1_1 ((tH a hm).1) λo' e'=>?_
  have e5:=lH5.get _ _ e'
  replace ha:=mem3 ha
  (rcases ha with z0 | z0 | z0)<;>(replace z0:=Eq.symm z0;subst z0)
  ·rw [nW5.1] at e5;cases e5
  ·rw [nB5.1] at e5;cases e5
  ·rw [nr5.1] at e5;cases e5
 have E8t:Ev tabs2 s8 s9:=k8.ev.trans hKE
 have keep11:∀ a oo,a∉tabs2->a∉ft (rcEnv pm cd L) (rcEnv pm cd L).cells->s8.heap.get? a=some oo->s10.heap.get? a=some oo:=λa oo h1 h2 e=>E10.get a oo h2 (E8t.get a oo h1 e)
 have fB:∀ a∈[W,Bk,r],a∉ft (rcEnv pm cd L) (rcEnv pm cd L).cells:=λa ha=>I10.apart a (List.mem_append_left _ (List.mem_append_right _ ha))
 have sT:∀ a∈sorA x dx d q NA EA SA N,a∉tabs2:=λa ha hm=>by
  refine q1_1 ((tH a hm).1) λo' e'=>?_
  rw [hH.none (sNew a ha).1] at e';cases e'
 have Z8:Sor w s8.heap x dx d q NA EA SA N (λi=>((preds ps i).length:Int)) (suR ps N) ((List.range N).filter λi=>(((preds ps i).length:Int) == 0)) ((outs []).length:Int) ((dns []).length:Int):=
  Z4.get λa ha oo e=>E8.get a oo (sNew a ha).2 (E7.get a oo (sNew a ha).2 (E6.get a oo (sNew a ha).2 (E5.get a oo (sNew a ha).2 e)))
 have Z10:=Z8.get (h':=s10.heap) λa ha oo e=>keep11 a oo (sT a ha) (sNew a ha).2 e
 have l12':Le b11 (hideAll s10.heap (ft (rcEnv pm cd L) (rcEnv pm cd L).cells++(W::Bk::r::sorA x dx d q NA EA SA N))):=le_hide I11.le λa ha=>by
  rcases List.mem_append.mp ha with h | h
  ·exact I11.off a (.inl h)
  ·refine I11.off a (.inr ?_)
   have h':a∈[W,Bk,r]\/a∈sorA x dx d q NA EA SA N:=by
    simp only [List.mem_cons,List.not_mem_nil,or_false] at h ⊢
    rcases h with h | h | h | h
    ·exact .inl (.inl h)
    ·exact .inl (.inr (.inl h))
    ·exact .inl (.inr (.inr h))
    ·exact .inr h
   rcases h' with h' | h'
   ·exact List.mem_append_left _ (List.mem_append_right _ h')
   ·exact List.mem_append_right _ h'
 have lv4:∀ a∈W::Bk::r::sorA x dx d q NA EA SA N,∃ oo,s10.heap.get? a=some oo:=λa ha=>by
  simp only [List.mem_cons] at ha
  (rcases ha with z0 | z0 | z0 | h)<;>(first | (replace z0:=Eq.symm z0;subst z0) | skip)
  ·refine q1_1 hWl9' λnn e=>?_;clear hWl9';exact⟨_,keep11 _ _ (xn _ (by simp)) (fB _ (by simp)) e⟩
  ·refine q1_1 hBk9' λnn e=>?_;clear hBk9';exact⟨_,keep11 _ _ (xn _ (by simp)) (fB _ (by simp)) e⟩
  ·refine q3_2 hr9' λoo _ _ e _=>?_;clear hr9';exact⟨_,keep11 _ _ (xn _ (by simp)) (fB _ (by simp)) e⟩
  ·exact Z10.live a h
 have I12:=I11.rebase (W::Bk::r::sorA x dx d q NA EA SA N) lv4 λa ha=>by
  simp only [List.mem_cons] at ha
  (rcases ha with z0 | z0 | z0 | h)<;>(first | (replace z0:=Eq.symm z0;subst z0) | skip)
  ·exact fB _ (by simp)
  ·exact fB _ (by simp)
  ·exact fB _ (by simp)
  ·exact (sNew a h).2
 have tabB:∀ a∈tabs2,∀ oo,s10.heap.get? a=some oo->(hideAll s10.heap (ft (rcEnv pm cd L) (rcEnv pm cd L).cells++(W::Bk::r::sorA x dx d q NA EA SA N))).get? a=some oo:=λa ha oo e=>hideAll_get _ e λhm=>by
  rcases List.mem_append.mp hm with h | h
  ·exact X4 a ha h
  ·simp only [List.mem_cons] at h
   (rcases h with z0 | z0 | z0 | h)<;>(first | (replace z0:=Eq.symm z0;subst z0) | skip)
   ·exact xn _ (by simp) ha
   ·exact xn _ (by simp) ha
   ·exact xn _ (by simp) ha
   ·exact sT a h ha
 generalize hideAll s10.heap (ft (rcEnv pm cd L) (rcEnv pm cd L).cells++(W::Bk::r::sorA x dx d q NA EA SA N))=b12 at I12 l12' tabB
 refine seqn (ex_asg I12 rfl rfl Yd.int rfl) λs11 qq=>?_
 refine byC0 λzn=>?_;refine s2_3 qq λE11 v11 b13 l13 I13 z2=>?_;clear qq;refine q1_1 z2 λt11 z3=>?_;clear z2;subst z3;refine zn ?_;clear zn
 have l1013:=(l11.trans l12').trans l13
 have R13:Rs w b13 s11.heap (up (up (up (up (up (up (up m (sO "sorter") (.ref x)) (sO "text") (.str ⟨#[]⟩ t5)) (sO "book") (.ref Bk)) (sO "waiting") (.ref W)) (sO "rounds") (.ref r)) (sO "served") (.ref Cc)) (sO "turn") (.int 0 t11)) Bk r W [] []:=by
  refine⟨⟨t5,by simp +decide [up,tCps]⟩,by simp +decide [up],by simp +decide [up],by simp +decide [up],⟨t11,by simp [up,dns]⟩,e1_2 [] ?_ .nil,e1_2 [] ?_ .nil,e1_3 [] ?_ rfl (λi hi=>by cases hi)⟩
  ·exact hBk9'.at λoo e=>E11.get _ oo (fB _ (by simp)) (keep11 _ oo (xn _ (by simp)) (fB _ (by simp)) e)
  ·exact hWl9'.at λoo e=>E11.get _ oo (fB _ (by simp)) (keep11 _ oo (xn _ (by simp)) (fB _ (by simp)) e)
  ·exact hr9'.at λoo e=>E11.get _ oo (fB _ (by simp)) (keep11 _ oo (xn _ (by simp)) (fB _ (by simp)) e)
 have Z11:=Z10.get (h':=s11.heap) λa ha oo e=>E11.get a oo (sNew a ha).2 e
 refine seqn (rec_while (n:=n) (X:=Bk::r::sorA x dx d q NA EA SA N) ok' S C I13 (lq10.trans l1013) (by simp +decide [up]) (by simp +decide [up]) R13 Z11 (Pst.start λi _=>preds_left i) ⟨by simp,by simp,λhm=>by
   simp only [List.mem_cons] at hm
   rcases hm with h | h | h
   ·exact hBW h.symm
   ·exact hWr h.symm
   ·exact nW5.2 h⟩ (λa ha=>⟨by simp [ha],λz=>nB5.2 (z▸ha),λz=>nr5.2 (z▸ha)⟩) hBr hN (Zv.le (l12'.trans l13)) ho (hbh.le (lq10.trans l1013)) hlsN hll hpl hpll) λs12 qq=>?_
 refine byC0 λzn=>?_
 refine q6_5 qq λb14 m14 cm14 W' ev wt l14 I14 R14 hrun hall=>?_;clear qq
 refine q1_1 (R14.text) λtt htext=>?_
 refine q1_2 (R14.book) λbs hbs hbp=>?_
 refine zn ?_;clear zn
 refine seqk ((ex_ret I14.le (Yd.tup (Yds.two (Yd.namV (I14.fs.var (x:=sO "text") rfl rfl htext)) (Yd.namV (I14.fs.var (x:=sO "book") rfl rfl R14.mb))))).to λf s13 qq=>?_)
 refine byC0 λzn=>?_
 refine q1_2 qq λv z1 z2=>?_;clear qq;subst z1;refine q0_2 z2 λk13 hv=>?_;clear z2
 have hv':=hv s13.heap (I14.le.trans k13.le) (Nw.self _ _)
 refine q2_2 hv' λT us' z1 z2=>?_;clear hv';subst z1;refine q0_2 z2 λhT hup=>?_;clear z2
 refine zn ?_;clear zn
 have e2:us'=[.str ⟨(tCps ev).toArray⟩ tt,.ref Bk]:=by
  refine v2 hup λy1 y2 ey a1 a2=>?_;subst ey
  cases a1;cases a2;rfl
 subst e2
 have fin:∀ a oo,b12.get? a=some oo->s13.heap.get? a=some oo:=λa oo e=>k13.le.get _ _ (I14.le.get _ _ ((l13.trans l14).get _ _ e))
 have fin10:∀ a oo,b10.get? a=some oo->s13.heap.get? a=some oo:=λa oo e=>fin a oo ((l11.trans l12').get _ _ e)
 have gro:∀ a,a∈tabs2->Grown s8'.heap s9.heap a->(∃ oo,H₁.get? a=some oo)->Grown s.heap s13.heap a:=λa ha hg hl=>by
  refine byC0 λzn=>?_
  refine q2_2 hg λpp more e1 e2=>?_;clear hg
  refine q1_1 hl λoo e3=>?_;clear hl
  refine zn ?_;clear zn
  have e4:=k8.le.get _ _ (tab8 a ha oo (hH.get _ _ e3))
  rw [e1] at e4
  refine e2_2 pp more (by rw [e4];exact hH.get _ _ e3) (fin a _ (tabB a ha _ (E10.get a _ (X4 a ha) e2)))
 refine⟨⟨same_trans I14.same k13.same,λa oo hm e=>?_⟩,λL' hL' oo e=>?_,gro 30 (by simp) gr1 (tH 30 (by simp)).1,gro 162 (by simp) gr2 (tH 162 (by simp)).1,ev,hrun,hall,T,tt,Bk,bs,rfl,hT,hbs.at λoo e=>k13.le.get _ _ e,Paired.imp (λ_ _ z=>z.le (I14.le.trans k13.le)) hbp⟩
 ·have hm1:a∉tabs2:=λh=>hm (by
   (rcases zC h with rfl | h)
   ·simp
   ·rw [zS h];simp)
  exact fin10 a oo (k10 a oo hm1 (k05 a oo (λh=>hm (by simp [h])) e))
 ·refine q1_1 (U05 L' hL' oo e) λsl e'=>?_
  refine⟨sl,fin10 L' _ (k10 L' _ (λh=>?_) e')⟩
  refine q1_1 ((tH L' h).1) λo' e''=>?_
  rw [frH L' hL'] at e'';cases e''
theorem zall:∀ p,zR p:=all1 zaux
end
end Z2
theorem rec_call {w A s b₀ H₁ mg mb mN K N ps o bh Pp ls vs outer n t}:Z2.zQ w A s b₀ H₁ mg mb mN K N ps o bh Pp ls vs outer n t:=Z2.zall ((((w,A),(s,b₀)),((H₁,mg),(mb,(mN,K)))),(((N,ps),(o,(bh,Pp))),((ls,vs),(outer,(n,t)))))
section
open Sem (wp)
section
variable {w:World} {A:Around} {R:GenEnd} {Y:Protocol} {n:Nat} {s₀:Shared} {c:Code} {fs:List Frame} {s:Shared} {env:Env}
 {K:Flow->Sem Fin} {H:Value->Sem Fin} {gd:Bool->Bool} {lv:List Value->List Value} {target iter:Expr} {body:List Stmt} {pos:Pos}
noncomputable abbrev ownK (env:Env) (K:Flow->Sem Fin) (H:Value->Sem Fin) (gd:Bool->Bool) (lv:List Value->List Value):Result->Sem Fin:=λr=>((match r with | .ok f=>(.pure f:Sem Flow) | .error e=>.raise e).onRaise λ(x:Value)=>do
    if (← field x 1) == Value.none then unsupported "frame.own-activation:exception-without-traceback"
    setFlight x env.frame).wrap K H gd lv
theorem seg_For (h:Wp w (A.over c fs) (eval iter env) (λx s1=>Wp w (A.over c fs) (pyIter x) (λit s2=>∀ p,Seg (model Pg w) A R Y n s₀ (.forLoop target it body [] env) ((model Pg w).den (.forLoop target it body [] env))
   (.ret (ownK env K H gd lv) none (gd false) (lv []) c p []::fs) s2) s1) s)
  (hs:autoParam (∀ x,foldedSetIterable iter env x=pure x) auI1) :
  Seg (model Pg w) A R Y n s₀ c ((exec (.For target iter body [] pos) env).wrap K H gd lv) fs s:=by
 rw [exec_For]
 show Seg _ A R Y n s₀ c (.at pos λ_=>(eval iter env >>= λa=>(foldedSetIterable iter env a >>= λx=>(standAt iter.pos >>= λ_=>(holding [x] (pyIter x) >>= λit=>runOwn (.forLoop target it body [] env) env)))).wrap K H gd lv) fs s
 refine seg_at ?_
 rw [Sem.bind_eq_wrap',Sem.wrap_wrap]
 refine seg_wrap (Wp.to h λx s1 q=>?_)
 rw [hs x]
 show Seg _ A R Y n s₀ c (.at iter.pos λ_=>(holding [x] (pyIter x) >>= λit=>runOwn (.forLoop target it body [] env) env).wrap K H (λg=>gd (id g)) (λl=>lv (id l))) fs s1
 refine seg_at ?_
 rw [Sem.bind_eq_wrap',Sem.wrap_wrap]
 refine seg_wrap (wpAny_holding (Wp.to q λit s2 q2=>?_))
 exact seg_call q2
theorem seg_forLoop {it:Value}
  (h:Wp w (A.over (.forLoop target it body [] env) fs) (pyNext it) (λr s1=>match r with
   | none=>Seg (model Pg w) A R Y n s₀ (.block [] env) ((model Pg w).den (.block [] env)) fs s1
   | some v=>Wp w (A.over (.forLoop target it body [] env) fs) (letOwnedTupleGo target it v) (λ_ s2=>Wp w (A.over (.forLoop target it body [] env) fs) (assign target env v) (λ_ s3=>
     Seg (model Pg w) A R Y n s₀ (.forLoop target it body [] env) ((execs body env).wrap (λf=>match f with
      | .next | .cont=>.pure (.again (.forLoop target it body [] env))
      | .brk=>.pure (.done .next)
      | .ret v=>.pure (.done (.ret v))) (λe=>(do noteFrame e env;theTreesLotGoes e:Sem Unit).wrap (λ_=>.raise e) .raise id id) id id) fs s3) s2) s1) s) :
  Seg (model Pg w) A R Y n s₀ (.forLoop target it body [] env) ((model Pg w).den (.forLoop target it body [] env)) fs s:=by
 show Seg _ A R Y n s₀ _ ((forTurn target it body [] env).onRaise (λx=>do noteFrame x env;theTreesLotGoes x)) fs s
 unfold forTurn
 rw [Sem.onRaise_eq_wrap]
 show Seg _ A R Y n s₀ _ (.at target.pos λ_=>((pyNext it).onRaise (λ_=>standAt { target.pos with line:=0 }) >>= λr=>match r with
  | none=>again (.block [] env)
  | some v=>(letOwnedTupleGo target it v >>= λ_=>(assign target env v >>= λ_=>(execs body env >>= λf=>match f with
   | .next | .cont=>again (.forLoop target it body [] env)
   | .brk=>pure (.done .next)
   | .ret v=>pure (.done (.ret v)))))).wrap .pure _ id id) fs s
 refine seg_at ?_
 rw [Sem.bind_eq_wrap',Sem.wrap_wrap]
 refine seg_wrap (wpAny_onRaise (Wp.to h λr s1 q=>?_))
 cases r with
 | none=>exact seg_again rfl q
 | some v=>
  dsimp only at q ⊢
  rw [Sem.bind_eq_wrap',Sem.wrap_wrap]
  refine seg_wrap (Wp.to q λ_ s2 q2=>?_)
  rw [Sem.bind_eq_wrap',Sem.wrap_wrap]
  refine seg_wrap (Wp.to q2 λ_ s3 q3=>?_)
  rw [Sem.bind_eq_wrap',Sem.wrap_wrap]
  rw [Sem.wrap_congr (execs body env) _ _ (K':=λf=>match f with
      | .next | .cont=>.pure (.again (.forLoop target it body [] env))
      | .brk=>.pure (.done .next)
      | .ret v=>.pure (.done (.ret v))) (H':=(λe=>(do noteFrame e env;theTreesLotGoes e:Sem Unit).wrap (λ_=>.raise e) .raise id id))
    (λf=>by cases f<;>rfl)
    (λe=>by first | exact Sem.bind_eq_wrap _ _ | (show (do noteFrame e env;theTreesLotGoes e:Sem Unit).bind (λ_=>.raise e)=_;rw [Sem.bind_eq_wrap]))]
  exact q3
theorem seg_after {g:Bool} {l:List Value} {p:Pos} {kp:List Value} {h0:Option Value} (h:Seg (model Pg w) A R Y n s₀ c (K .next) fs s) :
  Seg (model Pg w) A R Y n s₀ (.block [] env) ((model Pg w).den (.block [] env)) (.ret (ownK env K H gd lv) h0 g l c p kp::fs) s:=by
 show Seg _ A R Y n s₀ _ (leafOf (.ok .next)) _ s
 exact seg_leaf _ h
theorem seg_exec {st:Stmt} {rest:List Stmt} (h:Wp w (A.over c fs) (exec st env) (λf s'=>f=.next/\Seg (model Pg w) A R Y n s₀ c ((execs rest env).wrap K H gd lv) fs s') s) :
  Seg (model Pg w) A R Y n s₀ c ((execs (st::rest) env).wrap K H gd lv) fs s:=by
 refine seg_execs_cons (seg_wrap (Wp.to h λf s' q=>?_))
 refine q0_2 q λz1 z2=>?_;clear q;subst z1;revert z2;intro q
 exact q
theorem seg_If {test:Expr} {t e:List Stmt} (h:Wp w (A.over c fs) (isTrue test env (eval test env)) (λb s'=>Seg (model Pg w) A R Y n s₀ c ((execs (if b=true then t else e) env).wrap K H gd lv) fs s') s) :
  Seg (model Pg w) A R Y n s₀ c ((exec (.If test t e pos) env).wrap K H gd lv) fs s:=by
 show Seg _ A R Y n s₀ c (.at pos λ_=>(isTrue test env (eval test env) >>= λb=>if b=true then execs t env else execs e env).wrap K H gd lv) fs s
 refine seg_at ?_
 rw [Sem.bind_eq_wrap',Sem.wrap_wrap]
 refine seg_wrap (Wp.to h λb s' q=>?_)
 cases b<;>exact q
end
end
section
open Sem (wp)
noncomputable def rdU:Nat->Bool->List Nat->List (Nat×List Nat)
 | _,_,[]=>[]
 | p,true,c::r=>(p,[92,c])::rdU (p+1) false r
 | p,false,c::r=>if c=92 then rdU (p+1) true r else (p,[c])::rdU (p+1) false r
noncomputable def flU:Bool->List Nat->Bool
 | e,[]=>e
 | true,_::r=>flU false r
 | false,c::r=>if c=92 then flU true r else flU false r
noncomputable def IsUn (u:Nat×List Nat) (v:Value) (g:Heap):Prop:=IsT [IsI (u.1:Int),IsS ⟨u.2.toArray⟩] v g
noncomputable def GY (XG:List Addr) (U:List (Nat×List Nat)):Protocol:=λk s₀ v s' kap=>Ev XG s₀ s'/\(∃ u,U[U.length-1-k]?=some u/\∀ g:Heap,(∀ a o,a∉XG->s₀.heap.get? a=none->s'.heap.get? a=some o->g.get? a=some o)->IsUn u v g)/\(∀ a∈XG,∃ o,s'.heap.get? a=some o)/\
 ∀ s'',(∀ a∈XG,∀ o,s'.heap.get? a=some o->s''.heap.get? a=some o)->kap (.send .none) s''
noncomputable def GR (XG:List Addr):GenEnd:=λn s₀ r s1=>r=.ok (.ret .none)/\(n=0/\Ev XG s₀ s1)
noncomputable abbrev gnFd (pm cd:Value):FuncData:=fdOf (top 2) (sO "_iter_escaped_chars") .none pm cd
noncomputable abbrev gnEnv (pm cd:Value) (L:Addr):Env:=callEnv (gnFd pm cd) L 28
noncomputable def gnFor:Stmt:=nth (fBody (top 2)) 2
noncomputable def gnBody:List Stmt:=match gnFor with | .For _ _ b _ _=>b | _=>[]
noncomputable def gnTgt:Expr:=match gnFor with | .For t _ _ _ _=>t | _=>.Constant .none 0 default
noncomputable def gnIter:Expr:=match gnFor with | .For _ i _ _ _=>i | _=>.Constant .none 0 default
noncomputable def e0:Heap:=hideAll default []
theorem e0_le (g:Heap):Le e0 g:=⟨λb o e=>by
 have:=of_hideAll _ e
 cases this⟩
theorem Td.eqs {w:World} {A:Around} {b h:Heap} {env:Env} {l r:Expr} {p:Pos} {x y:Str} (hx:Yd w A b h env l (IsS x)) (hy:Yd w A b h env r (IsS y)) (hm:autoParam (behindInMarks .Eq r=false) auR):Td w A b h env (.Compare l [.Eq] [r] p) (x == y):=
 Td.cmp hx hy (λu v s _ _ hu hv=>by refine q1_1 hu λt z1=>?_;clear hu;subst z1;refine q1_1 hv λt' z1=>?_;clear hv;subst z1;exact eq_str ⟨Kp.refl s,rfl⟩) hm
theorem asg_bool {w:World} {A:Around} {s:Shared} {env:Env} {own:List (Str×Addr)} {m cm:SoV} {x:Str} {px p0 p:Pos} {k:Nat} {c:Bool} (F:Fs s.heap env own m cm) (hk:env.scope.kind=.function) (hl:env.kindOf x=some .local) (hs:swapsWith (.Constant (.bool c) k p0) (some (.Name x px)) p.line env=pure false) :
  Wp w A (exec (.Assign [.Name x px] (.Constant (.bool c) k p0) p) env) (λfl s'=>fl=.next/\Ev (ft env own) s s'/\Fs s'.heap env own (up m x (.bool c)) cm) s:=by
 refine wpAny_Assign_Name (Wp.to (Yd.bool (w:=w) (A:=A) (b:=s.heap) (h:=s.heap) (env:=env) s (Le.refl _) (Le.refl _)) λv s5 q5=>?_) hs
 have e:v=.bool c:=q5.2 _ q5.1.le (Nw.self _ _)
 subst e
 exact (sto_loc (F.le q5.1.le) hk hl).to λ_ s6 q6=>⟨rfl,q5.1.ev.trans q6.1,q6.2⟩
section
variable {w:World} {A:Around} {pm cd:Value} {L e it:Addr} {x:Str} {t:Tok} {U:List (Nat×List Nat)} {F:Frame}
theorem gen_turns (hA:(A.over (.forLoop gnTgt (.ref e) gnBody [] (gnEnv pm cd L)) [F]).handled=none) (hei:e≠it) (heL:e≠L) (hiL:it≠L) (hfs:splitAtGen [F]=none) (hfg:[F].any Frame.guarded=false)
  (hEnd:∀ s₀ s m cm,Fs s.heap (gnEnv pm cd L) [] m cm->m (sO "escape")=some (.bool false)->Ev [L,e,it] s₀ s->Seg (model Pg w) A (GR [L,e,it]) (GY [L,e,it] U) 0 s₀ (.block [] (gnEnv pm cd L)) ((model Pg w).den (.block [] (gnEnv pm cd L))) [F] s) :
  ∀ (j i:Nat) (esc:Bool) (s₀ s:Shared) (n:Nat) (m cm:SoV) (pre:List (Nat×List Nat)),i+j=x.cps.size->Fs s.heap (gnEnv pm cd L) [] m cm->m (sO "escape")=some (.bool esc)->(∃ old,IsEnum s.heap e it i old)->s.heap.IsStrIter it "str_ascii_iterator" x t i->
   Ev [L,e,it] s₀ s->U=pre++rdU i esc (x.cps.toList.drop i)->n=(rdU i esc (x.cps.toList.drop i)).length->flU esc (x.cps.toList.drop i)=false->
   Seg (model Pg w) A (GR [L,e,it]) (GY [L,e,it] U) n s₀ (.forLoop gnTgt (.ref e) gnBody [] (gnEnv pm cd L)) ((model Pg w).den (.forLoop gnTgt (.ref e) gnBody [] (gnEnv pm cd L))) [F] s:=by
 intro j
 have W:=WalksT.enumerateD (Draws.strAscii (prog:=Pg) (w:=w) (A:=(A.over (.forLoop gnTgt (.ref e) gnBody [] (gnEnv pm cd L)) [F]).in1) hA it x t) e hei (by simpa using hei) (by simp)
 have wrX:∀ a∈[e,it],a∈[L,e,it]:=λa ha=>zT ha
 induction j with
 | zero=>
  intro i esc s₀ s n m cm pre hij F0 hm hen hst hE hU hn hfl
  have hi:i=x.cps.size:=by omega
  have hd:x.cps.toList.drop i=[]:=by rw [List.drop_eq_nil_iff];simp [hi]
  rw [hd] at hU hn hfl
  have he:esc=false:=by simpa [flU] using hfl
  subst he
  have hn0:n=0:=by rw [hn];rfl
  subst hn0
  subst hi
  refine seg_forLoop (W.done s _ _ ⟨hen,hst⟩ λh' tk hk=>?_)
  refine hEnd s₀ _ m cm (F0.get λb hb o q=>hk b o (λhm=>?_) q) hm ?_
  ·have hb':b=L:=zS hb
   replace hm:=mem2 hm
   rcases hm with h | h
   ·exact heL (h▸hb')
   ·exact hiL (h▸hb')
  ·exact hE.trans ⟨e2_1 _ _ rfl,λb o hb q=>hk b o (λhm=>hb (wrX b hm)) q⟩
 | succ j ih=>
  intro i esc s₀ s n m cm pre hij F0 hm hen hst hE hU hn hfl
  have hi:i<x.cps.size:=by omega
  have hd:x.cps.toList.drop i=x.cps[i]::x.cps.toList.drop (i+1):=by
   rw [List.drop_eq_getElem_cons (by simpa using hi)];simp
  rw [hd] at hU hn hfl
  refine seg_forLoop (W.item i s _ _ hi ⟨hen,hst⟩ λT vals h1 tk1 hP hTs hT hM hk1=>?_)
  refine byC0 λzn=>?_;refine q2_2 hP λt' x' z1 z3=>?_;clear hP;refine q2_2 z1 λc u hc z2=>?_;clear z1;subst z2;subst z3;refine zn ?_;clear zn
  have hcx:x.cps[i]=c:=by rw [Array.getElem?_eq_getElem hi] at hc;exact Option.some.inj hc
  rw [hcx] at hU hn hfl
  have Tap:=W.apart i T h1 hM
  refine W.go _ _ _ i T _ _ _ hM λh2 hst2 hk2=>?_
  have kb:∀ {b:Addr} {o:Obj},b∉[e,it]->s.heap.get? b=some o->h2.get? b=some o:=λhb q=>hk2 _ _ hb (hk1 _ _ hb q)
  have F2:Fs h2 (gnEnv pm cd L) [] m cm:=F0.get λb hb o q=>kb (λhm=>by
   have hb':b=L:=zS hb
   replace hm:=mem2 hm
   rcases hm with h | h
   ·exact heL (h▸hb')
   ·exact hiL (h▸hb')) q
  have hT2:h2.IsTuple T #[.int (i:Int) t',.str ⟨#[c]⟩ u]:=hT.at λo q=>hk2 _ _ Tap q
  refine (asg_tup2 (s:={ s with heap:=h2,toks:=tk1 }) hA F2 rfl rfl rfl hT2).to λ_ s3 q3=>?_
  refine q0_2 q3 λE23 F3=>?_;clear q3
  have E02:Ev [L,e,it] s₀ { s with heap:=h2,toks:=tk1 }:=hE.trans ⟨e2_1 _ _ rfl,λb o hb q=>kb (λhm=>hb (wrX b hm)) q⟩
  have E03:Ev [L,e,it] s₀ s3:=E02.trans (E23.mono λa ha=>by
   have hb':a=L:=zS ha
   rw [hb'];exact zH ..)
  have en3:∃ old,IsEnum s3.heap e it ((i+1:Nat):Int) old:=q1_1 hst2.1 λold q=>⟨old,E23.get _ _ (λz=>heL (zS z)) q⟩
  have st3:s3.heap.IsStrIter it "str_ascii_iterator" x t (i+1):=q1_2 hst2.2 λo q r=>(e1_2 o (E23.get _ _ (λz=>hiL (zS z)) q) r)
  have Ve:=F3.var (x:=sO "escape") (v:=.bool esc) rfl rfl (by simp +decide [up];exact hm)
  have Vp:=F3.var (x:=sO "pos") (v:=.int (i:Int) t') rfl rfl (by simp +decide [up])
  have Vc:=F3.var (x:=sO "ch") (v:=.str ⟨#[c]⟩ u) rfl rfl (by simp [up])
  have kpX:∀ {s' s'':Shared},Kp s' s''->Ev [L,e,it] s' s'':=λk=>k.ev
  have out:∀ {K:Flow->Sem Fin} {H:Value->Sem Fin} {rest:List Stmt} {ex:Expr} {p1 p2:Pos} {un:Nat×List Nat} {k:Nat} (s4:Shared),Kp s3 s4->n=k+1->U[U.length-1-k]?=some un->Yd w (A.over (.forLoop gnTgt (.ref e) gnBody [] (gnEnv pm cd L)) [F]) e0 s3.heap (gnEnv pm cd L) ex (IsUn un)->
    (∀ s'',Fs s''.heap (gnEnv pm cd L) [] (up (up m (sO "pos") (.int (i:Int) t')) (sO "ch") (.str ⟨#[c]⟩ u)) cm->(∃ old,IsEnum s''.heap e it ((i+1:Nat):Int) old)->s''.heap.IsStrIter it "str_ascii_iterator" x t (i+1)->
     Seg (model Pg w) A (GR [L,e,it]) (GY [L,e,it] U) k s'' (.forLoop gnTgt (.ref e) gnBody [] (gnEnv pm cd L)) ((execs rest (gnEnv pm cd L)).wrap K H id id) [F] s'')->
    Seg (model Pg w) A (GR [L,e,it]) (GY [L,e,it] U) n s₀ (.forLoop gnTgt (.ref e) gnBody [] (gnEnv pm cd L)) ((execs (.Expr (.Yield (some ex) p1) p2::rest) (gnEnv pm cd L)).wrap K H id id) [F] s4:=by
   intro K H rest ex p1 p2 un k s4 k4 hnk hun hy hk
   rw [hnk]
   refine seg_execs_cons (seg_Expr_Yield hfs rfl hfg ((hy s4 (e0_le _) k4.le).to λv s5 q5=>λkap hkap=>?_))
   have k5:=k4.trans q5.1
   have lv:∀ a∈[L,e,it],∃ o,s3.heap.get? a=some o:=λa ha=>by
    replace ha:=mem3 ha
    (rcases ha with z0 | z0 | z0)<;>(replace z0:=Eq.symm z0;subst z0)
    ·exact F3.live _ (zH ..)
    ·refine q1_1 en3 λold q=>?_;clear en3;exact⟨_,q⟩
    ·refine q1_2 st3 λo q _=>?_;clear st3;exact⟨o,q⟩
   refine⟨E03.trans (kpX k5),e1_2 un hun (λg hg=>?_),λa ha=>q1_1 (lv a ha) λo q=>⟨o,k5.le.get _ _ q⟩,λs'' hs''=>hkap .none s'' (hk s'' ?_ ?_ ?_)⟩
   ·refine q5.2 g (e0_le _) ⟨λb o e1 e2=>?_⟩
    have hbX:b∉[L,e,it]:=λhm=>by
     refine q1_1 (lv b hm) λo' q'=>?_
     rw [k4.le.get _ _ q'] at e1;cases e1
    refine hg b o hbX ?_ e2
    cases q:s₀.heap.get? b with
    | none=>rfl
    | some o'=>rw [k4.le.get _ _ (E03.get b o' hbX q)] at e1;cases e1
   ·exact F3.get λb hb o q=>hs'' b (by have hb':b=L:=zS hb;rw [hb'];exact zH ..) o (k5.le.get _ _ q)
   ·refine q1_1 en3 λold q=>?_;clear en3;exact⟨old,hs'' e (by simp) _ (k5.le.get _ _ q)⟩
   ·refine q1_2 st3 λo q r=>?_;clear st3;exact e1_2 o (hs'' it (by simp) _ (k5.le.get _ _ q)) r
  have more:∀ {esc':Bool} {s0' s':Shared} {k:Nat} {m' cm':SoV} {pre':List (Nat×List Nat)},Fs s'.heap (gnEnv pm cd L) [] m' cm'->m' (sO "escape")=some (.bool esc')->(∃ old,IsEnum s'.heap e it ((i+1:Nat):Int) old)->s'.heap.IsStrIter it "str_ascii_iterator" x t (i+1)->Ev [L,e,it] s0' s'->
    U=pre'++rdU (i+1) esc' (x.cps.toList.drop (i+1))->k=(rdU (i+1) esc' (x.cps.toList.drop (i+1))).length->flU esc' (x.cps.toList.drop (i+1))=false->
    Seg (model Pg w) A (GR [L,e,it]) (GY [L,e,it] U) k s0' (.forLoop gnTgt (.ref e) gnBody [] (gnEnv pm cd L)) (.pure (.again (.forLoop gnTgt (.ref e) gnBody [] (gnEnv pm cd L)))) [F] s':=λf1 f2 f3 f4 f5 f6 f7 f8=>seg_again rfl (ih (i+1) _ _ _ _ _ _ _ (by omega) f1 f2 f3 f4 f5 f6 f7 f8)
  have idx:∀ {un:Nat×List Nat} {r:List (Nat×List Nat)},U=pre++un::r->U[U.length-1-r.length]?=some un:=λ{un r} h=>by
   rw [h]
   simp only [List.length_append,List.length_cons]
   rw [show pre.length+(r.length+1)-1-r.length=pre.length by omega]
   simp
  have pres:∀ {un:Nat×List Nat} {r:List (Nat×List Nat)},U=pre++un::r->U=(pre++[un])++r:=λh=>by rw [h];simp
  show Seg _ _ _ _ n s₀ _ ((execs gnBody (gnEnv pm cd L)).wrap _ _ id id) [F] s3
  refine seg_execs_cons (seg_If (isTrue_plain (wpAny_Name (Ve w _ s3 _ _ (Le.refl _) (wpAny_truthy_bool ?_)) (by decide))))
  cases esc with
  | true=>
   simp only [if_true]
   have hU':U=pre++(i,[92,c])::rdU (i+1) false (x.cps.toList.drop (i+1)):=hU
   refine out (un:=(i,[92,c])) s3 (Kp.refl _) (by rw [hn];rfl) (idx hU') (Yd.tup (Yds.two (Yd.namI Vp) ((Yd.adds (Yd.str (x:=⟨#[92]⟩)) (Yd.nam Vc λ_ _=>⟨u,rfl⟩) (by rw [sizeLine_eq];show 2<=16777216;decide)).mono λv g _ h=>h))) λs'' F'' en'' st''=>?_
   refine seg_exec ((asg_bool F'' rfl rfl rfl).to λf s7 q=>?_)
   refine byC0 λzn=>?_;refine q0_2 q λz1 z2=>?_;clear q;subst z1;refine q0_2 z2 λE56 F6=>?_;clear z2;refine zn ?_;clear zn
   have E7:Ev [L,e,it] s'' s7:=E56.mono λa ha=>by
    have hb':a=L:=zS ha
    rw [hb'];exact zH ..
   refine⟨rfl,more F6 (by simp [up]) ?_ ?_ E7 (pres hU') rfl hfl⟩
   ·refine q1_1 en'' λold q=>?_;clear en'';exact⟨old,E56.get _ _ (λz=>heL (zS z)) q⟩
   ·refine q1_2 st'' λo q r=>?_;clear st'';exact e1_2 o (E56.get _ _ (λz=>hiL (zS z)) q) r
  | false=>
   simp only [Bool.false_eq_true,if_false]
   refine seg_execs_cons (seg_If ((Td.eqs (x:=⟨#[c]⟩) (y:=⟨#[92]⟩) (b:=e0) (h:=s3.heap) (Yd.nam Vc λ_ _=>⟨u,rfl⟩) Yd.str (by rfl) s3 (e0_le _) (Le.refl _)).to λr s4 q=>?_))
   refine byC0 λzn=>?_;refine q0_2 q λz1 k4=>?_;clear q;subst z1;refine zn ?_;clear zn
   by_cases hc92:c=92
   ·have e1:((⟨#[c]⟩:Str) == ⟨#[92]⟩)=true:=by rw [hc92];exact beq_self_eq_true _
    rw [e1]
    simp only [if_true]
    have hr:rdU i false (c::x.cps.toList.drop (i+1))=rdU (i+1) true (x.cps.toList.drop (i+1)):=by rw [rdU,if_pos hc92]
    rw [hr] at hU hn
    have hfl':flU true (x.cps.toList.drop (i+1))=false:=by rw [flU,if_pos hc92] at hfl;exact hfl
    refine seg_exec ((asg_bool (F3.le k4.le) rfl rfl rfl).to λf s7 q=>?_)
    refine byC0 λzn=>?_;refine q0_2 q λz1 z2=>?_;clear q;subst z1;refine q0_2 z2 λE56 F6=>?_;clear z2;refine zn ?_;clear zn
    have E7:Ev [L,e,it] s3 s7:=k4.ev.trans (E56.mono λa ha=>by
     have hb':a=L:=zS ha
     rw [hb'];exact zH ..)
    refine⟨rfl,more F6 (by simp [up]) ?_ ?_ (E03.trans E7) hU hn hfl'⟩
    ·refine q1_1 en3 λold q=>?_;clear en3;exact⟨old,E56.get _ _ (λz=>heL (zS z)) (k4.le.get _ _ q)⟩
    ·refine q1_2 st3 λo q r=>?_;clear st3;exact e1_2 o (E56.get _ _ (λz=>hiL (zS z)) (k4.le.get _ _ q)) r
   ·have e1:((⟨#[c]⟩:Str) == ⟨#[92]⟩)=false:=by
     rw [beq_eq_false_iff_ne]
     intro h
     have:=congrArg Str.cps h
     simp at this
     exact hc92 this
    rw [e1]
    simp only [Bool.false_eq_true,if_false]
    have hr:rdU i false (c::x.cps.toList.drop (i+1))=(i,[c])::rdU (i+1) false (x.cps.toList.drop (i+1)):=by rw [rdU,if_neg hc92]
    rw [hr] at hU hn
    have hfl':flU false (x.cps.toList.drop (i+1))=false:=by rw [flU,if_neg hc92] at hfl;exact hfl
    refine out (un:=(i,[c])) s4 k4 (by rw [hn];rfl) (idx hU) (Yd.tup (Yds.two (Yd.namI Vp) (Yd.nam Vc λ_ _=>⟨u,rfl⟩))) λs'' F'' en'' st''=>?_
    exact more F'' (by simp +decide [up];exact hm) en'' st'' (Ev.refl _ _) (pres hU) rfl hfl'
end
end
section
open Sem (wp)
section
variable {w:World} {A:Around} {s:Shared} {env:Env} {own:List (Str×Addr)} {m cm:SoV}
theorem asg_flat {x:Str} {px p:Pos} {e:Expr} {v:Value} (F:Fs s.heap env own m cm) (hk:env.scope.kind=.function) (hl:env.kindOf x=some .local)
  (he:∀ (Q:Value->Shared->Prop) (E:Value->Shared->Prop),(∀ tk,Q v { s with toks:=tk })->wpAny (model Pg w) A (eval e env) Q E s) (hs:swapsWith e (some (.Name x px)) p.line env=pure false) :
  Wp w A (exec (.Assign [.Name x px] e p) env) (λfl s'=>fl=.next/\Ev (ft env own) s s'/\Fs s'.heap env own (up m x v) cm/\s'.heap.objs.size=s.heap.objs.size) s:=by
 refine wpAny_Assign_Name (he _ _ λtk=>?_) hs
 refine wpAny_storeName_local hl F.ns (λh' hn' hs'=>⟨rfl,⟨e2_1 _ _ rfl,λb o nb e=>hs'.extBut b o (λq=>nb (q▸zH ..)) e⟩,⟨hn',λn c hc=>?_,F.look,F.apart,F.off⟩,hs'.1⟩) (by rw [hk];rfl)
 exact (F.cell n c hc).sameBut hs' (F.off n c hc)
end
section
variable {w:World} {A:Around} {pm cd:Value} {L:Addr} {x:Str} {t:Tok} {U:List (Nat×List Nat)} {b₀:Heap} {mg mb mN:SoV} {K:Frag}
theorem gen_fresh (hA:A.handled=none) (S:St w mg mb mN K b₀) (C:Con mg mb mN K) {s:Shared} {m cm:SoV} (hb:Le b₀ s.heap) (F:Fs s.heap (gnEnv pm cd L) [] m cm) (hm:m (sO "addr")=some (.str x t)) (hx:x.cps.all (·<128)=true)
  (hU:U=rdU 0 false x.cps.toList) (hfl:flU false x.cps.toList=false) (hL0:b₀.get? L=none) :
  Seg (model Pg w) A (GR [L,s.heap.objs.size+1,s.heap.objs.size]) (GY [L,s.heap.objs.size+1,s.heap.objs.size] U) U.length s (.func (fBody (top 2)) (gnEnv pm cd L)) ((model Pg w).den (.func (fBody (top 2)) (gnEnv pm cd L))) [] s:=by
 generalize hz:s.heap.objs.size=z
 refine seg_func ?_
 have hoA:(A.over (.func (fBody (top 2)) (gnEnv pm cd L)) []).handled=none:=hA
 have hLz:L≠z/\L≠z+1:=by
  refine q1_1 (F.live L (zH ..)) λo q=>?_
  have:=Heap.lt_size q
  rw [hz] at this
  exact⟨Nat.ne_of_lt this,Nat.ne_of_lt (Nat.lt_succ_of_lt this)⟩
 refine seg_exec ((asg_flat (v:=.int 0 s.toks) F rfl rfl (λQ E h=>wpAny_Constant_int (h _)) rfl).to λf s1 q=>?_)
 refine byC0 λzn=>?_;refine q0_2 q λz1 z2=>?_;clear q;subst z1;refine q0_3 z2 λE1 F1 z1=>?_;clear z2;refine zn ?_;clear zn
 refine⟨rfl,seg_exec ((asg_flat (v:=.bool false) F1 rfl rfl (λQ E h=>wpAny_Constant_bool (h s1.toks)) rfl).to λf s2 q=>?_)⟩
 refine byC0 λzn=>?_;refine q0_2 q λz1 z2=>?_;clear q;subst z1;refine q0_3 z2 λE2 F2 z3=>?_;clear z2;revert z3;intro z2;refine zn ?_;clear zn
 refine⟨rfl,?_⟩
 have E02:Ev (ft (gnEnv pm cd L) []) s s2:=E1.trans E2
 have hb2:Le b₀ s2.heap:=E02.le hb λa ha=>by rw [zS ha];exact hL0
 have hz2:s2.heap.objs.size=z:=by rw [z2,z1,hz]
 have bE:=C.blt (sO "enumerate") (by simp)
 have VE:=F2.blt (S.le hb2).g bE.1 (S.le hb2).b (bE.2.trans (by decide +kernel:bootBuiltins (sO "enumerate")=some (.type "enumerate"))) rfl rfl rfl rfl
 have Va:=F2.var (x:=sO "addr") (v:=.str x t) rfl rfl (by simp +decide [up];exact hm)
 show Seg _ _ _ _ _ s _ ((execs (gnFor::(fBody (top 2)).drop 3) (gnEnv pm cd L)).wrap _ _ id id) [] s2
 refine seg_execs_cons (seg_For (target:=gnTgt) (iter:=gnIter) (body:=gnBody) ?_)
 refine PyProof.Rows.Call_Name rfl (wpAny_Name (VE w _ s2 _ _ (Le.refl _) (PyProof.Rows.callWith_type1 (e:=Expr.Name (sO "addr") _) (rest:=[]) ?_)))
 refine spliced_cons (wpAny_Name (Va w _ s2 _ _ (Le.refl _) (spliced_nil ?_)) (by decide))
 refine call_enumerate_str λh' he hit hsz hk=>?_
 rw [hz2] at he hit ⊢
 rw [show strIterType x="str_ascii_iterator" from by unfold strIterType;rw [if_pos hx]] at hit
 refine wpAny_pyIter_enum he λp=>?_
 have k3:Kp s2 { s2 with heap:=h' }:=Kp.mk' ⟨hk⟩
 have E03:Ev [L,z+1,z] s { s2 with heap:=h' }:=(E02.mono λa ha=>by rw [zS ha];exact zH ..).trans k3.ev
 refine gen_turns (x:=x) (t:=t) (U:=U) (e:=z+1) (it:=z) ?hov (Nat.succ_ne_self z) hLz.2.symm hLz.1.symm rfl rfl (λs₀ s4 m4 cm4 F4 hm4 E4=>?_) x.cps.size 0 false s _ _ _ cm [] (by omega) (F2.le k3.le) (by simp [up]) ⟨_,he⟩ hit E03 (by simpa using hU) (by rw [List.drop_zero,← hU]) (by simpa using hfl)
 case hov=>exact hA
 refine seg_after ?_
 refine seg_execs_cons (seg_If (isTrue_plain (wpAny_Name ((F4.var (x:=sO "escape") rfl rfl hm4) w _ s4 _ _ (Le.refl _) (wpAny_truthy_bool ?_)) (by decide))))
 simp only [Bool.false_eq_true,if_false]
 show Seg _ _ _ _ 0 s₀ _ (leafOf (.ok (.ret .none))) [] s4
 exact seg_end _ ⟨rfl,rfl,E4⟩
end
end
section
open Sem (wp)
noncomputable def GoesAt (w:World) (A:Around) (U:List (Nat×List Nat)) (b₀:Heap) (gs:GenState) (n:Nat) (keep:List Addr) (s:Shared):Prop:=
 ∀ s'',Le b₀ s''.heap->(∀ a∈keep,∀ o,s.heap.get? a=some o->s''.heap.get? a=some o)->∃ XG,(∀ a∈XG,a∈keep\/s''.heap.get? a=none)/\gs.Goes (model Pg w) A.in1 (GR XG) (GY XG U) n (.send .none) s''
theorem push_set {α:Type} (a:Array α) (x y:α):(a.push x).setIfInBounds a.size y=a.push y:=by
 apply Array.ext
 ·simp
 ·intro i h1 h2
  simp only [Array.size_setIfInBounds,Array.size_push] at h1
  rw [Array.getElem_setIfInBounds,Array.getElem_push,Array.getElem_push]
  by_cases h:a.size=i
  ·subst h;simp
  ·have:i<a.size:=by omega
   simp [h,this]
  ·simpa using h1
theorem gen_next {w:World} {A:Around} {U:List (Nat×List Nat)} {b₀:Heap} {gs:GenState} {n a:Nat} {keep:List Addr} {s₀ s:Shared} {h:Heap} {tk:Nat} (hA:A.handled=none) (hroom:A.depth<recursionLimit) (hl:s.heap.NoLimit) (hg:s.heap.IsGen a s₀.gens.size) (hs:s={ s₀ with heap:=h,toks:=tk,gens:=s₀.gens.push gs }) (hb:Le b₀ s.heap) (hn:n<=U.length)
  (hG:GoesAt w A U b₀ gs n keep s) :
  Wp w A (pyNext (.ref a)) (λr s'=>match n with
   | 0=>r=none/\(∃ h' tk',s'={ s₀ with heap:=h',toks:=tk',gens:=s₀.gens.push .finished })/\∃ XG:List Addr,(∀ a∈XG,a∈keep\/s.heap.get? a=none)/\∀ b o,b∉XG->s.heap.get? b=some o->s'.heap.get? b=some o
   | k+1=>∃ (v:Value) (gs':GenState) (XG:List Addr) (u:Nat×List Nat),r=some v/\(∃ h' tk',s'={ s₀ with heap:=h',toks:=tk',gens:=s₀.gens.push gs' })/\(∀ a∈XG,a∈keep\/s.heap.get? a=none)/\(∀ b o,b∉XG->s.heap.get? b=some o->s'.heap.get? b=some o)/\
     U[U.length-1-k]?=some u/\(∀ g:Heap,(∀ b o,b∉XG->s.heap.get? b=none->s'.heap.get? b=some o->g.get? b=some o)->IsUn u v g)/\(∀ a∈XG,∃ o,s'.heap.get? a=some o)/\GoesAt w A U b₀ gs' k XG s') s:=by
 have hgs:s.gens[s₀.gens.size]?=some gs:=by rw [hs];simp
 have hrun:s.setGen s₀.gens.size .running={ s₀ with heap:=h,toks:=tk,gens:=s₀.gens.push .running }:=by
  rw [hs];unfold Shared.setGen;simp only [push_set]
 have hrunh:(s.setGen s₀.gens.size .running).heap=s.heap:=rfl
 refine q1_2 (hG (s.setGen s₀.gens.size .running) hb λa ha o e=>e) λXG hXG hgo=>?_
 refine wpAny_pyNext_gen (n:=n) (gs:=gs) (g:=s₀.gens.size) (P:=λn s₀ s1=>n=0/\Ev XG s₀ s1) (Y:=GY XG U) hA hl hroom hg hgs hgo (λv s1 gs' hY=>?_) λs1 hP h' hk=>?_
 ·refine byC0 λzn=>?_;refine q0_4 hY λE z1 lv hk=>?_;clear hY;refine q1_2 z1 λu hu hun=>?_;clear z1;refine zn ?_;clear zn
  cases n with
  | zero=>exact (hk s1 λa _ o e=>e).elim
  | succ k=>
   refine q2_1 (E.same) λh₁ tk1 e1=>?_
   refine e4_8 v gs' XG u rfl (e2_1 h₁ tk1 ?_) hXG (λb o hb e=>E.get b o hb e) hu (λg hg'=>hun g λb o hb e e'=>hg' b o hb e e') lv (λs'' _ hs''=>e1_2 XG (λa ha=>.inl ha) (hk s'' λa ha o e=>hs'' a ha o e))
   rw [e1,hrun]
   unfold Shared.setGen
   simp only [push_set]
 ·refine byC0 λzn=>?_
  refine q0_2 hP λhn0 E=>?_;clear hP
  subst hn0
  refine q2_1 (E.same) λh₁ tk1 e1=>?_
  refine zn ?_;clear zn
  refine e0_3 rfl (e2_1 h' tk1 ?_) (e1_2 XG hXG (λb o hb e=>hk b o (E.get b o hb e)))
  rw [e1,hrun]
  unfold Shared.setGen
  simp only [push_set]
end
section
open Sem (wp)
theorem IsUn.le {p:Nat×List Nat} {v:Value} {g g':Heap} (l:Le g g') (x:IsUn p v g):IsUn p v g':=by
 refine q2_2 x λT vs z1 z2=>?_;clear x;subst z1;refine q0_2 z2 λhT hp=>?_;clear z2
 refine e2_3 T vs rfl (hT.at λo e=>l.get _ _ e) ?_
 refine v2 hp λy1 y2 ey a a'=>?_;subst ey
 exact .cons a (.cons a' .nil)
noncomputable def oldA (h:Heap):List Addr:=(List.range h.objs.size).filter λa=>(h.get? a).isSome
theorem mem_oldA {h:Heap} {a:Addr}:a∈oldA h ↔ ∃ o,h.get? a=some o:=by
 unfold oldA
 rw [List.mem_filter,List.mem_range,Option.isSome_iff_exists]
 exact⟨λh=>h.2,λ⟨o,e⟩=>e0_2 (Heap.lt_size e) (e1_1 o e)⟩
namespace Z3
noncomputable section
def zQ (w:World) (A:Around) (s₀ s:Shared) (b b₀:Heap) (X:List Addr) (env:Env) (own:List (Str×Addr)) (m cm mg mb mN:SoV) (K:Frag) (n:Nat) (x un tx fn:Str) (px pp pos tp ep cp fp xp:Pos) (sc:Scope) (str:Str) (t:Tok) (pm cd:Value):Prop:=∀ (ok:Ok n A) (S:St w mg mb mN K b₀) (C:Con mg mb mN K) (I:InF s₀ b X env own m cm s) (hb:Le b₀ b) (hk:env.scope.kind=.function) (hl:env.kindOf x=some .local) (Vf:Var s.heap env fn (.ref 28)) (F28:FnAt s.heap 28 (gnFd pm cd)) (Vt:Var s.heap env tx (.str str t)) (hx:str.cps.all (·<128)=true) (hfl:flU false str.cps.toList=false) (hsz:(rdU 0 false str.cps.toList).length<=1000) (hs:swapsWith (.ListComp (.Name un ep) [⟨.Name un tp,.Call (.Name fn fp) [.Name tx xp] [] cp,[],0⟩] sc pos) (some (.Name x px)) pp.line env=pure true) (hclos:closureFor sc env=pure []) (hkind:sc.kind=.function) (hnames:∀ x∈sc.names,x.2=.local->sc.names.lookup x.1=some .local) (hown:∀ n,ownCells n sc.names []=[]) (hun:∀ Cc,(compE sc Cc [] env).kindOf un=some .local) (hunk:∀ Cc,(compE sc Cc [] env).scope.kind=.function) (hd1:(fn == ("__debug__" : Str))=false) (hd2:(tx == ("__debug__" : Str))=false) (hd3:(un == ("__debug__" : Str))=false) (hst:starEach [.Name tx xp] env=(false,eval (.Name tx xp) env)::starEach [] env) (hfold:∀ x,foldedSetIterable (.Call (.Name fn fp) [.Name tx xp] [] cp) env x=pure x),Wp w A (exec (.Assign [.Name x px] (.ListComp (.Name un ep) [⟨.Name un tp,.Call (.Name fn fp) [.Name tx xp] [] cp,[],0⟩] sc pos) pp) env) (λfl s'=>fl=.next/\(∃ h' tk',s'={ s with heap:=h',toks:=tk',gens:=s.gens.push .finished })/\(∀ a o,a∉ft env own->s.heap.get? a=some o->s'.heap.get? a=some o)/\∃ v b',Le b b'/\InF s' b' X env own (up m x v) cm s'/\IsL (λu v g=>IsUn u v g) (rdU 0 false str.cps.toList) v b') s
abbrev zY:=(((((World×Around)×(Shared×Shared))×((Heap×Heap)×((List Addr)×Env)))×((((List (Str×Addr))×SoV)×(SoV×SoV))×((SoV×SoV)×(Frag×Nat))))×((((Str×Str)×(Str×Str))×((Pos×Pos)×(Pos×Pos)))×(((Pos×Pos)×(Pos×Pos))×((Scope×Str)×(Tok×(Value×Value))))))
def zR (p:zY):=zQ p.1.1.1.1.1 p.1.1.1.1.2 p.1.1.1.2.1 p.1.1.1.2.2 p.1.1.2.1.1 p.1.1.2.1.2 p.1.1.2.2.1 p.1.1.2.2.2 p.1.2.1.1.1 p.1.2.1.1.2 p.1.2.1.2.1 p.1.2.1.2.2 p.1.2.2.1.1 p.1.2.2.1.2 p.1.2.2.2.1 p.1.2.2.2.2 p.2.1.1.1.1 p.2.1.1.1.2 p.2.1.1.2.1 p.2.1.1.2.2 p.2.1.2.1.1 p.2.1.2.1.2 p.2.1.2.2.1 p.2.1.2.2.2 p.2.2.1.1.1 p.2.2.1.1.2 p.2.2.1.2.1 p.2.2.1.2.2 p.2.2.2.1.1 p.2.2.2.1.2 p.2.2.2.2.1 p.2.2.2.2.2.1 p.2.2.2.2.2.2
def zc:zY:=eps1 (neP (neP (neP (neP (neP neW neA) (neP neS neS)) neI) neI) neI) zR
def w:=zc.1.1.1.1.1
def A:=zc.1.1.1.1.2
def s₀:=zc.1.1.1.2.1
def s:=zc.1.1.1.2.2
def b:=zc.1.1.2.1.1
def b₀:=zc.1.1.2.1.2
def X:=zc.1.1.2.2.1
def env:=zc.1.1.2.2.2
def own:=zc.1.2.1.1.1
def m:=zc.1.2.1.1.2
def cm:=zc.1.2.1.2.1
def mg:=zc.1.2.1.2.2
def mb:=zc.1.2.2.1.1
def mN:=zc.1.2.2.1.2
def K:=zc.1.2.2.2.1
def n:=zc.1.2.2.2.2
def x:=zc.2.1.1.1.1
def un:=zc.2.1.1.1.2
def tx:=zc.2.1.1.2.1
def fn:=zc.2.1.1.2.2
def px:=zc.2.1.2.1.1
def pp:=zc.2.1.2.1.2
def pos:=zc.2.1.2.2.1
def tp:=zc.2.1.2.2.2
def ep:=zc.2.2.1.1.1
def cp:=zc.2.2.1.1.2
def fp:=zc.2.2.1.2.1
def xp:=zc.2.2.1.2.2
def sc:=zc.2.2.2.1.1
def str:=zc.2.2.2.1.2
def t:=zc.2.2.2.2.1
def pm:=zc.2.2.2.2.2.1
def cd:=zc.2.2.2.2.2.2
theorem zaux:zQ w A s₀ s b b₀ X env own m cm mg mb mN K n x un tx fn px pp pos tp ep cp fp xp sc str t pm cd:=by
 intro ok S C I hb hk hl Vf F28 Vt hx hfl hsz hs hclos hkind hnames hown hun hunk hd1 hd2 hd3 hst hfold
 generalize hU:rdU 0 false str.cps.toList=U at hsz ⊢
 rw [exec_Assign_Name_used _ _ _ _ hs]
 refine wpAny_bind (wpAny_standAt (wpAny_bind ?_))
 show wpAny _ A (do let _ ← comprehension (.ListComp (.Name un ep) [⟨.Name un tp,.Call (.Name fn fp) [.Name tx xp] [] cp,[],0⟩] sc pos) sc env _ (newList []) false (eval (.Call (.Name fn fp) [.Name tx xp] [] cp) env) (some (assign (.Name x px) env))) _ _ s
 refine wpAny_bind (wpAny_mono (Q:=λ_ s'=>(∃ h' tk',s'={ s with heap:=h',toks:=tk',gens:=s.gens.push .finished })/\(∀ a o,a∉ft env own->s.heap.get? a=some o->s'.heap.get? a=some o)/\∃ v b',Le b b'/\InF s' b' X env own (up m x v) cm s'/\IsL (λu v g=>IsUn u v g) U v b') (E:=Bot)
  (wpAny_comprehension_free (use:=some (assign (.Name x px) env)) rfl hfold hclos hkind hnames ?_) (λ_ s' q=>wpAny_pure (wpAny_pure ⟨rfl,q⟩)) λ_ _ e=>e)
 have hbs:=hb.trans I.le
 have SS:=S.le hbs
 refine eval_callF (Ps:=[IsV (.str str t)]) I.le Vf F28 (Yds.one (Yd.namV Vt hd2) hst) (λvs s1 k1 hv=>?_) hd1 hst
 have evs:vs=[.str str t]:=by
  refine v1 hv λy1 ey a=>?_;subst ey
  cases a;rfl
 subst evs
 clear hv
 refine q1_3 (F28.fn) λo28 ho28 hd28 _=>?_
 have hlim1:s1.heap.NoLimit:=(SS.le k1.le).lim
 refine wpAny_call (codeAny_call_generator ok.depth (k1.le.get _ _ ho28) hd28 rfl rfl rfl (F28.code.keeps k1.le.get) ?_)
 rw [show bindArgs (gnFd pm cd) ⟨[.str str t],[]⟩=pure [(sO "addr",.str str t)] from by kernel_rfl]
 refine wpAny_pure (wpAny_newFunctionEnv (λx hx hc=>?_) (λx hx=>?_) (λh₁ hns hsb=>⟨hlim1.fresh _ hsb,?_⟩) rfl)
 ·have hh:(gnFd pm cd).scope.names.all (λx=>!(x.2 == .cell))=true:=by kernel_rfl
  have:=List.all_eq_true.mp hh x hx
  rw [hc] at this;cases this
 ·rw [List.mem_singleton] at hx
  subst hx
  kernel_rfl
 have hk1:Le s1.heap h₁:=⟨λb o e=>hsb.extBut b o (Nat.ne_of_lt (Heap.lt_size e)) (Heap.get?_push_of_some _ e)⟩
 have Fg:Fs h₁ (gnEnv pm cd s1.heap.objs.size) [] (λx=>[(sO "addr",Value.str str t)].reverse.lookup x) (λ_=>none):=⟨hns,λ_ _ h=>(nomatch h),λ_ _ h=>(nomatch h),.nil,λ_ _ h=>(nomatch h)⟩
 have hLs:s.heap.get? s1.heap.objs.size=none:=k1.le.none (get_size_none _)
 refine q2_1 (k1.same) λhh1 tk1 es1=>?_
 generalize hLdef:s1.heap.objs.size=Lg at hns hsb Fg hLs
 dsimp only
 show Wp w A (pyIter (.ref h₁.objs.size)) _ _
 generalize hh2:h₁.push { cls:=.type "generator",data:=.fields #[.int s1.gens.size 0,.str (gnFd pm cd).name _,.str (gnFd pm cd).qualname _] }=h₂
 have hg1:s1.gens=s.gens:=by rw [es1]
 rw [hg1] at hh2
 have hgen2:h₂.IsGen h₁.objs.size s.gens.size:=by rw [← hh2];exact e3_4 _ _ _ (Heap.get?_push_size _ rfl) rfl rfl rfl
 have l2:Le h₁ h₂:=by rw [← hh2];exact Le.push _ _
 have ls2:Le s.heap h₂:=(k1.le.trans hk1).trans l2
 refine wpAny_pyIter_gen hgen2 ?_
 refine wpAny_newObj_type (newEnv_comp λCc h4 hC l4 hns4 ok4 hCs=>?_)
 dsimp only at hC l4 hns4 ok4 hCs ⊢
 rw [hown] at ok4 ⊢
 generalize hH:h₂.push { cls:=.type "list",dict:=none,data:=.seq ([]:List Value).toArray }=H at hC l4 hns4 ok4 hCs ⊢
 have hD2:h₂.get? h₂.objs.size=none:=get_size_none _
 have hHD:H.get? h₂.objs.size=some { cls:=.type "list",dict:=none,data:=.seq ([]:List Value).toArray }:=by rw [← hH];exact Heap.get?_push_size _ rfl
 have l2H:Le h₂ H:=by rw [← hH];exact Le.push _ _
 have l24:Le h₂ h4:=l2H.trans l4
 have hDC:h₂.objs.size≠Cc:=λe=>by rw [← e,hHD] at hC;cases hC
 have hC2:h₂.get? Cc=none:=l2H.none hC
 have hCsn:s.heap.get? Cc=none:=ls2.none hC2
 have hDs:s.heap.get? h₂.objs.size=none:=ls2.none hD2
 have hD4:h4.PlainList h₂.objs.size #[]:=⟨_,l4.get _ _ hHD⟩
 have hLg2:∃ o,h₂.get? Lg=some o:=by refine q1_1 (Fg.live Lg (zH ..)) λo q=>?_;exact⟨o,l2.get _ _ q⟩
 generalize h₂.objs.size=D at hD2 hHD hDC hDs hD4
 have hLgD:Lg≠D/\Lg≠Cc:=by
  refine q1_1 hLg2 λo q=>?_;clear hLg2
  exact⟨λz=>(by rw [z,hD2] at q;cases q),λz=>(by rw [z,hC2] at q;cases q)⟩
 have F4:Fs h4 (compE sc Cc [] env) [] (λ_=>none) (λ_=>none):=⟨hns4,λ_ _ h=>(nomatch h),λ_ _ h=>(nomatch h),.nil,λ_ _ h=>(nomatch h)⟩
 refine q2_1 (k1.same) λhh1 tk1 es1=>?_
 have hga:h₁.objs.size≠Lg:=λz=>by
  refine q1_1 (Fg.live Lg (zH ..)) λo q=>?_
  have:=Heap.lt_size q
  rw [← z] at this
  exact absurd this (Nat.lt_irrefl _)
 have b0h4:Le b₀ h4:=(hbs.trans ls2).trans l24
 have hL0:b₀.get? Lg=none:=hbs.none hLs
 have G0:GoesAt w A U b₀ (.fresh (.func (fBody (top 2)) (gnEnv pm cd Lg))) U.length [Lg] { s1 with heap:=h4 }:=λs'' hb'' hk=>by
  refine e1_3 [Lg,s''.heap.objs.size+1,s''.heap.objs.size] (λa ha=>?_) rfl (gen_fresh (A:=A.in1) ok.hd S C hb'' (Fg.get λa ha o q=>hk a (by have h':a=Lg:=zS ha;rw [h'];exact zH ..) o ((l2.trans l24).get _ _ q)) rfl hx hU.symm hfl hL0)
  replace ha:=mem3 ha
  (rcases ha with z0 | z0 | z0)<;>(first | (replace z0:=Eq.symm z0;subst z0) | subst z0 | skip)
  ·exact .inl (zH ..)
  ·exact .inr (none_ge (Nat.le_succ _))
  ·exact .inr (get_size_none _)
 have dropHide:∀ {g g':Heap},Le g g'->Le (hideAll g (oldA s.heap)) (hideAll g' (oldA s.heap)):=λ{g g'} l=>⟨λa o e=>hideAll_get _ (l.get _ _ (of_hideAll _ e)) λhm=>by rw [hideAll_none _ hm] at e;cases e⟩
 refine compStart_at (g:=⟨.Name un tp,.Call (.Name fn fp) [.Name tx xp] [] cp,[],0⟩) rfl rfl (λQ E hQ=>wpAny_pyIter_gen (hgen2.keeps l24.get) hQ) ?_
 refine compLoop_at (g:=⟨.Name un tp,.Call (.Name fn fp) [.Name tx xp] [] cp,[],0⟩) rfl rfl
  (λk s'=>∃ (i:Nat) (gs:GenState) (keep:List Addr) (b':Heap) (m' cm':SoV) (vs:List Value),k=U.length+1-i/\i<=U.length/\(∃ h tk,s'={ s with heap:=h,toks:=tk,gens:=s.gens.push gs })/\Le s.heap b'/\b'.IsGen h₁.objs.size s.gens.size/\Le b' s'.heap/\
   (∀ a,a∈keep\/a=D\/a=Cc->b'.get? a=none)/\Fs s'.heap (compE sc Cc [] env) [] m' cm'/\s'.heap.PlainList D vs.toArray/\Paired (λu v=>IsUn u v (hideAll b' (oldA s.heap))) (U.take i) vs/\(∀ a∈keep,a≠D/\a≠Cc)/\GoesAt w A U b₀ gs (U.length-i) keep s') ?turn (U.length+1) ?start (by intro g' h;cases h)
 case start=>
  refine e7_12 0 (.fresh (.func (fBody (top 2)) (gnEnv pm cd Lg))) [Lg] (hideAll h4 [Lg,D,Cc]) _ _ [] (by omega) (Nat.zero_le _) ?_ ⟨λa o e=>hideAll_get _ ((ls2.trans l24).get _ _ e) λhm=>?_⟩ ?_ ⟨λa o e=>of_hideAll _ e⟩ (λa ha=>hideAll_none _ ?_) F4 (by simpa using hD4) (by simpa using Paired.nil) (λa ha=>?_) G0
  ·rw [es1];exact e2_1 _ _ rfl
  ·replace hm:=mem3 hm
   (rcases hm with z0 | z0 | z0)<;>(replace z0:=Eq.symm z0;subst z0)
   ·rw [hLs] at e;cases e
   ·rw [hDs] at e;cases e
   ·rw [hCsn] at e;cases e
  ·refine q3_2 hgen2 λo nm qn ho r=>?_;clear hgen2
   refine e3_2 o nm qn (hideAll_get _ (l24.get _ _ ho) λhm=>?_) r
   replace hm:=mem3 hm
   rcases hm with h | h | h
   ·exact hga h
   ·rw [h,hD2] at ho;cases ho
   ·rw [h,hC2] at ho;cases ho
  ·rcases ha with h | h | h
   ·rw [zS h];simp
   ·simp [h]
   ·simp [h]
  ·have h':a=Lg:=zS ha
   rw [h'];exact hLgD
 case turn=>
  (intro k s' zr;refine byC0 λzn=>?_;refine q6_1 zr λi gs keep b' m' cm' z1=>?_;clear zr;refine q1_2 z1 λvs z2 z3=>?_;clear z1;subst z2;refine q0_9 z3 λhi z4 lsb hgb lb off F' hD' z5=>?_;clear z3;refine q2_1 z4 λh tk es=>?_;clear z4;refine q0_3 z5 λhp hkd hG=>?_;clear z5;refine zn ?_;clear zn)
  have bs':Le b₀ s'.heap:=(hbs.trans lsb).trans lb
  have hDl:∃ o,s'.heap.get? D=some o:=q1_1 hD' λnn e=>⟨_,e⟩
  have hCl:∃ o,s'.heap.get? Cc=some o:=F'.live Cc (zH ..)
  have xgD:∀ XG:List Addr,(∀ a∈XG,a∈keep\/s'.heap.get? a=none)->D∉XG/\Cc∉XG/\∀ a o,b'.get? a=some o->a∉XG:=λXG hXG=>by
   refine⟨λhm=>?_,λhm=>?_,λa o e hm=>?_⟩
   ·rcases hXG D hm with h | h
    ·exact (hkd D h).1 rfl
    ·refine q1_1 hDl λo q=>?_;clear hDl;rw [h] at q;cases q
   ·rcases hXG Cc hm with h | h
    ·exact (hkd Cc h).2 rfl
    ·refine q1_1 hCl λo q=>?_;clear hCl;rw [h] at q;cases q
   ·rcases hXG a hm with h | h
    ·rw [off a (.inl h)] at e;cases e
    ·rw [lb.get _ _ e] at h;cases h
  cases hn:U.length-i with
  | zero=>
   rw [hn] at hG
   refine Wp.to (gen_next (s₀:=s) ok.hd ok.depth (S.le bs').lim (hgb.keeps lb.get) es bs' (by omega) hG) λr s1' q=>?_
   refine byC0 λzn=>?_
   refine q0_2 q λz1 z2=>?_;clear q;subst z1;refine q0_2 z2 λz3 z4=>?_;clear z2;refine q2_1 z3 λh1 tk1 e1=>?_;clear z3;refine q1_2 z4 λXG hXG hkp=>?_;clear z4
   refine q0_3 (xgD XG hXG) λxD xC xb=>?_
   refine zn ?_;clear zn
   have hiU:U.take i=U:=List.take_of_length_le (by omega)
   rw [hiU] at hp
   have lb1:Le b' s1'.heap:=⟨λa o e=>hkp a o (xb a o e) (lb.get _ _ e)⟩
   have ls1:=lsb.trans lb1
   dsimp only
   have hCf:Cc∉ft env own:=λhm=>by refine q1_1 (I.fs.live Cc hm) λo ho=>?_;rw [hCsn] at ho;cases ho
   have hDf:D∉ft env own:=λhm=>by refine q1_1 (I.fs.live D hm) λo ho=>?_;rw [hDs] at ho;cases ho
   have hns':s1'.heap.Ns Cc m':=(F'.ns).at' λo e=>hkp _ _ xC e
   have Fl:Fs s1'.heap env own m cm:=I.fs.le ls1
   refine (asg_loc Fl hk hl).to λ_ s2 q2=>?_
   refine e1_2 m' (hns'.at' λo e=>q2.1.get _ _ hCf e) (λh' hs'=>?_)
   have kk:∀ a o,a∉ft env own->a≠Cc->s1'.heap.get? a=some o->h'.get? a=some o:=λa o h1 h2 e=>hs'.extBut a o h2 (q2.1.get a o h1 e)
   have nC:∀ {a o},s.heap.get? a=some o->a≠Cc:=λe z=>by rw [z,hCsn] at e;cases e
   refine q2_1 (q2.1.same) λh2 tk2 e2=>?_
   refine e0_3 (e2_1 h' tk2 ?_) (λa o ha e=>kk a o ha (nC e) (ls1.get _ _ e)) (e2_3 (.ref D) (hideAll h' (ft env own++X)) ⟨λa o e=>hideAll_get _ (kk a o (I.notft e) (nC (I.le.get _ _ e)) (ls1.get _ _ (I.le.get _ _ e))) λhm=>?_⟩ ⟨e2_1 _ _ rfl,⟨λa o e=>of_hideAll _ e⟩,q2.2.get λa ha o e=>hs'.extBut a o (λz=>hCf (by have z':a=Cc:=z;rw [← z'];exact ha)) e,λa ha=>hideAll_none _ (List.mem_append.mpr ha),λa ha=>?_,I.apart⟩ (e2_3 D vs.toArray rfl ?_ ?_))
   ·rw [e2,e1]
   ·rw [I.off a (List.mem_append.mp hm)] at e;cases e
   ·refine q1_1 (I.live a ha) λo e=>?_
    exact⟨o,kk a o (I.apart a ha) (nC e) (ls1.get _ _ e)⟩
   ·have hD1:s1'.heap.PlainList D vs.toArray:=hD'.at λo e=>hkp _ _ xD e
    refine hD1.at λo e=>hideAll_get _ (kk D o hDf hDC e) λhm=>?_
    rcases List.mem_append.mp hm with h | h
    ·exact hDf h
    ·refine q1_1 (I.live D h) λo' q=>?_;rw [hDs] at q;cases q
   ·refine Paired.imp (F:=λu v=>IsUn u v (hideAll b' (oldA s.heap))) (λu v z=>IsUn.le ⟨λa o e=>?_⟩ z) (by simpa using hp)
    have hao:a∉oldA s.heap:=λhm=>by rw [hideAll_none _ hm] at e;cases e
    have hs0:s.heap.get? a=none:=by
     cases q:s.heap.get? a with
     | none=>rfl
     | some o'=>exact absurd (mem_oldA.mpr ⟨o',q⟩) hao
    have eb:=of_hideAll _ e
    have hf:a∉ft env own:=λhm=>by refine q1_1 (I.fs.live a hm) λo' q=>?_;rw [hs0] at q;cases q
    refine hideAll_get _ (kk a o hf (λz=>by rw [z,off Cc (.inr (.inr rfl))] at eb;cases eb) (lb1.get _ _ eb)) λhm=>?_
    rcases List.mem_append.mp hm with h | h
    ·exact hf h
    ·refine q1_1 (I.live a h) λo' q=>?_;rw [hs0] at q;cases q
  | succ k=>
   rw [hn] at hG
   refine Wp.to (gen_next (s₀:=s) ok.hd ok.depth (S.le bs').lim (hgb.keeps lb.get) es bs' (by omega) hG) λr s1' q=>?_
   refine byC0 λzn=>?_
   refine q4_2 q λv gs' XG u z1 z2=>?_;clear q;subst z1;refine q0_7 z2 λz3 hXG hkp hu hun' lv hG'=>?_;clear z2;refine q2_1 z3 λh1 tk1 e1=>?_;clear z3
   refine q0_3 (xgD XG hXG) λxD xC xb=>?_
   refine zn ?_;clear zn
   have lb1:Le b' s1'.heap:=⟨λa o e=>hkp a o (xb a o e) (lb.get _ _ e)⟩
   dsimp only
   refine wpAny_of_eq (a:=()) rfl ?_
   have Fc:Fs s1'.heap (compE sc Cc [] env) [] m' cm':=F'.get λa ha o e=>hkp a o (by rw [zS ha];exact xC) e
   refine (asg_loc Fc (hunk Cc) (hun Cc)).to λ_ s2 q2=>?_
   refine wpAny_tests_nil ?_
   simp only [if_true]
   show Wp w A (eval (.Name un ep) (compE sc Cc [] env)) (λx s4=>Wp w A (call (.builtin "list.append") [.ref D,x]) _ s4) s2
   refine wpAny_Name ((q2.2.var (x:=un) (v:=v) (hunk Cc) (hun Cc) (by simp [up])) w A s2 _ _ (Le.refl _) ?_) hd3
   have hD1:s1'.heap.PlainList D vs.toArray:=hD'.at λo e=>hkp _ _ xD e
   have hD2':s2.heap.PlainList D vs.toArray:=hD1.at λo e=>q2.1.get D o (λz=>hDC (zS z)) e
   have hvl:vs.length=i:=by rw [← hp.length,List.length_take];omega
   refine wpAny_list_append_plain (hsz:=by simp;rw [sizeLine_eq];omega) hD2' λh' hl' hs'=>?_
   have kk:∀ a o,a≠Cc->a≠D->s1'.heap.get? a=some o->h'.get? a=some o:=λa o h1 h2 e=>hs'.extBut a o h2 (q2.1.get a o (λz=>h1 (zS z)) e)
   have xg2:∀ a∈XG,a≠D/\a≠Cc:=λa ha=>⟨λz=>xD (z▸ha),λz=>xC (z▸ha)⟩
   refine q2_1 (q2.1.same) λh2 tk2 e2=>?_
   have lbb:Le b' (hideAll h' (XG++[D,Cc])):=⟨λa o e=>hideAll_get _ (kk a o (λz=>by rw [z,off Cc (.inr (.inr rfl))] at e;cases e) (λz=>by rw [z,off D (.inr (.inl rfl))] at e;cases e) (lb1.get _ _ e)) λhm=>by
    rcases List.mem_append.mp hm with h | h
    ·exact xb a o e h
    ·replace h:=mem2 h
     (rcases h with z0 | z0)<;>(replace z0:=Eq.symm z0;subst z0)
     ·rw [off _ (.inr (.inl rfl))] at e;cases e
     ·rw [off _ (.inr (.inr rfl))] at e;cases e⟩
   have hui:U[i]?=some u:=by rw [← hu];congr 1;omega
   have htk:U.take (i+1)=U.take i++[u]:=by rw [List.take_add_one,hui];rfl
   refine e1_2 (U.length+1-(i+1)) (by omega) (e7_12 (i+1) gs' XG (hideAll h' (XG++[D,Cc])) _ _ (vs++[v]) rfl (by omega) (e2_1 h' tk2 (by rw [e2,e1])) (lsb.trans lbb) (hgb.keeps lbb.get) ⟨λa o e=>of_hideAll _ e⟩ (λa ha=>hideAll_none _ ?_) (q2.2.get λa ha o e=>hs'.extBut a o (λz=>hDC (z▸zS ha)) e) (by simpa using hl') ?_ xg2 ?_)
   ·(rcases ha with h | z0 | z0)<;>(first | (replace z0:=Eq.symm z0;subst z0) | skip)
    ·exact List.mem_append_left _ h
    ·simp
    ·simp
   ·rw [htk]
    refine Paired.app (Paired.imp (λu v z=>z.le (dropHide lbb)) hp) (.cons (hun' _ λa o h1 h2 h3=>?_) .nil)
    refine hideAll_get _ (hideAll_get _ (kk a o (λz=>by refine q1_1 hCl λo' q=>?_;clear hCl;rw [← z,h2] at q;cases q) (λz=>by refine q1_1 hDl λo' q=>?_;clear hDl;rw [← z,h2] at q;cases q) h3) λhm=>?_) λhm=>?_
    ·rcases List.mem_append.mp hm with h | h
     ·exact h1 h
     ·replace h:=mem2 h
      (rcases h with z0 | z0)<;>(replace z0:=Eq.symm z0;subst z0)
      ·refine q1_1 hDl λo' q=>?_;clear hDl;rw [h2] at q;cases q
      ·refine q1_1 hCl λo' q=>?_;clear hCl;rw [h2] at q;cases q
    ·refine q1_1 (mem_oldA.mp hm) λo' q=>?_
     rw [lb.get _ _ (lsb.get _ _ q)] at h2;cases h2
   ·rw [show U.length-(i+1)=k by omega]
    intro s'' hb'' hk''
    refine hG' s'' hb'' λa ha o e=>hk'' a ha o (kk a o (xg2 a ha).2 (xg2 a ha).1 e)
theorem zall:∀ p,zR p:=all1 zaux
end
end Z3
theorem ex_units {w A s₀ s b b₀ X env own m cm mg mb mN K n x un tx fn px pp pos tp ep cp fp xp sc str t pm cd}:Z3.zQ w A s₀ s b b₀ X env own m cm mg mb mN K n x un tx fn px pp pos tp ep cp fp xp sc str t pm cd:=Z3.zall (((((w,A),(s₀,s)),((b,b₀),(X,env))),(((own,m),(cm,mg)),((mb,mN),(K,n)))),((((x,un),(tx,fn)),((px,pp),(pos,tp))),(((ep,cp),(fp,xp)),((sc,str),(t,(pm,cd))))))
end
section
variable {w:World} {A:Around} {b h:Heap} {env:Env}
theorem Yd.min2 {x:Str} {p q:Pos} {e₁ e₂:Expr} {i j:Int} (hA:A.handled=Option.none) (V:Var h env x (.builtin "min")) (h1:Yd w A b h env e₁ (IsI i)) (h2:Yd w A b h env e₂ (IsI j)) (hd:autoParam ((x == ("__debug__" : Str))=false) auD) (he:autoParam (starEach [e₁,e₂] env=(false,eval e₁ env)::starEach [e₂] env) auR) (he':autoParam (starEach [e₂] env=(false,eval e₂ env)::starEach [] env) auR) (hp:autoParam ((backTo q (starEach [e₂] env)).any (·.1)=false) auR) :
  Yd w A b h env (.Call (.Name x p) [e₁,e₂] [] q) (IsI (min i j)):=
 Yd.callB V (Yds.two h1 h2 he he') (λvs s _ _ q=>by
  refine v2 q λy1 y2 ey a a'=>?_;subst ey
  refine byC0 λzn=>?_
  refine q1_1 a λt z1=>?_;clear a;subst z1
  refine q1_1 a' λt' z1=>?_;clear a';subst z1
  refine zn ?_;clear zn
  refine min_two_ints hA λh' tk hk=>⟨Kp.mk' ⟨hk⟩,λ_ _ _=>?_⟩
  split
  ·exact⟨t',by rw [Int.min_eq_right (by omega)]⟩
  ·exact⟨t,by rw [Int.min_eq_left (by omega)]⟩) hd he hp
theorem Yd.max2 {x:Str} {p q:Pos} {e₁ e₂:Expr} {i j:Int} (hA:A.handled=Option.none) (V:Var h env x (.builtin "max")) (h1:Yd w A b h env e₁ (IsI i)) (h2:Yd w A b h env e₂ (IsI j)) (hd:autoParam ((x == ("__debug__" : Str))=false) auD) (he:autoParam (starEach [e₁,e₂] env=(false,eval e₁ env)::starEach [e₂] env) auR) (he':autoParam (starEach [e₂] env=(false,eval e₂ env)::starEach [] env) auR) (hp:autoParam ((backTo q (starEach [e₂] env)).any (·.1)=false) auR) :
  Yd w A b h env (.Call (.Name x p) [e₁,e₂] [] q) (IsI (max i j)):=
 Yd.callB V (Yds.two h1 h2 he he') (λvs s _ _ q=>by
  refine v2 q λy1 y2 ey a a'=>?_;subst ey
  refine byC0 λzn=>?_
  refine q1_1 a λt z1=>?_;clear a;subst z1
  refine q1_1 a' λt' z1=>?_;clear a';subst z1
  refine zn ?_;clear zn
  refine max_two_ints hA λh' tk hk=>⟨Kp.mk' ⟨hk⟩,λ_ _ _=>?_⟩
  split
  ·exact⟨t',by rw [Int.max_eq_right (by omega)]⟩
  ·exact⟨t,by rw [Int.max_eq_left (by omega)]⟩) hd he hp
theorem least {s s':Shared} (hb:Le b s.heap) (k:Kp s s'):∃ g₀,Le b g₀/\Nw s s' g₀/\∀ g,Le b g->Nw s s' g->Le g₀ g:=by
 refine e1_3 (hideAll s'.heap ((oldA s.heap).filter λa=>(b.get? a).isNone)) ⟨λa o e=>hideAll_get _ (k.le.get _ _ (hb.get _ _ e)) λhm=>?_⟩ ⟨λa o e e'=>hideAll_get _ e' λhm=>?_⟩ (λg hg n=>⟨λa o e=>?_⟩)
 ·rw [List.mem_filter] at hm
  rw [e] at hm
  exact absurd hm.2 (by simp)
 ·rw [List.mem_filter] at hm
  refine q1_1 (mem_oldA.mp hm.1) λo' q=>?_
  rw [e] at q;cases q
 ·have e':=of_hideAll _ e
  cases q:s.heap.get? a with
  | none=>exact n.get a o q e'
  | some o'=>
   cases qb:b.get? a with
   | some o2=>
    have:=k.le.get _ _ (hb.get _ _ qb)
    rw [e'] at this
    cases this
    exact hg.get _ _ qb
   | none=>
    have hm:a∈(oldA s.heap).filter λa=>(b.get? a).isNone:=by
     rw [List.mem_filter]
     exact⟨mem_oldA.mpr ⟨o',q⟩,by simp [qb]⟩
    rw [hideAll_none _ hm] at e;cases e
theorem Yd.addl {l r:Expr} {p:Pos} {α:Type} {R:α->Value->Heap->Prop} {xs ys:List α} (x:Yd w A b h env l (IsL R xs)) (y:Yd w A b h env r (IsL R ys)) (hsz:xs.length+ys.length<=sizeLine) (hR:∀ a v g g',Le g g'->R a v g->R a v g') :
  Yd w A b h env (.BinOp l .Add r p) (IsL R (xs++ys)):=λs hb hs=>by
 refine wpAny_BinOp ((x s hb hs).to λu s1 q1=>(y s1 (hb.trans q1.1.le) (hs.trans q1.1.le)).to λv s2 q2=>?_)
 have l2:=q1.1.le.trans q2.1.le
 refine byC0 λzn=>?_
 refine q1_3 (least hb q1.1) λg1 a1 a2 a3=>?_
 refine q1_3 (least (hb.trans q1.1.le) q2.1) λg2 c1 c2 c3=>?_
 refine q2_2 (q1.2 g1 a1 a2) λD zs z1 z2=>?_;subst z1;refine q0_2 z2 λhD hz=>?_;clear z2
 refine q2_2 (q2.2 g2 c1 c2) λD' zs' z1 z2=>?_;subst z1;refine q0_2 z2 λhD' hz'=>?_;clear z2
 have L1:=a3 s2.heap (hb.trans l2) ((Nw.self s s2).left q2.1.le)
 have L2:=c3 s2.heap (hb.trans l2) (Nw.self _ _)
 refine q1_1 (id hD) λn eD=>?_
 refine q1_1 (id hD') λn' eD'=>?_
 refine zn ?_;clear zn
 have e1:=hz.length
 have e2:=hz'.length
 simp at e1 e2
 refine PySem.P.add_list (L1.get _ _ eD) (L2.get _ _ eD') ⟨(q1.1.trans q2.1).trans (Kp.push _ _),λg hg nw=>?_⟩ (by omega)
 have nk:Kp s2 { s2 with heap:=s2.heap.push { cls:=.type "list",data:=.seq (zs++zs') } }:=Kp.push _ _
 have M1:=a3 g hg ((nw.left nk.le).left q2.1.le)
 have M2:=c3 g hg ((nw.left nk.le).right q1.1.le)
 refine e2_3 _ (zs++zs') rfl ⟨0,nw.get _ _ (l2.none (get_size_none _)) (Heap.get?_push_size _ rfl)⟩ ?_
 rw [Array.toList_append]
 exact Paired.app (Paired.imp (λa v z=>hR a v g1 g M1 z) hz) (Paired.imp (λa v z=>hR a v g2 g M2 z) hz')
theorem Yd.upto {e:Expr} {p p1 pos:Pos} {k1 n:Nat} {l:Addr} {vs:List Value} {ns:List Int} (he:Yd w A b h env e (IsV (.ref l))) (hl:b.IsList l vs.toArray) (hi:IntsAre vs ns) (hsz:vs.length<=sizeLine) (ht:autoParam (∀ o r,letTemporaryGo e o r=pure ()) auI2) :
  Yd w A b h env (.Subscript e (.Slice Option.none (some (.Constant (.int (n:Int)) k1 p1)) Option.none p) pos) (λv g=>∃ D us,v=.ref D/\g.PlainList D (List.toArray us)/\IntsAre us (ns.take n)):=λs hb hs=>by
 refine wpAny_Subscript_list_slice ((he s hb hs).to λo s1 q1=>?_) ht
 have e1:o=.ref l:=q1.2 _ (hb.trans q1.1.le) (Nw.self _ _)
 subst e1
 rw [evalPart_none,evalPart_some]
 refine wpAny_pure (wpAny_Constant_int (e4_7 l vs.toArray Option.none (some (n:Int)) rfl (hl.at λo e=>(hb.trans q1.1.le).get _ _ e) (by simpa using hsz) .none (.int _ _) ?_ ?_))
 ·exact (q1.1.trans (Kp.tok _ _)).trans ⟨e2_1 _ _ rfl,(Le.push _ _).trans (Le.push _ _)⟩
 ·intro g hg nw
  refine e2_3 _ ((slicePick vs.toArray Option.none (some (n:Int)) Option.none).toList) rfl ⟨0,?_⟩ (by simpa using kmk_upto hi (by omega:(0:Int)<=n))
  refine nw.get _ _ (q1.1.le.none (none_ge (Nat.le_succ _))) ?_
  have:=Heap.get?_push_size (s1.heap.push { cls:=.type "slice",data:=.fields #[Value.none,.int (n:Int) s1.toks,Value.none] }) (o:={ cls:=.type "list",data:=.seq (slicePick vs.toArray Option.none (some (n:Int)) Option.none) }) rfl
  rw [Heap.size_push] at this
  simpa using this
end
noncomputable def n8 (ns:List Int):List Int:=ns.take 8
noncomputable def cOf (ns:List Int):Nat:=4+(n8 ns).length / 4
noncomputable def oOf (ns:List Int):Nat:=(n8 ns).length % 2
noncomputable def toldOf (ns:List Int):List (Int×Int):=(n8 ns).map λx=>(x.fmod (cOf ns),(x.fdiv (cOf ns)).fmod (cOf ns))
noncomputable def pN (p:Int×Int):Nat×Nat:=((min p.1 p.2).toNat,(max p.1 p.2).toNat)
noncomputable def psOf (ns:List Int):List (Nat×Nat):=[(0,1),(2-oOf ns,3-oOf ns)]++((toldOf ns).filter λp=>p.1 != p.2).map pN
theorem n8_len (ns:List Int):(n8 ns).length<=8:=by unfold n8;rw [List.length_take];omega
theorem cOf_b (ns:List Int):4<=cOf ns/\cOf ns<=6:=by have:=n8_len ns;unfold cOf;omega
theorem oOf_b (ns:List Int):oOf ns=0\/oOf ns=1:=by unfold oOf;omega
theorem told_b (ns:List Int):∀ p∈toldOf ns,(0<=p.1/\p.1<cOf ns)/\0<=p.2/\p.2<cOf ns:=by
 intro p hp
 refine byC0 λzn=>?_;refine q1_2 (List.mem_map.mp hp) λx _ z1=>?_;subst z1;refine zn ?_;clear zn
 have hc:=cOf_b ns
 have h0:(0:Int)<(cOf ns:Int):=by omega
 exact⟨⟨Int.fmod_nonneg_of_pos _ h0,Int.fmod_lt_of_pos _ h0⟩,Int.fmod_nonneg_of_pos _ h0,Int.fmod_lt_of_pos _ h0⟩
theorem ps_b (ns:List Int):∀ p∈psOf ns,p.1<p.2/\p.2<cOf ns:=by
 intro p hp
 have hc:=cOf_b ns
 have ho:=oOf_b ns
 unfold psOf at hp
 rcases List.mem_append.mp hp with h | h
 ·replace h:=mem2 h
  (rcases h with rfl | rfl)
  ·exact⟨by decide,by show 1<cOf ns;omega⟩
  ·refine⟨?_,?_⟩
   ·show 2-oOf ns<3-oOf ns;omega
   ·show 3-oOf ns<cOf ns;omega
 ·refine byC0 λzn=>?_
  refine q1_2 (List.mem_map.mp h) λq hq z1=>?_;subst z1
  refine q0_2 (List.mem_filter.mp hq) λh1 h2=>?_
  refine zn ?_;clear zn
  have hb:=told_b ns q h1
  have hne:q.1≠q.2:=by simpa using h2
  unfold pN
  dsimp only
  omega
theorem ps_len (ns:List Int):(psOf ns).length<=10:=by
 unfold psOf
 rw [List.length_append,List.length_map]
 have h1:=List.length_filter_le (λp:Int×Int=>p.1 != p.2) (toldOf ns)
 have h2:(toldOf ns).length=(n8 ns).length:=by unfold toldOf;rw [List.length_map]
 have h3:=n8_len ns
 simp only [List.length_cons,List.length_nil]
 omega
theorem IsNP.le {p:Nat×Nat} {v:Value} {g g':Heap} (l:Le g g') (x:IsNP p v g):IsNP p v g':=by
 refine q2_2 x λT vs z1 z2=>?_;clear x;subst z1;refine q0_2 z2 λhT hp=>?_;clear z2
 refine e2_3 T vs rfl (hT.at λo e=>l.get _ _ e) ?_
 refine v2 hp λy1 y2 ey a a'=>?_;subst ey
 exact .cons a (.cons a' .nil)
theorem ints_paired:∀ {vs:List Value} {ns:List Int},IntsAre vs ns->Paired (λi v=>∃ t,v=.int i t) ns vs:=by
 intro _ _ h
 induction h with
 | nil=>exact .nil
 | cons n t h ih=>exact .cons ⟨t,rfl⟩ ih
section
variable {w:World} {A:Around} {s₀ s:Shared} {b:Heap} {X:List Addr} {env:Env} {own:List (Str×Addr)} {m cm:SoV}
theorem ex_asgCM {x:Str} {px p:Pos} {c:Addr} {e:Expr} {Y:List Addr} {Φ:Value->Shared->Prop} (I:InF s₀ b X env own m cm s) (hk:env.scope.kind=.function) (hl:env.kindOf x=some .cell) (hc:(x,c)∈own) (hn1:∀ n c',(n,c')∈own->n=x->c'=c) (hY:∀ a∈Y,a∈X)
  (hE:Wp w A (eval e env) (λv s'=>Ev Y s s'/\(∀ a∈Y,∃ o,s'.heap.get? a=some o)/\Φ v s') s) (hs:swapsWith e (some (.Name x px)) p.line env=pure false) :
  Wp w A (exec (.Assign [.Name x px] e p) env) (λfl s'=>fl=.next/\∃ v s1 b',Ev Y s s1/\Φ v s1/\Ev (ft env own) s1 s'/\Le b b'/\InF s₀ b' X env own m (up cm x v) s'/\∀ a o,a∉ft env own->a∉X->s'.heap.get? a=some o->b'.get? a=some o) s:=by
 refine wpAny_Assign_Name (hE.to λv s1 q=>?_) hs
 refine byC0 λzn=>?_
 refine q0_3 q λE1 lv hΦ=>?_;clear q
 have F1:Fs s1.heap env own m cm:=I.fs.get λc hc o e=>E1.get c o (λz=>I.apart c (hY c z) hc) e
 refine q1_3 (I.step E1 (λa ha=>.inr (hY a ha)) F1 (λa _ ha=>lv a ha)) λb1 l1 I1 _=>?_
 refine zn ?_;clear zn
 refine (sto_cell F1 hk hl hc hn1).to λ_ s2 q2=>?_
 refine q1_3 (I1.step q2.1 (λa ha=>.inl ha) q2.2 (λa ha hm=>absurd hm (I1.apart a ha))) λb2 l2 I2 g=>?_
 exact e0_2 rfl (e3_6 v s1 b2 E1 hΦ q2.1 (l1.trans l2) I2 g)
theorem Fs.noList {h:Heap} (F:Fs h env own m cm) {a:Addr} {items:Array Value} (hl:h.IsList a items):a∉ft env own:=λhm=>by
 refine q1_3 hl λo e _ z1=>?_;clear hl;refine q1_1 z1 λn hd=>?_;clear z1
 (rcases zC hm with rfl | hm)
 ·refine q3_3 (F.ns) λo' es ep e' hd' _=>?_
  rw [e] at e';cases e'
  rw [hd] at hd';cases hd'
 ·rcases List.mem_map.mp hm with ⟨⟨nm,c⟩,hc,rfl⟩
  refine q1_2 (F.cell nm c hc) λo' e' hd'=>?_
  rw [e] at e';cases e'
  rw [hd] at hd';cases hd'
theorem Fs.noTuple {h:Heap} (F:Fs h env own m cm) {a:Addr} {items:Array Value} (hl:h.IsTuple a items):a∉ft env own:=λhm=>by
 refine q1_3 hl λo e _ z1=>?_;clear hl;refine q1_1 z1 λn hd=>?_;clear z1
 (rcases zC hm with rfl | hm)
 ·refine q3_3 (F.ns) λo' es ep e' hd' _=>?_
  rw [e] at e';cases e'
  rw [hd] at hd';cases hd'
 ·rcases List.mem_map.mp hm with ⟨⟨nm,c⟩,hc,rfl⟩
  refine q1_2 (F.cell nm c hc) λo' e' hd'=>?_
  rw [e] at e';cases e'
  rw [hd] at hd';cases hd'
end
theorem law_pairs {w:World} {A:Around} {s₀ s:Shared} {b b₀:Heap} {pm cd:Value} {L:Addr} {m cm mg mb mN:SoV} {K:Frag} {n:Nat} {ns:List Int} {od:Tok}:∀ {tv:Value} (ok:Ok n A) (S:St w mg mb mN K b₀) (C:Con mg mb mN K) (I:InF s₀ b [] (lawEnv pm cd L 177) (lawEnv pm cd L 177).cells m cm s) (hb:Le b₀ b) (ht:m (sO "told")=some tv) (htl:IsL IsPair (toldOf ns) tv b) (ho:m (sO "odd")=some (.int (oOf ns:Int) od)),Wp w A (exec (nth (fBody (top 15)) 4) (lawEnv pm cd L 177)) (λfl s'=>fl=.next/\Ev (ft (lawEnv pm cd L 177) (lawEnv pm cd L 177).cells) s s'/\∃ P b',Le b b'/\InF s₀ b' [] (lawEnv pm cd L 177) (lawEnv pm cd L 177).cells (up m (sO "pairs") (.ref P)) cm s'/\∃ vs:List Value,b'.IsList P vs.toArray/\Paired (λp v=>IsNP p v b') (psOf ns) vs) s:=by
 intro tv ok S C I hb ht htl ho
 refine byC0 λzn=>?_;refine q2_2 htl λD ys z1 z2=>?_;clear htl;subst z1;refine q0_2 z2 λhD hys=>?_;clear z2;refine zn ?_;clear zn
 have bm:=C.blt (sO "min") (by simp)
 have bM:=C.blt (sO "max") (by simp)
 have Vo:=I.fs.var (x:=sO "odd") rfl rfl ho
 have hoo:=oOf_b ns
 have hl2:(toldOf ns).length<=8:=by unfold toldOf;rw [List.length_map];exact n8_len ns
 refine Wp.to (ex_asg (P:=IsL (λp v g=>IsNP p v g) ([(0,1),(2-oOf ns,3-oOf ns)]++((toldOf ns).filter λp=>p.1 != p.2).flatMap λp=>[pN p])) I rfl rfl (Yd.addl (xs:=[(0,1),(2-oOf ns,3-oOf ns)]) (ys:=((toldOf ns).filter λp=>p.1 != p.2).flatMap λp=>[pN p]) ?disp
   (Yd.comp (cl:=[]) (xs:=toldOf ns) (B:=λp v=>IsPair p v b) (K₁:=λp m _=>(∃ t,m (sO "a")=some (.int p.1 t))/\∃ t,m (sO "b")=some (.int p.2 t)) rfl rfl (by decide) rfl (by intro g' h;cases h) (by intro C n c h;cases h) I.le
    (Src.list ok.hd (Yd.namV (I.fs.var (x:=sO "told") rfl rfl ht)) (items:=ys) ((hD.at λo e=>I.le.get _ _ e).isList) hys) ?sz λCc D' O=>⟨λp u s' m' cm' hx hB hs F=>?asg,λp hh m' cm' hx hr F hK=>?test,λp hx hpp=>emit_leaf rfl I.le O λhh m' cm' hr F hK=>?leaf⟩) ?sz2 (λp v g g' l x=>x.le l)) rfl) λfl s' q=>?_
 case disp=>
  refine (Yd.lst (Yds.two (Yd.tup (Yds.two Yd.int Yd.int)) (Yd.tup (Yds.two (Yd.sub Yd.int (Yd.namI Vo)) (Yd.sub Yd.int (Yd.namI Vo)))))).mono λv g _ q=>?_
  refine byC0 λzn=>?_;refine q2_2 q λD' vs' z1 z2=>?_;clear q;subst z1;refine q0_2 z2 λh1 h2=>?_;clear z2;refine zn ?_;clear zn
  refine e2_3 D' vs'.toArray rfl h1 ?_
  refine v2 h2 λy1 y2 ey a a'=>?_;subst ey
  refine .cons a (.cons ?_ .nil)
  have e1:(2:Int)-(oOf ns:Int)=((2-oOf ns:Nat):Int):=by omega
  have e2:(3:Int)-(oOf ns:Int)=((3-oOf ns:Nat):Int):=by omega
  rw [e1,e2] at a'
  exact a'
 case sz=>
  rw [flat2,List.length_map,sizeLine_eq]
  have:=List.length_filter_le (λp:Int×Int=>p.1 != p.2) (toldOf ns)
  omega
 case sz2=>
  rw [flat2,List.length_map,sizeLine_eq]
  have:=List.length_filter_le (λp:Int×Int=>p.1 != p.2) (toldOf ns)
  simp only [List.length_cons,List.length_nil]
  omega
 case asg=>
  refine byC0 λzn=>?_;refine q2_2 hB λT ws z1 z2=>?_;clear hB;subst z1;refine q0_2 z2 λhT hw=>?_;clear z2;refine zn ?_;clear zn
  refine v2 hw λy1 y2 ey a a'=>?_;subst ey
  refine byC0 λzn=>?_
  refine q1_1 a λta z1=>?_;clear a;subst z1
  refine q1_1 a' λtb z1=>?_;clear a';subst z1
  refine zn ?_;clear zn
  exact (asg_tup2 ok.hd F rfl rfl rfl (hT.at λo e=>(I.le.trans hs).get _ _ e)).to λ_ s'' q=>e0_2 q.1 (e2_3 _ _ q.2 ⟨ta,by simp +decide [up]⟩ ⟨tb,by simp [up]⟩)
 case test=>
  refine byC0 λzn=>?_;refine q0_2 hK λz1 z2=>?_;clear hK;refine q1_1 z1 λta ha=>?_;clear z1;refine q1_1 z2 λtb hb'=>?_;clear z2;refine zn ?_;clear zn
  exact Ts.one (Td.ne (Yd.namI (F.var (x:=sO "a") rfl rfl ha)) (Yd.namI (F.var (x:=sO "b") rfl rfl hb')))
 case leaf=>
  refine byC0 λzn=>?_;refine q0_2 hK λz1 z2=>?_;clear hK;refine q1_1 z1 λta ha=>?_;clear z1;refine q1_1 z2 λtb hb'=>?_;clear z2;refine zn ?_;clear zn
  have hpb:=told_b ns p hx
  have ls:=(hb.trans I.le).trans hr
  have Vm:=F.blt (S.le ls).g bm.1 (S.le ls).b (bm.2.trans (by decide +kernel:bootBuiltins (sO "min")=some (.builtin "min"))) rfl rfl rfl rfl
  have VM:=F.blt (S.le ls).g bM.1 (S.le ls).b (bM.2.trans (by decide +kernel:bootBuiltins (sO "max")=some (.builtin "max"))) rfl rfl rfl rfl
  have Va:=F.var (x:=sO "a") rfl rfl ha
  have Vb:=F.var (x:=sO "b") rfl rfl hb'
  refine (Yd.tup (Yds.two (Yd.min2 ok.hd Vm (Yd.namI Va) (Yd.namI Vb)) (Yd.max2 ok.hd VM (Yd.namI Va) (Yd.namI Vb)))).mono λv g _ q=>?_
  show IsT [IsI (((min p.1 p.2).toNat:Nat):Int),IsI (((max p.1 p.2).toNat:Nat):Int)] v g
  rw [Int.toNat_of_nonneg (by omega),Int.toNat_of_nonneg (by omega)]
  exact q
 ·refine byC0 λzn=>?_;refine q0_2 q λz1 z2=>?_;clear q;subst z1;refine s2_3 z2 λE v b' l I' z4=>?_;clear z2;refine q2_2 z4 λD' us z5 z6=>?_;clear z4;subst z5;refine q0_2 z6 λhD' hus=>?_;clear z6;refine zn ?_;clear zn
  refine e0_3 rfl E (e2_3 D' b' l I' (e1_2 us.toList (by simpa using hD'.isList) ?_))
  rw [flat2] at hus
  exact hus
section
open PySem PySem.Calls PyProof.Rows PySem.W PySem.W.X
noncomputable def lsOf (ns:List Int):List (List Nat):=(List.range (cOf ns)).map (behF (psOf ns) (cOf ns))
noncomputable def lnOf (ns:List Int) (i:Nat):Nat:=((lsOf ns).getD i []).length
theorem LL.of {h h':Heap} {a:Addr} {ls:List (List Nat)} (x:LL h h a ls) (k:∀ c items,h.IsList c items->h'.IsList c items) (k2:∀ c l,NatL h c l->NatL h' c l):LL h' h' a ls:=by
 refine q1_2 x λvs h1 h2=>?_;clear x
 exact e1_2 vs (k _ _ h1) (Paired.imp (λl' v q=>by refine q1_2 q λa z1 hl=>?_;clear q;subst z1;exact e1_2 a rfl (k2 _ _ hl)) h2)
theorem IsBk.of {h h':Heap} {p:Nat×Evt} {v:Value} (x:IsBk p v h) (k:∀ c items,h.IsTuple c items->h'.IsTuple c items):IsBk p v h':=by
 refine q2_2 x λT vs z1 z2=>?_;clear x;subst z1;refine q0_2 z2 λhT hp=>?_;clear z2
 refine e2_3 T vs rfl (k _ _ hT) ?_
 refine v2 hp λy1 y2 ey a a'=>?_;subst ey
 exact .cons a (.cons a' .nil)
theorem IsNP.of {h h':Heap} {p:Nat×Nat} {v:Value} (x:IsNP p v h) (k:∀ c items,h.IsTuple c items->h'.IsTuple c items):IsNP p v h':=by
 refine q2_2 x λT vs z1 z2=>?_;clear x;subst z1;refine q0_2 z2 λhT hp=>?_;clear z2
 refine e2_3 T vs rfl (k _ _ hT) ?_
 refine v2 hp λy1 y2 ey a a'=>?_;subst ey
 exact .cons a (.cons a' .nil)
theorem cD_len (ps:List (Nat×Nat)) (c i:Nat):(behF ps c i).length<=c:=by
 have key:∀ (l:List Nat) (B:Nat->List Nat),(∀ j,(B j).length<=c)->∀ j,((l.foldl (bUpd ps c) B) j).length<=c:=by
  intro l
  induction l with
  | nil=>intro B hB j;exact hB j
  | cons a r ih=>
   intro B hB j
   refine ih (bUpd ps c B a) (λj=>?_) j
   unfold bUpd
   split
   ·unfold bStep
    have:=List.length_filter_le (λk=>decide (k∈straightOf ps a) || !((straightOf ps a).filter λm=>decide (k∈B m)).isEmpty) (List.range c)
    rw [List.length_range] at this
    exact this
   ·exact hB j
 exact key _ _ (λ_=>Nat.zero_le _) i
structure Fr7 (w:World) (ns:List Int) (s₀ s7:Shared) (b₀ b7:Heap) (pm cd:Value) (L:Addr) (m cm:SoV) (ev:List Evt):Prop where
 same:∃ h tk,s7={ s₀ with heap:=h,toks:=tk }
 keep:∀ a o,a∉tabs2->s₀.heap.get? a=some o->s7.heap.get? a=some o
 g30:Grown s₀.heap s7.heap 30
 g162:Grown s₀.heap s7.heap 162
 inF:InF s7 b7 [] (lawEnv pm cd L 177) (lawEnv pm cd L 177).cells m cm s7
 low:Le b₀ b7
 all:∀ a o,a∉ft (lawEnv pm cd L 177) (lawEnv pm cd L 177).cells->s7.heap.get? a=some o->b7.get? a=some o
 old:∀ a o,s₀.heap.get? a=some o->a∉ft (lawEnv pm cd L 177) (lawEnv pm cd L 177).cells
 run:Run (psOf ns) (cOf ns) (oOf ns:Int) (lnOf ns) ev
 fin:∀ i,i<cOf ns->i∈outs ev/\i∈dns ev
 text:∃ t,m (sO "text")=some (.str ⟨(tCps ev).toArray⟩ t)
 book:∃ Bk bs,m (sO "book")=some (.ref Bk)/\b7.PlainList Bk (List.toArray bs)/\Paired (λe v=>IsBk e v b7) (bkFrom 0 ev) bs
 beh:∃ Ba,cm (sO "behind")=some (.ref Ba)/\LL b7 b7 Ba (lsOf ns)
 cnt:∃ t,cm (sO "count")=some (.int (cOf ns:Int) t)
 odd:∃ t,m (sO "odd")=some (.int (oOf ns:Int) t)
namespace Z12
noncomputable section
def zQ (w:World) (A:Around) (s₀ s:Shared) (b₀:Heap) (pm cd:Value) (L:Addr) (m cm mg mb mN:SoV) (K:Frag) (n:Nat) (ns:List Int) (vs:List Value) (a:Addr) (Q:Flow->Shared->Prop):Prop:=∀ (ok:Ok (n+9) A) (hdp:A.depth<=500) (hun:A.units<=2000) (hfr:A.frames=some [lawEnv pm cd L 177]) (S:St w mg mb mN K b₀) (C:Con mg mb mN K) (C2:Con2 K) (SV:Served w s₀.heap) (hb:Le b₀ s₀.heap) (htab:∀ a∈tabs2,(∃ ps,s₀.heap.get? a=some (tableObj ps))/\b₀.get? a=none) (I:InF s₀ s₀.heap [] (lawEnv pm cd L 177) (lawEnv pm cd L 177).cells m cm s) (hsc:m (sO "script")=some (.ref a)) (hl:s₀.heap.IsList a vs.toArray) (hi:IntsAre vs ns) (hlen:vs.length<=63) (hk:∀ s7 b7 m cm ev,Fr7 w ns s₀ s7 b₀ b7 pm cd L m cm ev->Wp w A (execs ((fBody (top 15)).drop 7) (lawEnv pm cd L 177)) Q s7),Wp w A (execs (fBody (top 15)) (lawEnv pm cd L 177)) Q s
abbrev zY:=((((World×Around)×(Shared×Shared))×((Heap×Value)×(Value×(Addr×SoV))))×(((SoV×SoV)×(SoV×(SoV×Frag)))×((Nat×(List Int))×((List Value)×(Addr×(Flow->Shared->Prop))))))
def zR (p:zY):=zQ p.1.1.1.1 p.1.1.1.2 p.1.1.2.1 p.1.1.2.2 p.1.2.1.1 p.1.2.1.2 p.1.2.2.1 p.1.2.2.2.1 p.1.2.2.2.2 p.2.1.1.1 p.2.1.1.2 p.2.1.2.1 p.2.1.2.2.1 p.2.1.2.2.2 p.2.2.1.1 p.2.2.1.2 p.2.2.2.1 p.2.2.2.2.1 p.2.2.2.2.2
def zc:zY:=eps1 (neP (neP (neP (neP neW neA) (neP neS neS)) neI) neI) zR
def w:=zc.1.1.1.1
def A:=zc.1.1.1.2
def s₀:=zc.1.1.2.1
def s:=zc.1.1.2.2
def b₀:=zc.1.2.1.1
def pm:=zc.1.2.1.2
def cd:=zc.1.2.2.1
def L:=zc.1.2.2.2.1
def m:=zc.1.2.2.2.2
def cm:=zc.2.1.1.1
def mg:=zc.2.1.1.2
def mb:=zc.2.1.2.1
def mN:=zc.2.1.2.2.1
def K:=zc.2.1.2.2.2
def n:=zc.2.2.1.1
def ns:=zc.2.2.1.2
def vs:=zc.2.2.2.1
def a:=zc.2.2.2.2.1
def Q:=zc.2.2.2.2.2
theorem zaux:zQ w A s₀ s b₀ pm cd L m cm mg mb mN K n ns vs a Q:=by
 intro ok hdp hun hfr S C C2 SV hb htab I hsc hl hi hlen hk
 have hc:=cOf_b ns
 have hoo:=oOf_b ns
 refine seqn (ex_asg I rfl rfl (Yd.upto (n:=8) (Yd.namV (I.fs.var (x:=sO "script") rfl rfl hsc)) hl hi (by rw [sizeLine_eq];omega)) rfl) λs1 q=>?_
 refine byC0 λzn=>?_;refine s2_3 q λE1 v1 b1 l1 I1 z2=>?_;clear q;refine q2_2 z2 λD us z3 z4=>?_;clear z2;subst z3;refine q0_2 z4 λhD hus=>?_;clear z4;refine zn ?_;clear zn
 have hul:us.length=(n8 ns).length:=(ints_paired hus).length.symm
 have h8:=n8_len ns
 have lb1:=hb.trans l1
 have bL:=C.blt (sO "len") (by simp)
 have VL:=λ{s:Shared} {b:Heap} {m cm:SoV} (I:InF s₀ b [] (lawEnv pm cd L 177) (lawEnv pm cd L 177).cells m cm s) (l:Le b₀ b)=>I.fs.blt (S.le (l.trans I.le)).g bL.1 (S.le (l.trans I.le)).b (bL.2.trans (by decide +kernel:bootBuiltins (sO "len")=some (.builtin "len"))) rfl rfl rfl rfl
 have mC:(sO "count",L+1)∈(lawEnv pm cd L 177).cells:=by rw [lawCells];simp
 have mB:(sO "behind",L+2)∈(lawEnv pm cd L 177).cells:=by rw [lawCells];simp
 have uC:∀ (x:Str) (c:Addr),(x,c)∈(lawEnv pm cd L 177).cells->∀ n c',(n,c')∈(lawEnv pm cd L 177).cells->n=x->c'=c:=λx c hx n c' hn he=>by
  have h1:=I.fs.look _ _ hx
  have h2:=I.fs.look _ _ hn
  rw [he,h1] at h2
  exact (Option.some.inj h2).symm
 refine seqn (ex_asgC (P:=IsI (cOf ns:Int)) I1 rfl rfl mC (uC _ _ mC) ((Yd.add Yd.int (Yd.fdiv (Yd.lenl (l:=D) (items:=List.toArray us) (VL I1 lb1) (Yd.namV (I1.fs.var (x:=sO "numbers") rfl rfl (by simp [up]))) ((hD.at λo e=>I1.le.get _ _ e).isList) (by simp;omega)) Yd.int (by decide) (by decide))).mono λv g _ h=>?_) rfl) λs2 q=>?_
 ·have e:(4:Int)+((List.toArray us).size:Int).fdiv 4=(cOf ns:Int):=by
   rw [List.size_toArray,hul,Int.fdiv_eq_ediv_of_nonneg _ (by decide)]
   unfold cOf
   omega
  exact e▸h
 refine byC0 λzn=>?_;refine s2_3 q λE2 v2 b2 l2 I2 z2=>?_;clear q;refine q1_1 z2 λtc z3=>?_;clear z2;subst z3;refine zn ?_;clear zn
 have lb2:=lb1.trans l2
 have hD2:s2.heap.IsList D (List.toArray us):=(hD.at λo e=>(l2.trans I2.le).get _ _ e).isList
 refine seqn (ex_asg (P:=IsI (oOf ns:Int)) I2 rfl rfl ((Yd.mod (Yd.lenl (l:=D) (items:=List.toArray us) (VL I2 lb2) (Yd.namV (I2.fs.var (x:=sO "numbers") rfl rfl (by simp [up]))) hD2 (by simp;omega)) Yd.int (by decide)).mono λv g _ h=>?_) rfl) λs3 q=>?_
 ·have e:((List.toArray us).size:Int).fmod 2=(oOf ns:Int):=by
   rw [List.size_toArray,hul,Int.fmod_eq_emod_of_nonneg _ (by decide)]
   unfold oOf
   omega
  exact e▸h
 refine byC0 λzn=>?_;refine s2_3 q λE3 v3 b3 l3 I3 z2=>?_;clear q;refine q1_1 z2 λtd z3=>?_;clear z2;subst z3;refine zn ?_;clear zn
 have lb3:=lb2.trans l3
 refine seqn (law_told (n:=n+9) (a:=D) (vs:=us) (ns:=n8 ns) (c:=(cOf ns:Int)) (t:=tc) ok I3 (by simp +decide [up]) ((hD.at λo e=>(l2.trans l3).get _ _ e).isList) (ints_paired hus) (by omega) (by simp [up]) (by omega) (by omega)) λs4 q=>?_
 refine byC0 λzn=>?_;refine s2_4 q λE4 v4 b4 l4 I4 htl _=>?_;clear q;refine zn ?_;clear zn
 have lb4:=lb3.trans l4
 refine seqn (law_pairs (n:=n+9) (ns:=ns) (tv:=v4) (od:=td) ok S C I4 lb4 (by simp [up]) htl (by simp +decide [up])) λs5 q=>?_
 refine byC0 λzn=>?_;refine s2_3 q λE5 P b5 l5 I5 z2=>?_;clear q;refine q1_2 z2 λpvs hP hPs=>?_;clear z2;refine zn ?_;clear zn
 have lb5:=lb4.trans l5
 have lb5s:=lb5.trans I5.le
 have hpsl:=ps_len ns
 refine seqn (ex_asgCM (Y:=[]) (Φ:=λv s'=>Kp s5 s'/\∃ Ba,v=.ref Ba/\LL s'.heap s'.heap Ba (lsOf ns)) I5 rfl rfl mB (uC _ _ mB) (λa ha=>by cases ha)
  (eval_callF I5.le (I5.fs.glo (x:=sO "_law_behind") (S.le lb5s).g C.beh rfl rfl rfl) (S.le lb5s).f160.choose_spec.choose_spec (Yds.two (Yd.namV (I5.fs.var (x:=sO "pairs") (v:=.ref P) rfl rfl (by simp [up]))) (Yd.namV (I5.fs.varC (x:=sO "count") (v:=.int (cOf ns:Int) tc) rfl rfl mC (by simp [up])))) λvs' s5' k hv=>?_) rfl) λs6 q=>?_
 ·refine v2 hv λy1 y2 ey a1 a2=>?_;subst ey
  cases a1;cases a2
  refine (beh_call (n:=n+8) ok (S.le (lb5s.trans k.le)) C (hP.at λo e=>(I5.le.trans k.le).get _ _ e) (Paired.imp (λp v x=>x.le (I5.le.trans k.le)) hPs) (by omega) (by omega) (by omega) (λp hp=>(ps_b ns p hp).2) (by omega)).to λv s' q=>?_
  refine byC0 λzn=>?_;refine s1_2 q λk' Ba z2 z3=>?_;clear q;subst z2;refine q0_2 z3 λnBa hLL=>?_;clear z3;refine zn ?_;clear zn
  exact e0_4 ((k.trans k').ev) (λa ha=>by cases ha) (k.trans k') (e1_2 Ba rfl hLL)
 refine byC0 λzn=>?_;refine q3_6 q λv6 s5' b6 E56 z1 E6 l6 I6 g6=>?_;clear q;refine s1_2 z1 λk5 Ba z3 hLL=>?_;clear z1;subst z3;refine zn ?_;clear zn
 have F5':=I5.fs.le k5.le
 have lb6:=lb5.trans l6
 have hLL6:LL b6 b6 Ba (lsOf ns):=hLL.of (λc items h=>h.at λo e=>g6 c o (F5'.noList h) (by simp) (E6.get _ _ (F5'.noList h) e)) (λc l h=>h.at λo e=>g6 c o (F5'.noList h.choose_spec.1.isList) (by simp) (E6.get _ _ (F5'.noList h.choose_spec.1.isList) e))
 have l06:Le s₀.heap b6:=((((l1.trans l2).trans l3).trans l4).trans l5).trans l6
 have tb:∀ a∈tabs2,∃ ps,b6.get? a=some (tableObj ps):=λa ha=>q1_1 ((htab a ha).1) λps e=>⟨ps,l06.get _ _ e⟩
 have noT:∀ {c:Addr} {items:Array Value},b6.IsList c items\/b6.IsTuple c items->c∉tabs2:=λh hm=>by
  refine q1_1 (tb _ hm) λps e=>?_
  (rcases h with z1 | z2)<;>(first | (refine q1_3 z1 λo e' hcl _=>?_;clear z1) | (refine q1_3 z2 λo e' hcl _=>?_;clear z2) | skip)
  ·rw [e] at e';cases e';cases hcl
  ·rw [e] at e';cases e';cases hcl
 have nL:∀ {c:Addr} {items:Array Value},b6.IsList c items->(hideAll b6 tabs2).IsList c items:=λh=>h.at λo e=>hideAll_get _ e (noT (.inl h))
 have nT:∀ {c:Addr} {items:Array Value},b6.IsTuple c items->(hideAll b6 tabs2).IsTuple c items:=λh=>h.at λo e=>hideAll_get _ e (noT (.inr h))
 have lq:Le b₀ (hideAll b6 tabs2):=le_hide lb6 λa ha=>(htab a ha).2
 have lqs:Le (hideAll b6 tabs2) s6.heap:=⟨λa o e=>I6.le.get _ _ (of_hideAll _ e)⟩
 have Lft:L∈ft (lawEnv pm cd L 177) (lawEnv pm cd L 177).cells:=zH ..
 have hqn:∀ a,b6.get? a=none->(hideAll b6 tabs2).get? a=none:=λa ha=>by
  cases q:(hideAll b6 tabs2).get? a with
  | none=>rfl
  | some o=>rw [of_hideAll _ q] at ha;cases ha
 have hfrL:∀ L'∈frs [lawEnv pm cd L 177],L'=L:=λL' h=>zS (show L'∈[L] from h)
 obtain ⟨m6,cm6,I6,mo,mp,mb',mc⟩:∃ m6 cm6,InF s₀ b6 [] (lawEnv pm cd L 177) (lawEnv pm cd L 177).cells m6 cm6 s6/\m6 (sO "odd")=some (.int (oOf ns:Int) td)/\m6 (sO "pairs")=some (.ref P)/\cm6 (sO "behind")=some (.ref Ba)/\cm6 (sO "count")=some (.int (cOf ns:Int) tc):=
  e2_5 _ _ I6 (by simp +decide [up]) (by simp +decide [up]) (by simp [up]) (by simp +decide [up])
 have F6:=I6.fs
 have off6:∀ a,a∈ft (lawEnv pm cd L 177) (lawEnv pm cd L 177).cells->b6.get? a=none:=λa ha=>I6.off a (.inl ha)
 have cells6:∀ (nn:Str) (c:Addr),(nn,c)∈(lawEnv pm cd L 177).cells->c∉[30,162,L]:=λnn c hc hm=>by
  have hcf:=mem_ft (env:=lawEnv pm cd L 177) hc
  replace hm:=mem3 hm
  rcases hm with h | h | h
  ·refine q1_1 (tb 30 (by simp)) λps e=>?_
   rw [← h,off6 c hcf] at e;cases e
  ·refine q1_1 (tb 162 (by simp)) λps e=>?_
   rw [← h,off6 c hcf] at e;cases e
  ·exact I6.fs.off _ _ hc h
 refine seq (Φ:=λfl s7=>fl=.next/\∃ s7' ev tt Bk bs,Ev [30,162,L] s6 s7'/\Grown s6.heap s7'.heap 30/\Grown s6.heap s7'.heap 162/\Run (psOf ns) (cOf ns) (oOf ns:Int) (lnOf ns) ev/\(∀ i,i<cOf ns->i∈outs ev/\i∈dns ev)/\
   s7'.heap.PlainList Bk (List.toArray bs)/\Paired (λe v=>IsBk e v s7'.heap) (bkFrom 0 ev) bs/\Ev (ft (lawEnv pm cd L 177) (lawEnv pm cd L 177).cells) s7' s7/\Fs s7'.heap (lawEnv pm cd L 177) (lawEnv pm cd L 177).cells m6 cm6/\
   Fs s7.heap (lawEnv pm cd L 177) (lawEnv pm cd L 177).cells (up (up m6 (sO "text") (.str ⟨(tCps ev).toArray⟩ tt)) (sO "book") (.ref Bk)) cm6) ?_ λfl s7 q=>?_
 ·show Wp w A (exec (.Assign [.Tuple [.Name _ _,.Name _ _] _ _] (.Call (.Name _ _) [_,_,_] [] _) _) (lawEnv pm cd L 177)) _ s6
  refine wpAny_Assign_stores ?_ rfl rfl
  refine eval_callF I6.le (I6.fs.glo (x:=sO "_law_record") (S.le (lb6.trans I6.le)).g C.rcd rfl rfl rfl) (S.le (lb6.trans I6.le)).f172.choose_spec.choose_spec
   (Yds.cons (Yd.namV (I6.fs.var (x:=sO "pairs") rfl rfl mp)) (Yds.two (Yd.namV (I6.fs.varC (x:=sO "behind") rfl rfl mB mb')) (Yd.namV (I6.fs.var (x:=sO "odd") rfl rfl mo))) rfl) λvs' s6' k hv=>?_
  refine v3 hv λy1 y2 y3 ey a1 a2 a3=>?_;subst ey
  cases a1;cases a2;cases a3
  have fr6:FrOk s6'.heap [lawEnv pm cd L 177]:=by
   intro e he
   rw [List.mem_singleton] at he
   subst he
   refine q3_3 ((I6.fs.le k.le).ns) λo' es ep h1 h2 _=>?_
   exact e0_2 (show ScopeKind.function≠ScopeKind.module from by decide) (e2_3 _ o' rfl h1 (λvs q=>by rw [h2] at q;cases q))
  refine (rec_call (n:=n) (b₀:=hideAll b6 tabs2) (H₁:=s₀.heap) (N:=cOf ns) (ls:=lsOf ns) (o:=(oOf ns:Int)) ok hdp hun hfr fr6 (λL' hL'=>by rw [hfrL L' hL'];exact hqn L (off6 L Lft)) (S.le lq) (lqs.trans k.le) C C2 SV ((l06.trans I6.le).trans k.le) (λL' hL'=>by rw [hfrL L' hL'];exact I.off L (.inl Lft))
   (λa ha=>⟨q1_1 ((htab a ha).1) λps e=>⟨_,e⟩,hideAll_none _ ha⟩) (nL (hP.at λo e=>l6.get _ _ e)) (Paired.imp (λp v x=>(x.le l6).of λc items h=>nT h) hPs) (hLL6.of (λc items h=>nL h) λc l h=>h.at λo e=>hideAll_get _ e (noT (.inl h.choose_spec.1.isList))) (by unfold lsOf;rw [List.length_map,List.length_range])
   (λl hl=>by
    refine q1_2 (List.mem_map.mp hl) λi _ z1=>?_;subst z1
    have:=cD_len (psOf ns) (cOf ns) i
    omega) (λp hp=>(ps_b ns p hp).1) (by omega) (by omega) (by omega)).to λv s7' q=>?_
  refine byC0 λzn=>?_;refine q0_5 q λEq Uq ga gb z1=>?_;clear q;refine q1_3 z1 λev hrun hall z2=>?_;clear z1;refine q4_2 z2 λT tt Bk bs z3 z4=>?_;clear z2;subst z3;refine q0_3 z4 λhT hB hbp=>?_;clear z4;refine zn ?_;clear zn
  have E67:Ev [30,162,L] s6 s7':=k.ev.trans (Eq.mono λa ha=>ha)
  have U67:Upf L s6 s7':=((Kp.ev (X:=[]) k).upf (by simp)).trans (Uq L (List.mem_singleton.mpr rfl))
  have F7:Fs s7'.heap (lawEnv pm cd L 177) (lawEnv pm cd L 177).cells m6 cm6:=Fs.upfC F6 U67 λnn c hc oo e=>E67.get c oo (cells6 nn c hc) e
  show Wp w A (assign (match nth (fBody (top 15)) 6 with | .Assign (t::_) _ _=>t | _=>.Constant .none 0 default) (lawEnv pm cd L 177) (.ref T)) _ s7'
  refine (asg_tup2 ok.hd F7 rfl rfl rfl hT).to λ_ s7 q=>?_
  have gk:∀ a,Grown s6'.heap s7'.heap a->(∃ oo,s6.heap.get? a=some oo)->Grown s6.heap s7'.heap a:=λa hg ⟨oo,e⟩=>by
   refine q2_2 hg λpp more e1 e2=>?_;clear hg
   have:=k.le.get _ _ e
   rw [e1] at this
   exact e2_2 pp more (by rw [this];exact e) e2
  exact e0_2 rfl (e5_10 s7' ev tt Bk bs E67 (gk 30 ga (q1_1 (tb 30 (by simp)) λps e=>⟨_,I6.le.get _ _ e⟩)) (gk 162 gb (q1_1 (tb 162 (by simp)) λps e=>⟨_,I6.le.get _ _ e⟩)) hrun hall hB hbp q.1 F7 q.2)
 ·refine byC0 λzn=>?_;refine q0_2 q λz1 z2=>?_;clear q;subst z1;refine q5_9 z2 λs7' ev tt Bk bs E67 ga gb hrun hall hB hbp E7 z3=>?_;clear z2;refine q0_2 z3 λF7 F8=>?_;clear z3;refine zn ?_;clear zn
  have k7:∀ a o,a∉ft (lawEnv pm cd L 177) (lawEnv pm cd L 177).cells->s7'.heap.get? a=some o->(hideAll s7.heap (ft (lawEnv pm cd L 177) (lawEnv pm cd L 177).cells)).get? a=some o:=λa o h e=>hideAll_get _ (E7.get a o h e) h
  have tabft:∀ a∈tabs2,a∉ft (lawEnv pm cd L 177) (lawEnv pm cd L 177).cells:=λa ha hm=>by
   refine q1_1 (tb a ha) λps e=>?_
   rw [off6 a hm] at e;cases e
  have lq7:Le (hideAll b6 tabs2) (hideAll s7.heap (ft (lawEnv pm cd L 177) (lawEnv pm cd L 177).cells)):=⟨λa o e=>by
   have eb:=of_hideAll _ e
   have hnt:a∉tabs2:=λhm=>by rw [hideAll_none _ hm] at e;cases e
   have hnf:a∉ft (lawEnv pm cd L 177) (lawEnv pm cd L 177).cells:=λhm=>by rw [off6 a hm] at eb;cases eb
   refine k7 a o hnf (E67.get a o (λhm=>?_) (I6.le.get _ _ eb))
   replace hm:=mem3 hm
   rcases hm with h | h | h
   ·exact hnt (by simp [h])
   ·exact hnt (by simp [h])
   ·exact hnf (h▸Lft)⟩
  have gr:∀ a∈tabs2,Grown s6.heap s7'.heap a->Grown s₀.heap s7.heap a:=λa ha hg=>by
   refine byC0 λzn=>?_
   refine q2_2 hg λpp more e1 e2=>?_;clear hg
   refine q1_1 ((htab a ha).1) λps e3=>?_
   refine zn ?_;clear zn
   have:=(l06.trans I6.le).get _ _ e3
   rw [e1] at this
   exact e2_2 pp more (by rw [this];exact e3) (E7.get _ _ (tabft a ha) e2)
  have hf0:∀ a o,s₀.heap.get? a=some o->a∉ft (lawEnv pm cd L 177) (lawEnv pm cd L 177).cells:=λa o e=>I.notft e
  refine hk s7 (hideAll s7.heap (ft (lawEnv pm cd L 177) (lawEnv pm cd L 177).cells)) _ cm6 ev ⟨?_,λa o hnt e=>?_,gr 30 (by simp) ga,gr 162 (by simp) gb,⟨e2_1 _ _ rfl,⟨λa o e=>of_hideAll _ e⟩,F8,λa ha=>hideAll_none _ (ha.elim id λh=>(nomatch h)),λa ha=>(nomatch ha),λa ha=>(nomatch ha)⟩,lq.trans lq7,λa o h e=>hideAll_get _ e h,hf0,hrun,hall,⟨tt,by simp +decide [up]⟩,e2_3 Bk bs (by simp [up]) (hB.at λo e=>k7 _ _ (F7.noList hB.isList) e) (Paired.imp (λe v x=>x.of λc items h=>h.at λo e=>k7 _ _ (F7.noTuple h) e) hbp),
   e1_2 Ba mb' ((hLL6.of (λc items h=>nL h) λc l h=>h.at λo e=>hideAll_get _ e (noT (.inl h.choose_spec.1.isList))).le lq7),⟨tc,mc⟩,⟨td,by simp +decide [up];exact mo⟩⟩
  ·exact same_trans I6.same (same_trans E67.same E7.same)
  ·refine E7.get a o (hf0 a o e) (E67.get a o (λhm=>?_) ((l06.trans I6.le).get _ _ e))
   replace hm:=mem3 hm
   rcases hm with h | h | h
   ·exact hnt (by simp [h])
   ·exact hnt (by simp [h])
   ·exact hf0 a o e (h▸Lft)
theorem zall:∀ p,zR p:=all1 zaux
end
end Z12
theorem law_front {w A s₀ s b₀ pm cd L m cm mg mb mN K n ns vs a Q}:Z12.zQ w A s₀ s b₀ pm cd L m cm mg mb mN K n ns vs a Q:=Z12.zall ((((w,A),(s₀,s)),((b₀,pm),(cd,(L,m)))),(((cm,mg),(mb,(mN,K))),((n,ns),(vs,(a,Q)))))
end
section
open PySem PySem.Calls PyProof.Rows PySem.W PySem.W.X PySem.SeqAt
theorem rdU_bk:∀ (ev:List Evt) (n:Nat),rdU n false (tCps ev)=(bkFrom n ev).map λp=>(p.1,uCps p.2)
 | [],n=>rfl
 | (true,i)::r,n=>by
  have e:tCps ((true,i)::r)=92::(97+i)::tCps r:=by simp [tCps,uCps]
  rw [e,rdU,if_pos rfl,rdU,rdU_bk r]
  rfl
 | (false,i)::r,n=>by
  have e:tCps ((false,i)::r)=(97+i)::tCps r:=by simp [tCps,uCps]
  rw [e,rdU,if_neg (by omega),rdU_bk r]
  rfl
theorem flU_bk:∀ (ev:List Evt),flU false (tCps ev)=false
 | []=>rfl
 | (true,i)::r=>by
  have e:tCps ((true,i)::r)=92::(97+i)::tCps r:=by simp [tCps,uCps]
  rw [e,flU,if_pos rfl,flU,flU_bk r]
 | (false,i)::r=>by
  have e:tCps ((false,i)::r)=(97+i)::tCps r:=by simp [tCps,uCps]
  rw [e,flU,if_neg (by omega),flU_bk r]
theorem tCps_ascii {ev:List Evt} (h:∀ e∈ev,e.2<6):(⟨(tCps ev).toArray⟩:Str).cps.all (·<128)=true:=by
 rw [← Array.all_toList,List.all_eq_true]
 intro x hx
 have hx':x∈tCps ev:=by simpa using hx
 refine q1_2 (List.mem_flatMap.mp hx') λe he hxe=>?_
 have:=h e he
 unfold uCps at hxe
 split at hxe
 ·simp at hxe;simp;omega
 ·simp at hxe;simp;omega
theorem run_lt6 {ps:List (Nat×Nat)} {N:Nat} {o:Int} {ln:Nat->Nat} {ev:List Evt} (h:Run ps N o ln ev):∀ e∈ev,e.2<N:=by
 intro e he
 rcases e with ⟨c,j⟩
 cases c with
 | false=>exact h.lt j (mem_outs.mpr he)
 | true=>exact h.lt j (h.sub j (mem_dns.mpr he))
noncomputable def unD (u:Nat×List Nat):PyData:=.tuple [.int (u.1:Int),.str ⟨u.2.toArray⟩]
theorem IsUn.reads {u:Nat×List Nat} {v:Value} {h:Heap} (x:IsUn u v h):Reads h v (unD u) []:=by
 refine q2_2 x λT vs z1 z2=>?_;clear x;subst z1;refine q0_2 z2 λz3 hp=>?_;clear z2;refine q1_3 z3 λo e c z4=>?_;clear z3;refine q1_1 z4 λn d=>?_;clear z4
 refine v2 hp λy1 y2 ey a a'=>?_;subst ey
 refine byC0 λzn=>?_
 refine q1_1 a λt z1=>?_;clear a;subst z1
 refine q1_1 a' λt' z1=>?_;clear a';subst z1
 refine zn ?_;clear zn
 exact Reads.tuple (n:=n) (as:=[]) e c d (by simpa using ReadsAll.cons (Reads.int _ t) (ReadsAll.cons (Reads.str _ t') ReadsAll.nil))
theorem readsAll_un {h:Heap}:∀ {U:List (Nat×List Nat)} {vs:List Value},Paired (λu v=>IsUn u v h) U vs->ReadsAll h vs (U.map unD) []:=by
 intro _ _ h
 induction h with
 | nil=>exact .nil
 | cons a t ih=>simpa using ReadsAll.cons a.reads ih
theorem depthAll_un:∀ U:List (Nat×List Nat),PyData.depthAll (U.map unD)<=2
 | []=>by simp [PyData.depthAll]
 | u::r=>by
  have:=depthAll_un r
  simp only [List.map_cons,PyData.depthAll,unD,PyData.depth]
  omega
theorem canLay_un:∀ U:List (Nat×List Nat),(∀ u∈U,∀ x∈u.2,x<128)->PyData.canLayAll0 (U.map unD)=true
 | [],_=>by simp [PyData.canLayAll0]
 | u::r,h=>by
  have h1:PyData.strOk ⟨u.2.toArray⟩=true:=by
   unfold PyData.strOk
   rw [← Array.all_toList,List.all_eq_true]
   intro x hx
   have:=h u (zH ..) x (by simpa using hx)
   simp;omega
  simp [PyData.canLayAll0,PyData.canLay0,unD,canLay_un r (λu hu=>h u (zT hu)),h1]
theorem shaped_un (U:List (Nat×List Nat)) (h:∀ u∈U,∀ x∈u.2,x<128):shaped (.list (U.map unD))=true:=by
 have h1:=depthAll_un U
 have h2:PyData.depth (.list (U.map unD))<=64:=by simp only [PyData.depth];omega
 show (PyData.canLay0 (.list (U.map unD)) && decide (PyData.depth (.list (U.map unD))<=64))=true
 rw [Bool.and_eq_true]
 exact⟨by simp only [PyData.canLay0];exact canLay_un U h,decide_eq_true h2⟩
theorem noMix_un:∀ U:List (Nat×List Nat),noMixAll (U.map unD) (U.map unD)=true
 | []=>by simp [noMixAll]
 | u::r=>by simp [noMixAll,noMix,unD,noMix_un r]
theorem same_un:∀ U:List (Nat×List Nat),PySem.Spec.sameAll (U.map unD) (U.map unD)=true
 | []=>by simp [PySem.Spec.sameAll]
 | u::r=>by simp [PySem.Spec.sameAll,PySem.Spec.same,unD,same_un r]
theorem un_ascii {ev:List Evt} (h:∀ e∈ev,e.2<6):∀ u∈(bkFrom 0 ev).map (λp=>(p.1,uCps p.2)),∀ x∈u.2,x<128:=by
 have key:∀ (ev:List Evt) (n:Nat),(∀ e∈ev,e.2<6)->∀ u∈(bkFrom n ev).map (λp=>(p.1,uCps p.2)),∀ x∈u.2,x<128:=by
  intro ev
  induction ev with
  | nil=>intro n _ u hu;cases hu
  | cons e r ih=>
   intro n h u hu x hx
   (rcases zC hu with rfl | hu)
   ·have:=h e (zH ..)
    have hx':x∈uCps e:=hx
    unfold uCps at hx'
    split at hx'
    ·simp at hx';omega
    ·simp at hx';omega
   ·exact ih _ (λe he=>h e (zT he)) u hu x hx
 exact key ev 0 h
section
variable {w:World} {A:Around} {s₀:Shared} {b₀ b7:Heap} {pm cd:Value} {L:Addr} {m cm:SoV} {mg mb mN:SoV} {K:Frag} {ev:List Evt} {ns:List Int}
theorem law_units {n:Nat} {s7:Shared} {Q:Flow->Shared->Prop} (ok:Ok n A) (hu:A.units+64<cLine) (S:St w mg mb mN K b₀) (C:Con mg mb mN K) (F28:∃ pm cd,FnAt b₀ 28 (gnFd pm cd)) (Z:Fr7 w ns s₀ s7 b₀ b7 pm cd L m cm ev)
  (hk:∀ s8 b8 v,(∃ h' tk',s8={ s7 with heap:=h',toks:=tk',gens:=s7.gens.push .finished })->Le b7 b8->InF s8 b8 [] (lawEnv pm cd L 177) (lawEnv pm cd L 177).cells (up m (sO "units") v) cm s8->IsL (λu v g=>IsUn u v g) ((bkFrom 0 ev).map λp=>(p.1,uCps p.2)) v b8->
   Wp w A (execs ((fBody (top 15)).drop 9) (lawEnv pm cd L 177)) Q s8) :
  Wp w A (execs ((fBody (top 15)).drop 7) (lawEnv pm cd L 177)) Q s7:=by
 refine byC0 λzn=>?_
 refine q1_1 (Z.text) λtt htext=>?_
 refine q2_3 (Z.book) λBk bs mbk hB hbp=>?_
 have I:=Z.inF
 have lb:=Z.low.trans I.le
 have hc:=cOf_b ns
 have evl:=run_len Z.run
 refine q2_1 F28 λpm' cd' z1=>?_;clear F28;revert z1;intro F28
 refine zn ?_;clear zn
 have hU:=rdU_bk ev 0
 refine seqn (ex_units (n:=n) (str:=⟨(tCps ev).toArray⟩) (t:=tt) ok S C I Z.low rfl rfl (I.fs.glo (x:=sO "_iter_escaped_chars") (S.le lb).g C.esc rfl rfl rfl) (F28.le lb) (I.fs.var (x:=sO "text") rfl rfl htext) (tCps_ascii λe he=>by have:=run_lt6 Z.run e he;omega) (by simpa using flU_bk ev) (by simp only;rw [hU,List.length_map,bkFrom_len];omega)
  rfl rfl rfl (by decide) (λ_=>rfl) (λ_=>rfl) (λ_=>rfl) (by decide) (by decide) (by decide) rfl (λ_=>rfl)) λs8 q=>?_
 refine byC0 λzn=>?_
 refine q0_3 q λhs hkeep z1=>?_;clear q;refine q2_3 z1 λv b8 l8 I8 hv=>?_;clear z1
 have hv':IsL (λu v g=>IsUn u v g) ((bkFrom 0 ev).map λp=>(p.1,uCps p.2)) v b8:=by
  have e:rdU 0 false (⟨(tCps ev).toArray⟩:Str).cps.toList=(bkFrom 0 ev).map λp=>(p.1,uCps p.2):=hU
  rw [← e];exact hv
 refine q2_2 (id hv') λD ys z1 z2=>?_;subst z1;refine q0_2 z2 λhD hys=>?_;clear z2
 refine zn ?_;clear zn
 have hbp':Paired (λu v=>IsUn u v b8) ((bkFrom 0 ev).map λp=>(p.1,uCps p.2)) bs:=Paired.map_left (F:=λu v=>IsUn u v b8) (λ(p:Nat×Evt)=>(p.1,uCps p.2)) (Paired.imp (λe v x=>(show IsBk e v b8 from x.le l8)) hbp)
 refine seqk (ex_if (r:=false) I8.le (Td.cmp (P₁:=IsV (.ref D)) (P₂:=IsV (.ref Bk)) (Yd.namV (I8.fs.var (x:=sO "units") rfl rfl (by simp [up]))) (Yd.namV (I8.fs.var (x:=sO "book") (v:=.ref Bk) rfl rfl (by simp +decide [up];exact mbk))) (λu v s lb8 _ hu' hv'=>by
  cases hu';cases hv'
  refine byC0 λzn=>?_
  refine q1_3 (hD.isList) λo1 e1 c1 z1=>?_;refine q1_1 z1 λn1 d1=>?_;clear z1
  refine q1_3 (hB.isList:b7.IsList Bk _) λo2 e2 c2 z1=>?_;refine q1_1 z1 λn2 d2=>?_;clear z1
  refine zn ?_;clear zn
  have r1:Reads s.heap (.ref D) (.list (((bkFrom 0 ev).map λp=>(p.1,uCps p.2)).map unD)) [D]:=Reads.list (lb8.get _ _ e1) c1 d1 (readsAll_un (Paired.imp (λu v x=>x.le lb8) hys))
  have r2:Reads s.heap (.ref Bk) (.list (((bkFrom 0 ev).map λp=>(p.1,uCps p.2)).map unD)) [Bk]:=Reads.list ((l8.trans lb8).get _ _ e2) c2 d2 (by simpa using readsAll_un (Paired.imp (λu v x=>x.le lb8) hbp'))
  have ha:=un_ascii (ev:=ev) λe he=>by have:=run_lt6 Z.run e he;omega
  refine ne_dataH_same r1 r2 (shaped_un _ ha) (shaped_un _ ha) hu (by rw [noMix];exact noMix_un _) ⟨Kp.refl s,?_⟩
  rw [PySem.Spec.same,same_un];rfl)) λs9 k9=>?_)
 simp only [Bool.false_eq_true,if_false]
 refine nil_ (hk s9 b8 (.ref D) ?_ l8 ?_ hv')
 ·refine byC0 λzn=>?_
  refine q2_1 hs λh' tk' z1=>?_;clear hs;subst z1
  refine q2_1 (k9.same) λh2 tk2 z1=>?_;subst z1
  refine zn ?_;clear zn
  exact e2_1 h2 tk2 rfl
 ·have I9:=I8.kp k9
  exact⟨e2_1 _ _ rfl,I9.le,I9.fs,I9.off,I9.live,I9.apart⟩
end
end
section
variable {w:World} {A:Around} {R:Result->Shared->Prop} {s:Shared}
theorem compLoop_dict {kx vx target iter:Expr} {scope:Scope} {pos:Pos} {it:Value} {D:Addr} {env:Env} (I:Nat->Shared->Prop)
  (turn:∀ n s,I n s->Wp w A (pyNext it) (λr s1=>match r with
   | none=>R (.ok .next) s1
   | some v=>Wp w A (letOwnedTupleGo target it v) (λ_ s1'=>Wp w A (assign target env v) (λ_ s2=>Wp w A (eval kx env) (λkv s4=>Wp w A (eval vx env) (λvv s5=>
       Wp w A (dictSet D kv vv) (λ_ s6=>∃ m,m<n/\I m s6) s5) s4) s2) s1') s1) s)
  (n:Nat) (h:I n s) :
  codeAny (model Pg w) A (.compLoop (.DictComp kx vx [⟨target,iter,[],0⟩] scope pos) 0 it (.ref D) env) R s:=by
 refine codeAny_loop rfl I (λn s hI=>?_) n h
 show wpAny _ A ((compTurn (.DictComp kx vx [⟨target,iter,[],0⟩] scope pos) 0 it (.ref D) env).onRaise (λx=>do noteFrame x env;theTreesLotGoes x)) _ _ s
 refine wpAny_noted ?_
 rw [compTurn_dict]
 refine wpAny_bind (wpAny_standAt (wpAny_bind (Wp.to (turn n s hI) (λr s1 h₁=>?_))))
 cases r with
 | none=>exact wpAny_pure h₁
 | some v=>
  refine wpAny_bind (Wp.to h₁ λ_ s1' h1'=>wpAny_bind (Wp.to h1' λ_ s2 h₂=>?_))
  refine wpAny_bind (wpAny_tests_nil ?_)
  exact wpAny_bind (wpAny_bind (Wp.to h₂ λkv s4 h4=>wpAny_bind (wpAny_holding (Wp.to h4 λvv s5 h5=>wpAny_bind (wpAny_standAt (wpAny_holding (Wp.to h5 λ_ s6 h6=>wpAny_pure ⟨rfl,h6⟩)))))))
end
theorem valueAtS_app_old {kv:List (Str×Value)} {k:Str} {u v:Value} {j:Str} (h:valueAt kv j=some v):valueAt (kv++[(k,u)]) j=some v:=by
 unfold valueAt at h ⊢
 rw [List.find?_append]
 cases e:kv.find? λx=>x.1=j with
 | none=>rw [e] at h;cases h
 | some p=>rw [e] at h;exact h
theorem valueAtS_app_new {kv:List (Str×Value)} {k:Str} {u:Value} (h:k∉kv.map (·.1)):valueAt (kv++[(k,u)]) k=some u:=by
 unfold valueAt
 rw [List.find?_append]
 have:kv.find? (λx=>x.1=k)=none:=by
  rw [List.find?_eq_none]
  intro x hx
  simp
  exact λe=>h (List.mem_map.mpr (e1_2 x hx e))
 rw [this]
 simp
theorem storedS_new {kv:List (Str×Value)} {k:Str} {u:Value} (h:k∉kv.map (·.1)):stored kv k u=kv++[(k,u)]:=by
 unfold stored
 rw [if_neg]
 intro hm
 rw [List.any_eq_true] at hm
 refine q1_2 hm λx hx e=>?_;clear hm
 exact h (List.mem_map.mpr (e1_2 x hx (of_decide_eq_true e)))
noncomputable def ukey (u:Nat×List Nat):Str:=⟨u.2.toArray⟩
noncomputable def IsPl (w:World) (U:List (Nat×List Nat)) (v:Value) (g:Heap):Prop:=∃ D kv,v=.ref D/\g.DictOf (strKind Pg w) D kv/\∀ u∈U,∃ t,valueAt kv (ukey u)=some (.int (u.1:Int) t)
namespace Z14
noncomputable section
def zQ (w:World) (A:Around) (b r:Heap) (env:Env) (un pl:Str) (up pp tu tp t0 pos:Pos) (k:Nat) (iter:PySem.Expr) (sc:Scope) (U:List (Nat×List Nat)):Prop:=∀ (hA:A.handled=Option.none) (hsz:U.length<=1000) (hnd:(U.map ukey).Nodup) (hclos:closureFor sc env=pure []) (hkind:sc.kind=.function) (hnames:∀ x∈sc.names,x.2=.local->sc.names.lookup x.1=some .local) (hown:∀ n,ownCells n sc.names []=[]) (h1:∀ Cc,(compE sc Cc [] env).kindOf un=some .local) (h2:∀ Cc,(compE sc Cc [] env).kindOf pl=some .local) (h3:∀ Cc,(compE sc Cc [] env).scope.kind=.function) (hd1:(un == ("__debug__" : Str))=false) (hd2:(pl == ("__debug__" : Str))=false) (hne:un≠pl) (hbr:Le b r) (hsrc:Src w A r r env iter U (λu v=>IsUn u v r)),Yd w A b r env (.DictComp (.Name un up) (.Name pl pp) [⟨.Tuple [.Name pl tp,.Name un tu] k t0,iter,[],0⟩] sc pos) (IsPl w U)
abbrev zY:=((((World×Around)×(Heap×Heap))×((Env×Str)×(Str×Pos)))×(((Pos×Pos)×(Pos×Pos))×((Pos×Nat)×(PySem.Expr×(Scope×(List (Nat×List Nat)))))))
def zR (p:zY):=zQ p.1.1.1.1 p.1.1.1.2 p.1.1.2.1 p.1.1.2.2 p.1.2.1.1 p.1.2.1.2 p.1.2.2.1 p.1.2.2.2 p.2.1.1.1 p.2.1.1.2 p.2.1.2.1 p.2.1.2.2 p.2.2.1.1 p.2.2.1.2 p.2.2.2.1 p.2.2.2.2.1 p.2.2.2.2.2
def zc:zY:=eps1 (neP (neP (neP (neP neW neA) neI) neI) neI) zR
def w:=zc.1.1.1.1
def A:=zc.1.1.1.2
def b:=zc.1.1.2.1
def r:=zc.1.1.2.2
def env:=zc.1.2.1.1
def un:=zc.1.2.1.2
def pl:=zc.1.2.2.1
def up:=zc.1.2.2.2
def pp:=zc.2.1.1.1
def tu:=zc.2.1.1.2
def tp:=zc.2.1.2.1
def t0:=zc.2.1.2.2
def pos:=zc.2.2.1.1
def k:=zc.2.2.1.2
def iter:=zc.2.2.2.1
def sc:=zc.2.2.2.2.1
def U:=zc.2.2.2.2.2
theorem zaux:zQ w A b r env un pl up pp tu tp t0 pos k iter sc U:=by
 intro hA hsz hnd hclos hkind hnames hown h1 h2 h3 hd1 hd2 hne hbr hsrc
 intro s hb hr
 rw [arm_eval_DictComp]
 refine wpAny_comprehension_free (use:=Option.none) rfl hsrc.1 hclos hkind hnames ?_
 refine (hsrc.2 s hr hr).to λx s1 q1=>?_
 refine Wp.to q1.2 λit s2 q2=>?_
 refine byC0 λzn=>?_;refine q3_2 q2 λI fp St z1 z2=>?_;clear q2;subst z1;refine q0_7 z2 λW st0 k2 hI lv hf go=>?_;clear z2;refine zn ?_;clear zn
 have k12:=q1.1.trans k2
 refine wpAny_newObj_type (newEnv_comp λCc h4 hC l4 hns4 ok4 hCs=>?_)
 dsimp only at hC l4 hns4 ok4 hCs ⊢
 rw [hown]
 have hDnew:(s2.heap.push { cls:=.type "dict",dict:=Option.none,data:=.dict #[] }).DictOf (strKind Pg w) s2.heap.objs.size []:=Heap.DictOf.new s2.heap
 generalize hH:s2.heap.push { cls:=.type "dict",dict:=Option.none,data:=.dict #[] }=H at hC l4 hns4 ok4 hCs hDnew ⊢
 have l2H:Le s2.heap H:=by rw [← hH];exact Le.push _ _
 have l24:Le s2.heap h4:=l2H.trans l4
 have hD2:s2.heap.get? s2.heap.objs.size=Option.none:=get_size_none _
 have hDlive:∃ o,H.get? s2.heap.objs.size=some o:=q3_2 hDnew λo _ _ e _=>⟨o,e⟩
 have hD4:h4.DictOf (strKind Pg w) s2.heap.objs.size []:=hDnew.at λo e=>l4.get _ _ e
 generalize s2.heap.objs.size=D at hD2 hDlive hD4
 have hDC:D≠Cc:=λe=>by refine q1_1 hDlive λo q=>?_;clear hDlive;rw [e,hC] at q;cases q
 have hC2:s2.heap.get? Cc=Option.none:=l2H.none hC
 have hIl:∃ o,s2.heap.get? I=some o:=lv 0 _ st0
 have hIs:s.heap.get? I=Option.none:=q1.1.le.none hI
 have hDs:s.heap.get? D=Option.none:=k12.le.none hD2
 have hCsn:s.heap.get? Cc=Option.none:=k12.le.none hC2
 have hID:I≠D/\I≠Cc:=by
  refine q1_1 hIl λo q=>?_;clear hIl
  exact⟨λz=>(by rw [z,hD2] at q;cases q),λz=>(by rw [z,hC2] at q;cases q)⟩
 have F4:Fs h4 (compE sc Cc [] env) [] (λ_=>Option.none) (λ_=>Option.none):=⟨hns4,λ_ _ h=>(nomatch h),λ_ _ h=>(nomatch h),.nil,λ_ _ h=>(nomatch h)⟩
 have k4:Kp s { s2 with heap:=h4 }:=k12.trans (Kp.mk' l24)
 have fpn:∀ c∈fp,c≠D/\c≠Cc:=λc hc=>by
  by_cases e:c=I
  ·rw [e];exact hID
  ·refine q1_1 (hf c hc e) λo q=>?_
   have q':=k12.le.get _ _ (hr.get _ _ q)
   exact⟨λz=>(by rw [z,hD2] at q';cases q'),λz=>(by rw [z,hC2] at q';cases q')⟩
 have loop:codeAny (model Pg w) A (.compLoop (.DictComp (.Name un up) (.Name pl pp) [⟨.Tuple [.Name pl tp,.Name un tu] k t0,iter,[],0⟩] sc pos) 0 (.ref I) (.ref D) (compE sc Cc [] env))
   (compPost (model Pg w) A Bot Option.none (λv s'=>Kp s s'/\∀ g,Le b g->Nw s s' g->IsPl w U v g) (.ref D) Cc) { s2 with heap:=h4 }:=by
  refine compLoop_dict (λn s'=>∃ i m' cm' kv,n=U.length+1-i/\i<=U.length/\St i s'.heap/\Ev [I,D,Cc] { s2 with heap:=h4 } s'/\Fs s'.heap (compE sc Cc [] env) [] m' cm'/\s'.heap.DictOf (strKind Pg w) D kv/\kv.map (·.1)=(U.take i).map ukey/\∀ u∈U.take i,∃ t,valueAt kv (ukey u)=some (.int (u.1:Int) t)) ?turn (U.length+1)
   (e4_8 0 _ _ [] (by omega) (Nat.zero_le _) (W.frame _ _ _ st0 λc _ o e=>l24.get c o e) (Ev.refl _ _) F4 hD4 rfl (λu hu=>by simp at hu))
  (intro n s' zr;refine byC0 λzn=>?_;refine q4_2 zr λi m' cm' kv z1 z2=>?_;clear zr;subst z1;refine q0_7 z2 λhi st E F' hD' hk1 hk2=>?_;clear z2;refine zn ?_;clear zn)
  by_cases hlt:i<U.length
  ·refine W.item i _ _ _ hlt st λv h₁ tk1 hPv st1 hk₁=>?_
   refine q1_2 hPv λu hu hun=>?_;clear hPv
   dsimp only
   refine (go i v _ { s' with heap:=h₁,toks:=tk1 } (e1_2 u hu hun) st1).to λ_ s3 e3=>?_
   subst e3
   have keepS:∀ {a:Addr} {o:Obj},s.heap.get? a=some o->h₁.get? a=some o:=λ{a o} e=>by
    have e4:=k4.le.get _ _ e
    refine hk₁ a o (λhm=>?_) (E.get a o (λhm=>?_) e4)
    ·rw [zS hm,hIs] at e;cases e
    ·replace hm:=mem3 hm
     (rcases hm with z0 | z0 | z0)<;>(replace z0:=Eq.symm z0;subst z0)
     ·rw [hIs] at e;cases e
     ·rw [hDs] at e;cases e
     ·rw [hCsn] at e;cases e
   have hun1:IsUn u v h₁:=hun.le ⟨λa o e=>keepS (hr.get _ _ e)⟩
   refine byC0 λzn=>?_;refine q2_2 hun1 λT vs z1 z2=>?_;clear hun1;subst z1;refine q0_2 z2 λhT hvs=>?_;clear z2;refine zn ?_;clear zn
   have F1:Fs h₁ (compE sc Cc [] env) [] m' cm':=F'.get λc hc o e=>hk₁ c o (λhm=>by rw [zS hm] at hc;exact hID.2 (zS hc)) e
   refine v2 hvs λy1 y2 ey a1 a2=>?_;subst ey
   refine byC0 λzn=>?_
   refine q1_1 a1 λta z1=>?_;clear a1;subst z1
   refine q1_1 a2 λtb z1=>?_;clear a2;subst z1
   refine zn ?_;clear zn
   refine (asg_tup2 (s:={ s' with heap:=h₁,toks:=tk1 }) hA F1 (h3 Cc) (h2 Cc) (h1 Cc) hT).to λ_ s4 q4=>?_
   refine q0_2 q4 λE4 F4'=>?_;clear q4
   refine wpAny_Name ((F4'.var (x:=un) (v:=.str ⟨u.2.toArray⟩ tb) (h3 Cc) (h1 Cc) (by simp [Mine.Internal.up])) w A s4 _ _ (Le.refl _) ?_) hd1
   refine wpAny_Name ((F4'.var (x:=pl) (v:=.int (u.1:Int) ta) (h3 Cc) (h2 Cc) (by simp [Mine.Internal.up,hne.symm])) w A s4 _ _ (Le.refl _) ?_) hd2
   have hD5:s4.heap.DictOf (strKind Pg w) D kv:=(hD'.at λo e=>hk₁ D o (λhm=>hID.1 (zS hm).symm) e).at λo e=>E4.get D o (λhm=>hDC (zS hm)) e
   have hkl:kv.length=i:=by have:=congrArg List.length hk1;simp [List.length_take] at this;omega
   have htk:U.take (i+1)=U.take i++[u]:=by rw [List.take_add_one,hu];rfl
   have hnew:ukey u∉kv.map (·.1):=by
    rw [hk1]
    have hn2:((U.take (i+1)).map ukey).Nodup:=hnd.sublist (List.Sublist.map _ (List.take_sublist ..))
    rw [htk,List.map_append,List.nodup_append] at hn2
    exact λhm=>hn2.2.2 _ hm _ (by simp) rfl
   refine wpAny_dictSet_pairs (knd:=strKind Pg w) (k:=ukey u) (by simp [PySem.strKind,ukey,Value.isStrOf]) hD5 (λh' hd' hs'=>?_) (by rw [sizeLine_eq];omega)
   rw [storedS_new hnew] at hd'
   have st4:St (i+1) h':=W.frame _ _ _ st1 λc hc o e=>hs'.extBut c o (fpn c hc).1 (E4.get c o (λhm=>(fpn c hc).2 (zS hm)) e)
   refine e1_2 (U.length+1-(i+1)) (by omega) (e4_8 (i+1) _ _ _ rfl hlt st4 ⟨?_,λc o hc e=>?_⟩ (F4'.get λc hc o e=>hs'.extBut c o (λz=>hDC (by rw [← z];exact zS hc)) e) hd' ?_ (λu' hu'=>?_))
   ·exact same_trans (same_trans E.same (e2_1 h₁ tk1 rfl)) (same_trans E4.same (e2_1 _ _ rfl))
   ·have hc':c≠I/\c≠D/\c≠Cc:=⟨λz=>hc (by simp [z]),λz=>hc (by simp [z]),λz=>hc (by simp [z])⟩
    exact hs'.extBut c o hc'.2.1 (E4.get c o (λhm=>hc'.2.2 (zS hm)) (hk₁ c o (λhm=>hc'.1 (zS hm)) (E.get c o hc e)))
   ·rw [htk,List.map_append,List.map_append,hk1];rfl
   ·rw [htk] at hu'
    rcases List.mem_append.mp hu' with hu' | hu'
    ·refine q1_1 (hk2 u' hu') λt e=>?_
     exact⟨t,valueAtS_app_old e⟩
    ·rw [zS hu']
     exact⟨ta,valueAtS_app_new hnew⟩
  ·have hin:i=U.length:=by omega
   subst hin
   refine W.done _ _ _ st λh₁ tk1 hk₁=>?_
   dsimp only
   rw [List.take_length] at hk2
   have hns:h₁.Ns Cc m':=F'.ns.at' λo e=>hk₁ Cc o (λhm=>hID.2 (zS hm).symm) e
   refine e1_2 m' hns (λh' hs'=>?_)
   have keepS:∀ {a:Addr} {o:Obj},s.heap.get? a=some o->h'.get? a=some o:=λ{a o} e=>by
    have e4:=k4.le.get _ _ e
    refine hs'.extBut a o (λz=>by rw [z,hCsn] at e;cases e) (hk₁ a o (λhm=>?_) (E.get a o (λhm=>?_) e4))
    ·rw [zS hm,hIs] at e;cases e
    ·replace hm:=mem3 hm
     (rcases hm with z0 | z0 | z0)<;>(replace z0:=Eq.symm z0;subst z0)
     ·rw [hIs] at e;cases e
     ·rw [hDs] at e;cases e
     ·rw [hCsn] at e;cases e
   have hDf:h'.DictOf (strKind Pg w) D kv:=(hD'.at λo e=>hk₁ D o (λhm=>hID.1 (zS hm).symm) e).at λo e=>hs'.extBut D o hDC e
   refine⟨⟨same_trans k4.same (same_trans E.same (e2_1 h' tk1 rfl)),⟨λa o e=>keepS e⟩⟩,λg hg nw=>e2_3 D kv rfl (hDf.at λo e=>nw.get _ _ hDs e) hk2⟩
 exact codeAny_compStart_dict loop (W.self 0 _ _ _ (W.frame _ _ _ st0 λc _ o e=>l24.get c o e) loop)
theorem zall:∀ p,zR p:=all1 zaux
end
end Z14
theorem Yd.places {w A b r env un pl up pp tu tp t0 pos k iter sc U}:Z14.zQ w A b r env un pl up pp tu tp t0 pos k iter sc U:=Z14.zall ((((w,A),(b,r)),((env,un),(pl,up))),(((pp,tu),(tp,t0)),((pos,k),(iter,(sc,U)))))
section
variable {w:World} {A:Around} {s:Shared} {b h:Heap} {env:Env}
theorem Subscript_any {M:Model} {E:Value->Shared->Prop} {value e:Expr} {pos:Pos} {Q:Value->Shared->Prop}
  (h:wpAny M A (eval value env) (λo s1=>wpAny M A (eval e env) (λi s2=>ItemOn M A E o i Q s2) E s1) E s)
  (hsub:∀ o i,subscripted e false o i=operate [o,i] (getItem o i)) (ht:∀ o r,letTemporaryGo value o r=pure ()):wpAny M A (eval (.Subscript value e pos) env) Q E s:=by
 rw [eval_Subscript]
 refine wpAny_bind (wpAny_mono h (λo s1 h₁=>?_) λ_ _ x=>x)
 refine wpAny_bind (wpAny_holding (wpAny_mono h₁ (λi s2 h₂=>wpAny_bind (wpAny_standAt ?_)) λ_ _ x=>x))
 refine q2_3 h₂ λT id hl hT hg=>?_;clear h₂
 refine wpAny_bind ?_
 rw [getitemInPython_of_ne hT.not_modules]
 refine wpAny_bind (wpAny_specialOf hT hl (wpAny_pure (wpAny_bind ?_)))
 rw [hsub]
 exact wpAny_operating (wpAny_mono hg (λr s3 h₃=>wpAny_bind (wpAny_of_eq (ht o r) (wpAny_pure h₃))) λ_ _ x=>x)
theorem Yd.dsubS {o e:Expr} {pos:Pos} {d:Addr} {kvs:List (Str×Value)} {k:Str} {v:Value} (hd:h.DictOf (PySem.strKind Pg w) d kvs) (ho:Yd w A b h env o (IsV (.ref d))) (hn:Yd w A b h env e (IsS k)) (hv:valueAt kvs k=some v)
  (hsub:autoParam (∀ o i,subscripted e false o i=operate [o,i] (getItem o i)) auI2) (ht:autoParam (∀ o' r,letTemporaryGo o o' r=pure ()) auI2):Yd w A b h env (.Subscript o e pos) (IsV v):=λs hb hs=>by
 refine Subscript_any ((ho s hb hs).to λu s1 q=>(hn s1 (hb.trans q.1.le) (hs.trans q.1.le)).to λi s2 q2=>?_) hsub ht
 have e1:u=.ref d:=q.2 _ (hb.trans q.1.le) (Nw.self _ _)
 subst e1
 refine q1_1 (q2.2 s2.heap (hb.trans (q.1.le.trans q2.1.le)) (Nw.self _ _)) λt z1=>?_;subst z1
 have hd2:s2.heap.DictOf (PySem.strKind Pg w) d kvs:=hd.keep (hs.trans (q.1.le.trans q2.1.le)).get
 refine e2_3 ("dict") ("dict.__getitem__") slot_dict_getitem.lookup hd2.typeIs ?_
 exact wpAny_getItem_of (knd:=PySem.strKind Pg w) (k:=k) (by simp [PySem.strKind,Value.isStrOf]) hd2.mapOf hv ⟨(q.1.trans q2.1).trans (Kp.tok s2 _),λ_ _ _=>rfl⟩
end
noncomputable def overF (pD pS:Nat->Nat) (c i:Nat):List Nat:=(List.range c).filter λk=>decide (pD i<pS k)
noncomputable def IsLLv (f:Nat->List Nat) (c:Nat) (v:Value) (g:Heap):Prop:=∃ a,v=.ref a/\LL g g a ((List.range c).map f)
theorem law_over {w:World} {A:Around} {s₀ s:Shared} {b b₀:Heap} {pm cd:Value} {L:Addr} {m cm mg mb mN:SoV} {K:Frag} {n c:Nat} {tc:Tok} {d:Addr} {kv:List (Str×Value)} {pD pS:Nat->Nat}:∀ (ok:Ok n A) (S:St w mg mb mN K b₀) (C:Con mg mb mN K) (I:InF s₀ b [] (lawEnv pm cd L 177) (lawEnv pm cd L 177).cells m cm s) (hb:Le b₀ b) (hc:c<=6) (hcnt:cm (sO "count")=some (.int (c:Int) tc)) (hpl:cm (sO "places")=some (.ref d)) (hd:b.DictOf (PySem.strKind Pg w) d kv) (hD:∀ i,i<c->∃ t,valueAt kv ⟨(uCps (true,i)).toArray⟩=some (.int (pD i:Int) t)) (hS:∀ i,i<c->∃ t,valueAt kv ⟨(uCps (false,i)).toArray⟩=some (.int (pS i:Int) t)),Wp w A (exec (nth (fBody (top 15)) 10) (lawEnv pm cd L 177)) (λfl s'=>fl=.next/\Ev (ft (lawEnv pm cd L 177) (lawEnv pm cd L 177).cells) s s'/\∃ v b',Le b b'/\InF s₀ b' [] (lawEnv pm cd L 177) (lawEnv pm cd L 177).cells m (up cm (sO "over") v) s'/\IsLLv (overF pD pS c) c v b') s:=by
 intro ok S C I hb hc hcnt hpl hd hD hS
 have bR:=C.blt (sO "range") (by simp)
 have VR:=λ{h:Heap} (l:Le b₀ h) {env:Env} (h1:env.scope.kind=.function) (h2:env.kindOf (sO "range")=some .globalImplicit) (h3:env.globals=mainGlobals) (h4:env.builtins=builtinsNs)=>(Var.blt (x:=sO "range") h1 h2 (h3▸(S.le l).g) bR.1 (h4▸(S.le l).b) (bR.2.trans (by decide +kernel:bootBuiltins (sO "range")=some (.type "range"))):Var h env _ _)
 have mO:(sO "over",L+4)∈(lawEnv pm cd L 177).cells:=by rw [lawCells];simp
 have mC:(sO "count",L+1)∈(lawEnv pm cd L 177).cells:=by rw [lawCells];simp
 have mP:(sO "places",L+3)∈(lawEnv pm cd L 177).cells:=by rw [lawCells];simp
 have uC:∀ (x:Str) (c:Addr),(x,c)∈(lawEnv pm cd L 177).cells->∀ n c',(n,c')∈(lawEnv pm cd L 177).cells->n=x->c'=c:=λx c hx n c' hn he=>by
  have h1:=I.fs.look _ _ hx
  have h2:=I.fs.look _ _ hn
  rw [he,h1] at h2
  exact (Option.some.inj h2).symm
 have hcC:=I.fs.cell (sO "count") (L+1) mC
 rw [hcnt] at hcC
 have hcP:=I.fs.cell (sO "places") (L+3) mP
 rw [hpl] at hcP
 have hds:s.heap.DictOf (PySem.strKind Pg w) d kv:=hd.at λo e=>I.le.get _ _ e
 refine Wp.to (ex_asgC (P:=IsL (λ(i:Nat) v g=>∃ a,v=.ref a/\NatL g a (overF pD pS c i)) (((List.range c).filter λ_=>true).flatMap λi=>[i])) I rfl rfl mO (uC _ _ mO)
  (Yd.comp (cl:=[(sO "places",L+3),(sO "count",L+1)]) (B:=IsN) (K₁:=λi m cm=>∃ t,cm (sO "node")=some (.int (i:Int) t)) rfl rfl (by decide) rfl (by intro g' h;cases h) (by intro C n c h;have h:(n,c)∈[(sO "node",C+1)]:=h;simp at h;refine byC0 λzn=>?_;refine q0_2 h λz1 z2=>?_;clear h;subst z1;subst z2;refine zn ?_;clear zn;rfl) I.le
   (Src.range ok.hd (VR (hb.trans I.le) rfl rfl rfl rfl) (Yd.namI (I.fs.varC (x:=sO "count") rfl rfl mC hcnt)) (by omega)) (by rw [flat1,List.length_map,List.length_range,sizeLine_eq];omega) λCc D O=>⟨λi v s m cm hx hB hs F=>?asg,λi hh m cm hi hr F hK=>Ts.nil,λi hi hp=>emit_leaf rfl I.le O λhh m' cm' hr F hK=>?leaf⟩) (by rfl)) λfl s' q=>?_
 case asg=>
  exact (asg_cell F rfl rfl (c:=Cc+1) (show (_,_)∈[(sO "node",Cc+1)] from by simp) (λn c' hn _=>by have hn:(n,c')∈[(sO "node",Cc+1)]:=hn;simp at hn;exact hn.2)).to λ_ s'' q=>e0_2 q.1 (e2_2 _ _ q.2 (by refine q1_1 hB λt z1=>?_;clear hB;subst z1;exact⟨t,by simp [up]⟩))
 case leaf=>
  refine q1_1 hK λtn hn=>?_;clear hK
  have hiN:i<c:=List.mem_range.mp hi
  have hcN:=F.cell (sO "node") (Cc+1) (show (_,_)∈[(sO "node",Cc+1)] from by simp)
  rw [hn] at hcN
  have lhh:=hb.trans (I.le.trans hr)
  have e2:overF pD pS c i=((List.range c).filter λk=>decide (pD i<pS k)).flatMap λk=>[k]:=by rw [flat2,List.map_id'];rfl
  refine q1_1 (hD i hiN) λtD eD=>?_
  refine (Yd.comp (cl:=[(sO "places",L+3),(sO "node",Cc+1)]) (b:=b) (r:=hh) (xs:=List.range c) (p:=λk=>decide (pD i<pS k)) (f:=λk=>[k]) (R:=λi v _=>IsN i v) (B:=IsN) (K₁:=λk m cm=>∃ t,m (sO "k")=some (.int (k:Int) t)) rfl rfl (by decide) rfl (by intro g' h;cases h) (by intro C n c h;cases h) (I.le.trans hr)
   (Src.range ok.hd (VR lhh rfl rfl rfl rfl) (Yd.namI (F.cel (x:=sO "count") (hcC.keeps hr.get) rfl rfl rfl)) (by omega)) (by
    rw [flat2,List.length_map,sizeLine_eq]
    refine Nat.le_trans (List.length_filter_le _ _) ?_
    simp;omega) λC2 D2 O2=>⟨λk v s m cm hx hB hs F2=>?asg2,λk h2 m2 cm2 hk hr2 F2 hK2=>?test2,λk hk hpk=>emit_leaf rfl (I.le.trans hr) O2 λh2 m2 cm2 hr2 F2 hK2=>?leaf2⟩).mono λv g _ q=>by rw [e2];exact IsL.nat q
  case asg2=>
   exact (asg_loc F2 rfl rfl).to λ_ s'' q=>e0_2 q.1 (e2_2 _ _ q.2 (by refine q1_1 hB λt z1=>?_;clear hB;subst z1;exact⟨t,by simp [up]⟩))
  case test2=>
   refine byC0 λzn=>?_
   refine q1_1 hK2 λtk ek=>?_;clear hK2
   have hkN:k<c:=List.mem_range.mp hk
   refine q1_1 (hS k hkN) λtS eS=>?_
   refine zn ?_;clear zn
   have Vk:=F2.var (x:=sO "k") rfl rfl ek
   have Vn:=F2.cel (x:=sO "node") (hcN.keeps hr2.get) rfl rfl rfl
   have Vp:=F2.cel (x:=sO "places") (hcP.keeps (hr.trans hr2).get) rfl rfl rfl
   have hd2:h2.DictOf (PySem.strKind Pg w) d kv:=hds.at λo e=>(hr.trans hr2).get _ _ e
   have e3:decide ((pD i:Int)<(pS k:Int))=decide (pD i<pS k):=by rw [decide_eq_decide];omega
   rw [← e3]
   refine Ts.one (Td.lt ((Yd.dsubS (k:=⟨(uCps (true,i)).toArray⟩) hd2 (Yd.namV Vp) ((Yd.adds (Yd.str (x:=⟨#[92]⟩)) (Yd.sitem (x:=abcS) (k:=i) (Yd.namI Vn) (abc_at (by omega)) (by omega)) (by rw [sizeLine_eq];show 2<=16777216;decide)).mono λv g _ h=>?_) eD).mono λv g _ h=>⟨tD,h⟩)
    ((Yd.dsubS (k:=⟨(uCps (false,k)).toArray⟩) hd2 (Yd.namV Vp) ((Yd.sitem (x:=abcS) (k:=k) (Yd.namI Vk) (abc_at (by omega)) (by omega)).mono λv g _ h=>h) eS).mono λv g _ h=>⟨tS,h⟩))
   have eu:(⟨#[92]⟩:Str)++(⟨#[97+i]⟩:Str)=⟨(uCps (true,i)).toArray⟩:=by
    show Str.mk (#[92]++#[97+i])=_
    simp [uCps]
   exact eu▸h
  case leaf2=>
   refine q1_1 hK2 λtk ek=>?_;clear hK2
   exact Yd.nam (F2.var (x:=sO "k") rfl rfl ek) λ_ _=>⟨tk,rfl⟩
 ·refine byC0 λzn=>?_;refine q0_2 q λz1 z2=>?_;clear q;subst z1;refine s2_3 z2 λE v b' l I' z4=>?_;clear z2;refine q2_2 z4 λD ys z5 z6=>?_;clear z4;subst z5;refine q0_2 z6 λhDl hys=>?_;clear z6;refine zn ?_;clear zn
  refine e0_3 rfl E (e2_3 (.ref D) b' l I' (e1_2 D rfl (e1_2 ys.toList (by simpa using hDl.isList) ?_)))
  rw [flat1] at hys
  exact Paired.map_left (F:=λ(l:List Nat) (v:Value)=>∃ a,v=Value.ref a/\NatL b' a l) (overF pD pS c) (by simpa using hys)
theorem LL.nth {h:Heap} {a:Addr} {ls:List (List Nat)} (x:LL h h a ls):∃ vs:List Value,h.IsList a vs.toArray/\∀ (i:Nat) (l:List Nat),ls[i]?=some l->∃ c,vs[i]?=some (Value.ref c)/\NatL h c l:=by
 refine q1_2 x λvs h1 h2=>?_;clear x
 refine e1_2 vs h1 (λi l e=>?_)
 refine q1_2 (Paired.getTo h2 i l e) λv e1 z1=>?_;refine q1_2 z1 λa z2 hn=>?_;clear z1;subst z2
 exact e1_2 a e1 hn
theorem map_range_get {α:Type} (f:Nat->α) {c i:Nat} (h:i<c):((List.range c).map f)[i]?=some (f i):=by
 rw [List.getElem?_map,List.getElem?_range h];rfl
noncomputable def dueOf (bf:Nat->List Nat) (c:Nat):List (Nat×Nat):=((List.range c).filter λ_=>true).flatMap λi=>((bf i).filter λ_=>true).flatMap λk=>[(i,k)]
theorem mem_due {bf:Nat->List Nat} {c i k:Nat}:(i,k)∈dueOf bf c ↔ i<c/\k∈bf i:=by
 unfold dueOf
 simp [List.mem_flatMap]
theorem due_len {bf:Nat->List Nat} {c:Nat} (h:∀ i,(bf i).length<=6):(dueOf bf c).length<=6 * c:=by
 unfold dueOf
 have hf:∀ l:List Nat,l.filter (λ_=>true)=l:=λl=>List.filter_eq_self.mpr λ_ _=>rfl
 simp only [hf]
 induction c with
 | zero=>simp
 | succ n ih=>
  rw [List.range_succ,List.flatMap_append,List.length_append]
  have:=h n
  simp only [List.flatMap_cons,List.flatMap_nil,List.append_nil]
  have e:((bf n).flatMap λk=>[(n,k)]).length=(bf n).length:=by
   induction (bf n) with
   | nil=>rfl
   | cons a r ih=>simp [ih]
  omega
section
variable {w:World} {A:Around} {b h:Heap} {env:Env}
theorem Yd.lrow {o:Expr} {n:Str} {p pos:Pos} {l:Addr} {ls:List (List Nat)} {k:Nat} {r:List Nat} (hl:LL b b l ls) (hbh:Le b h) (ho:Yd w A b h env o (IsV (.ref l))) (hn:Yd w A b h env (.Name n p) (IsI (k:Int))) (hv:ls[k]?=some r) (hk:k<2 ^ 62)
  (ht:autoParam (∀ o' r,letTemporaryGo o o' r=pure ()) auI2):Yd w A b h env (.Subscript o (.Name n p) pos) (λv g=>∃ a,v=.ref a/\NatL g a r):=by
 refine byC0 λzn=>?_
 refine q1_2 (hl.nth) λvs h1 h2=>?_
 refine q1_2 (h2 k r hv) λc e1 hc=>?_
 refine zn ?_;clear zn
 exact (Yd.lsub (h1.at λo e=>hbh.get _ _ e) ho hn (by simpa using e1) hk ht).mono λv g hg q=>by
  cases q
  exact e1_2 c rfl (hc.at λo e=>hg.get _ _ e)
end
section
variable {w:World} {A:Around} {s₀ s:Shared} {b b₀:Heap} {pm cd:Value} {L:Addr} {m cm:SoV} {mg mb mN:SoV} {K:Frag}
theorem law_due {n c:Nat} {tc:Tok} {Ba:Addr} {bf:Nat->List Nat} (ok:Ok n A) (S:St w mg mb mN K b₀) (C:Con mg mb mN K) (I:InF s₀ b [] (lawEnv pm cd L 177) (lawEnv pm cd L 177).cells m cm s) (hb:Le b₀ b) (hc:c<=6)
  (hcnt:cm (sO "count")=some (.int (c:Int) tc)) (hbe:cm (sO "behind")=some (.ref Ba)) (hLL:LL b b Ba ((List.range c).map bf)) (hbf:∀ i,(bf i).length<=6) :
  Wp w A (exec (nth (fBody (top 15)) 11) (lawEnv pm cd L 177)) (λfl s'=>fl=.next/\Ev (ft (lawEnv pm cd L 177) (lawEnv pm cd L 177).cells) s s'/\∃ v b',Le b b'/\InF s₀ b' [] (lawEnv pm cd L 177) (lawEnv pm cd L 177).cells m (up cm (sO "due") v) s'/\
   IsL (λp v g=>IsNP p v g) (dueOf bf c) v b') s:=by
 have bR:=C.blt (sO "range") (by simp)
 have VR:=λ{h:Heap} (l:Le b₀ h) {env:Env} (h1:env.scope.kind=.function) (h2:env.kindOf (sO "range")=some .globalImplicit) (h3:env.globals=mainGlobals) (h4:env.builtins=builtinsNs)=>(Var.blt (x:=sO "range") h1 h2 (h3▸(S.le l).g) bR.1 (h4▸(S.le l).b) (bR.2.trans (by decide +kernel:bootBuiltins (sO "range")=some (.type "range"))):Var h env _ _)
 have mO:(sO "due",L+5)∈(lawEnv pm cd L 177).cells:=by rw [lawCells];simp
 have mC:(sO "count",L+1)∈(lawEnv pm cd L 177).cells:=by rw [lawCells];simp
 have mB:(sO "behind",L+2)∈(lawEnv pm cd L 177).cells:=by rw [lawCells];simp
 have uC:∀ (x:Str) (c:Addr),(x,c)∈(lawEnv pm cd L 177).cells->∀ n c',(n,c')∈(lawEnv pm cd L 177).cells->n=x->c'=c:=λx c hx n c' hn he=>by
  have h1:=I.fs.look _ _ hx
  have h2:=I.fs.look _ _ hn
  rw [he,h1] at h2
  exact (Option.some.inj h2).symm
 have hcB:=I.fs.cell (sO "behind") (L+2) mB
 rw [hbe] at hcB
 refine Wp.to (ex_asgC (P:=IsL (λp v g=>IsNP p v g) (dueOf bf c)) I rfl rfl mO (uC _ _ mO)
  (Yd.comp (cl:=[(sO "behind",L+2)]) (xs:=List.range c) (p:=λ_=>true) (f:=λi=>((bf i).filter λ_=>true).flatMap λk=>[(i,k)]) (R:=λp v g=>IsNP p v g) (B:=IsN) (K₁:=λi m cm=>∃ t,m (sO "node")=some (.int (i:Int) t)) rfl rfl (by decide) rfl (by intro g' h;cases h;rfl) (by intro C n c h;cases h) I.le
   (Src.range ok.hd (VR (hb.trans I.le) rfl rfl rfl rfl) (Yd.namI (I.fs.varC (x:=sO "count") rfl rfl mC hcnt)) (by omega)) (by have:=due_len (c:=c) hbf;unfold dueOf at this;rw [sizeLine_eq];omega) λCc D O=>⟨λi v s m cm hx hB hs F=>?asg,λi hh m cm hi hr F hK=>Ts.nil,λi hi hp=>?loop⟩) (by rfl)) λfl s' q=>?_
 case asg=>exact (asg_loc F rfl rfl).to λ_ s'' q=>e0_2 q.1 (e2_2 _ _ q.2 (by refine q1_1 hB λt z1=>?_;clear hB;subst z1;exact⟨t,by simp [up]⟩))
 case loop=>
  have hiN:i<c:=List.mem_range.mp hi
  refine byC0 λzn=>?_
  refine q1_2 ((hLL.le I.le).nth) λvs h1 h2=>?_
  refine q1_2 (h2 i (bf i) (map_range_get bf hiN)) λca e1 z1=>?_;refine q1_2 z1 λus hus hup=>?_;clear z1
  refine zn ?_;clear zn
  refine emit_loop (xs:=bf i) (B:=IsN) (p:=λ_=>true) (f:=λk=>[(i,k)]) (K₁:=λk m cm=>(∃ t,m (sO "node")=some (.int (i:Int) t))/\∃ t,m (sO "k")=some (.int (k:Int) t)) rfl rfl (by intro g' h;cases h) I.le O (λhh m cm hr F hK=>?src)
   (λk v s m cm hx hB hs F hK=>?asg2) (λk hh m cm hk hr F hK=>Ts.nil) (λk m cm hK=>hK.1) λk hk hpk=>emit_leaf rfl I.le O λhh m' cm' hr F hK=>?leaf
  case src=>
   refine q1_1 hK λt hn=>?_;clear hK
   exact Src.list (a:=ca) (items:=us.toArray) ok.hd (Yd.lsub (h1.at λo e=>hr.get _ _ e) (Yd.namV (F.cel (x:=sO "behind") (hcB.keeps hr.get) rfl rfl rfl)) (Yd.namI (F.var (x:=sO "node") rfl rfl hn)) (by simpa using e1) (by omega)) hus.isList (show Paired IsN (bf i) us.toArray.toList from hup)
  case asg2=>
   refine q1_1 hK λt hn=>?_;clear hK
   exact (asg_loc F rfl rfl).to λ_ s'' q=>e0_2 q.1 (e2_3 _ _ q.2 ⟨t,by simp +decide [up];exact hn⟩ (by refine q1_1 hB λt z1=>?_;clear hB;subst z1;exact⟨t,by simp [up]⟩))
  case leaf=>
   refine byC0 λzn=>?_;refine q0_2 hK λz1 z2=>?_;clear hK;refine q1_1 z1 λt hn=>?_;clear z1;refine q1_1 z2 λt' hk'=>?_;clear z2;refine zn ?_;clear zn
   exact (Yd.tup (Yds.two (Yd.namI (F.var (x:=sO "node") rfl rfl hn)) (Yd.namI (F.var (x:=sO "k") rfl rfl hk')))).mono λv g _ q=>q
 ·refine byC0 λzn=>?_;refine q0_2 q λz1 z2=>?_;clear q;subst z1;refine s2_3 z2 λE v b' l I' hv=>?_;clear z2;refine zn ?_;clear zn
  exact e0_3 rfl E (e2_3 v b' l I' hv)
end
section
variable {w:World} {A:Around} {b h:Heap} {env:Env}
theorem Td.and2 {l r:Expr} {p:Pos} {c c':Bool} (x:Td w A b h env l c) (y:Td w A b h env r c'):Td w A b h env (.BoolOp .And [l,r] p) (c && c'):=λs hb hs=>by
 refine isTrue_and ((x s hb hs).to λz s1 q=>?_)
 rcases q with ⟨rfl,k⟩
 cases z with
 | false=>exact⟨rfl,k⟩
 | true=>
  simp only [if_true,Bool.true_and]
  refine isTrue_and ((y s1 (hb.trans k.le) (hs.trans k.le)).to λz s2 q2=>?_)
  rcases q2 with ⟨rfl,k2⟩
  cases z with
  | false=>exact⟨rfl,k.trans k2⟩
  | true=>
   simp only [if_true]
   exact isTrue_and_nil ⟨rfl,k.trans k2⟩
end
noncomputable def crOf (bf:Nat->List Nat) (due:List (Nat×Nat)):List Nat:=(due.filter λ_=>true).flatMap λp=>((due.filter λq=>!decide (q.2∈bf p.1) && !decide (p.2∈bf q.1)).flatMap λq=>[p.1])
noncomputable def apOf (bf:Nat->List Nat) (c:Nat) (due:List (Nat×Nat)):List Nat:=(due.filter λ_=>true).flatMap λp=>((bf p.2).filter λ_=>true).flatMap λk=>(((List.range c).filter λx=>!decide (x∈bf p.1) && !decide (k∈bf x)).flatMap λx=>[x])
theorem flat_le {α β:Type} (f:α->List β) (n:Nat):∀ (l:List α),(∀ a∈l,(f a).length<=n)->(l.flatMap f).length<=l.length * n
 | [],_=>by simp
 | a::r,h=>by
  rw [List.flatMap_cons,List.length_append,List.length_cons,Nat.succ_mul]
  have h1:=h a (zH ..)
  have h2:=flat_le f n r λb hb=>h b (zT hb)
  omega
namespace Z51
noncomputable def zQ (w:World) (A:Around) (s₀ s:Shared) (b:Heap) (pm cd:Value) (L:Addr) (m cm:Str->Option Value) (n c:Nat) (Oa:Addr) (bf ov:Nat->List Nat) (Q:Flow->Shared->Prop):Prop:=∀ {dv:Value} (ok:Ok n A) (hu:A.units+64<cLine) (I:InF s₀ b [] (lawEnv pm cd L 177) (lawEnv pm cd L 177).cells m cm s) (hc:c<=6) (hdue:cm (sO "due")=some dv) (hdv:IsL (λp v g=>IsNP p v g) (dueOf bf c) dv b) (hov:cm (sO "over")=some (.ref Oa)) (hLL:LL b b Oa ((List.range c).map ov)) (hbf:∀ i,(bf i).length<=6) (hok:∀ p∈dueOf bf c,p.2∈ov p.1) (hk:∀ s',Kp s s'->Wp w A (execs [] (lawEnv pm cd L 177)) Q s'),Wp w A (exec (nth (fBody (top 15)) 12) (lawEnv pm cd L 177)) Q s
noncomputable abbrev zY:=((((World×Around)×(Shared×Shared))×((Heap×Value)×(Value×Addr)))×((((Str->Option Value)×(Str->Option Value))×(Nat×Nat))×((Addr×(Nat->List Nat))×((Nat->List Nat)×(Flow->Shared->Prop)))))
noncomputable def zR (p:zY):=zQ p.1.1.1.1 p.1.1.1.2 p.1.1.2.1 p.1.1.2.2 p.1.2.1.1 p.1.2.1.2 p.1.2.2.1 p.1.2.2.2 p.2.1.1.1 p.2.1.1.2 p.2.1.2.1 p.2.1.2.2 p.2.2.1.1 p.2.2.1.2 p.2.2.2.1 p.2.2.2.2
noncomputable def zc:zY:=eps1 (neP (neP (neP (neP neW neA) (neP neS neS)) neI) neI) zR
noncomputable def w:=zc.1.1.1.1
noncomputable def A:=zc.1.1.1.2
noncomputable def s₀:=zc.1.1.2.1
noncomputable def s:=zc.1.1.2.2
noncomputable def b:=zc.1.2.1.1
noncomputable def pm:=zc.1.2.1.2
noncomputable def cd:=zc.1.2.2.1
noncomputable def L:=zc.1.2.2.2
noncomputable def m:=zc.2.1.1.1
noncomputable def cm:=zc.2.1.1.2
noncomputable def n:=zc.2.1.2.1
noncomputable def c:=zc.2.1.2.2
noncomputable def Oa:=zc.2.2.1.1
noncomputable def bf:=zc.2.2.1.2
noncomputable def ov:=zc.2.2.2.1
noncomputable def Q:=zc.2.2.2.2
theorem zaux:zQ w A s₀ s b pm cd L m cm n c Oa bf ov Q:=by
 intro dv ok hu I hc hdue hdv hov hLL hbf hok hk
 refine q2_2 hdv λD ys z1 z2=>?_;clear hdv;subst z1;refine q0_2 z2 λhD hys=>?_;clear z2
 have mD:(sO "due",L+5)∈(lawEnv pm cd L 177).cells:=by rw [lawCells];simp
 have mO:(sO "over",L+4)∈(lawEnv pm cd L 177).cells:=by rw [lawCells];simp
 have hcO:=I.fs.cell (sO "over") (L+4) mO
 rw [hov] at hcO
 have dl:=due_len (c:=c) hbf
 have hnil:((dueOf bf c).filter λp=>!decide (p.2∈ov p.1)).flatMap (λp=>[p.2])=[]:=by
  have:((dueOf bf c).filter λp=>!decide (p.2∈ov p.1))=[]:=by
   rw [List.filter_eq_nil_iff]
   intro p hp
   simp [hok p hp]
  rw [this];rfl
 refine ex_if (r:=!(((dueOf bf c).filter λp=>!decide (p.2∈ov p.1)).flatMap (λp=>[p.2])).isEmpty) I.le (Td.neNil hu ((Yd.comp (cl:=[(sO "over",L+4)]) (xs:=dueOf bf c) (p:=λp=>!decide (p.2∈ov p.1)) (f:=λp=>[p.2]) (R:=λi v _=>IsN i v) (B:=λp v=>IsNP p v b)
   (K₁:=λp m cm=>(∃ t,m (sO "node")=some (.int (p.1:Int) t))/\∃ t,m (sO "k")=some (.int (p.2:Int) t)) rfl rfl (by decide) rfl (by intro g' h;cases h) (by intro C n c h;cases h) I.le
   (Src.list ok.hd (Yd.namV (I.fs.varC (x:=sO "due") rfl rfl mD hdue)) ((hD.at λo e=>I.le.get _ _ e).isList) hys) (by
    rw [flat2,List.length_map,sizeLine_eq]
    have:=List.length_filter_le (λp:Nat×Nat=>!decide (p.2∈ov p.1)) (dueOf bf c)
    omega) λCc D' O=>⟨λp u s' m' cm' hx hB hs F=>?asg,λp hh m' cm' hx hr F hK=>?test,λp hx hpp=>emit_leaf rfl I.le O λhh m' cm' hr F hK=>?leaf⟩).mono λv g _ q=>IsL.nat q)) λs' k=>?_
 case asg=>
  refine byC0 λzn=>?_;refine q2_2 hB λT ws z1 z2=>?_;clear hB;subst z1;refine q0_2 z2 λhT hw=>?_;clear z2;refine zn ?_;clear zn
  refine v2 hw λy1 y2 ey a a'=>?_;subst ey
  refine byC0 λzn=>?_
  refine q1_1 a λta z1=>?_;clear a;subst z1
  refine q1_1 a' λtb z1=>?_;clear a';subst z1
  refine zn ?_;clear zn
  exact (asg_tup2 ok.hd F rfl rfl rfl (hT.at λo e=>(I.le.trans hs).get _ _ e)).to λ_ s'' q=>e0_2 q.1 (e2_3 _ _ q.2 ⟨ta,by simp +decide [up]⟩ ⟨tb,by simp [up]⟩)
 case test=>
  refine byC0 λzn=>?_;refine q0_2 hK λz1 z2=>?_;clear hK;refine q1_1 z1 λta ha=>?_;clear z1;refine q1_1 z2 λtb hb'=>?_;clear z2;refine zn ?_;clear zn
  have hpc:=(mem_due (i:=p.1) (k:=p.2)).mp hx
  exact Ts.one (Td.notInList (a:=0) (Yd.namI (F.var (x:=sO "k") rfl rfl hb')) (Yd.lrow hLL (I.le.trans hr) (Yd.namV (F.cel (x:=sO "over") (hcO.keeps hr.get) rfl rfl rfl)) (Yd.namI (F.var (x:=sO "node") rfl rfl ha)) (map_range_get ov hpc.1) (by omega)))
 case leaf=>
  refine byC0 λzn=>?_;refine q0_2 hK λz1 z2=>?_;clear hK;refine q1_1 z1 λta ha=>?_;clear z1;refine q1_1 z2 λtb hb'=>?_;clear z2;refine zn ?_;clear zn
  exact Yd.nam (F.var (x:=sO "k") rfl rfl hb') λ_ _=>⟨tb,rfl⟩
 ·rw [hnil]
  simp only [List.isEmpty_nil,Bool.not_true,Bool.false_eq_true,if_false]
  exact hk s' k
theorem zall:∀ p,zR p:=all1 zaux
end Z51
theorem law_check {w A s₀ s b pm cd L m cm n c Oa bf ov Q}:Z51.zQ w A s₀ s b pm cd L m cm n c Oa bf ov Q:=Z51.zall ((((w,A),(s₀,s)),((b,pm),(cd,L))),(((m,cm),(n,c)),((Oa,bf),(ov,Q))))
namespace Z50
noncomputable def zQ (w:World) (A:Around) (s₀ s:Shared) (b:Heap) (pm cd:Value) (L:Addr) (m cm:Str->Option Value) (n c:Nat) (Ba:Addr) (bf:Nat->List Nat):Prop:=∀ {dv:Value} (ok:Ok n A) (I:InF s₀ b [] (lawEnv pm cd L 177) (lawEnv pm cd L 177).cells m cm s) (hc:c<=6) (hdue:cm (sO "due")=some dv) (hdv:IsL (λp v g=>IsNP p v g) (dueOf bf c) dv b) (hbe:cm (sO "behind")=some (.ref Ba)) (hLL:LL b b Ba ((List.range c).map bf)) (hbf:∀ i,(bf i).length<=6),Wp w A (exec (nth (fBody (top 15)) 13) (lawEnv pm cd L 177)) (λfl s'=>fl=.next/\Ev (ft (lawEnv pm cd L 177) (lawEnv pm cd L 177).cells) s s'/\∃ v b',Le b b'/\InF s₀ b' [] (lawEnv pm cd L 177) (lawEnv pm cd L 177).cells (up m (sO "crossed") v) cm s'/\IsL (λi v _=>IsN i v) (crOf bf (dueOf bf c)) v b') s
noncomputable abbrev zY:=(((World×(Around×Shared))×((Shared×Heap)×(Value×Value)))×((Addr×((Str->Option Value)×(Str->Option Value)))×((Nat×Nat)×(Addr×(Nat->List Nat)))))
noncomputable def zR (p:zY):=zQ p.1.1.1 p.1.1.2.1 p.1.1.2.2 p.1.2.1.1 p.1.2.1.2 p.1.2.2.1 p.1.2.2.2 p.2.1.1 p.2.1.2.1 p.2.1.2.2 p.2.2.1.1 p.2.2.1.2 p.2.2.2.1 p.2.2.2.2
noncomputable def zc:zY:=eps1 (neP (neP (neP neW (neP neA neS)) (neP (neP neS neI) neI)) neI) zR
noncomputable def w:=zc.1.1.1
noncomputable def A:=zc.1.1.2.1
noncomputable def s₀:=zc.1.1.2.2
noncomputable def s:=zc.1.2.1.1
noncomputable def b:=zc.1.2.1.2
noncomputable def pm:=zc.1.2.2.1
noncomputable def cd:=zc.1.2.2.2
noncomputable def L:=zc.2.1.1
noncomputable def m:=zc.2.1.2.1
noncomputable def cm:=zc.2.1.2.2
noncomputable def n:=zc.2.2.1.1
noncomputable def c:=zc.2.2.1.2
noncomputable def Ba:=zc.2.2.2.1
noncomputable def bf:=zc.2.2.2.2
theorem zaux:zQ w A s₀ s b pm cd L m cm n c Ba bf:=by
 intro dv ok I hc hdue hdv hbe hLL hbf
 refine byC0 λzn=>?_;refine q2_2 hdv λD ys z1 z2=>?_;clear hdv;subst z1;refine q0_2 z2 λhD hys=>?_;clear z2;refine zn ?_;clear zn
 have mD:(sO "due",L+5)∈(lawEnv pm cd L 177).cells:=by rw [lawCells];simp
 have mB:(sO "behind",L+2)∈(lawEnv pm cd L 177).cells:=by rw [lawCells];simp
 have hcB:=I.fs.cell (sO "behind") (L+2) mB
 rw [hbe] at hcB
 have hcD:=I.fs.cell (sO "due") (L+5) mD
 rw [hdue] at hcD
 have dl:=due_len (c:=c) hbf
 refine Wp.to (ex_swap (cl:=[(sO "due",L+5),(sO "behind",L+2)]) (xs:=dueOf bf c) (p:=λ_=>true) (f:=λp=>(((dueOf bf c).filter λq=>!decide (q.2∈bf p.1) && !decide (p.2∈bf q.1)).flatMap λq=>[p.1])) (R:=λi v _=>IsN i v) (B:=λp v=>IsNP p v b)
   (K₁:=λp m cm=>(∃ t,m (sO "a")=some (.int (p.1:Int) t))/\∃ t,m (sO "b")=some (.int (p.2:Int) t)) I rfl rfl rfl rfl rfl (by decide) rfl (by intro g' h;cases h;rfl) (by intro C n c h;cases h)
   (Src.list ok.hd (Yd.namV (I.fs.varC (x:=sO "due") rfl rfl mD hdue)) ((hD.at λo e=>I.le.get _ _ e).isList) hys) (by
    have h1:=flat_le (λp:Nat×Nat=>(((dueOf bf c).filter λq=>!decide (q.2∈bf p.1) && !decide (p.2∈bf q.1)).flatMap λq=>[p.1])) 36 ((dueOf bf c).filter λ_=>true) λp _=>by
     have h2:=flat_le (λq:Nat×Nat=>[p.1]) 1 ((dueOf bf c).filter λq=>!decide (q.2∈bf p.1) && !decide (p.2∈bf q.1)) λ_ _=>by simp
     have h3:=List.length_filter_le (λq:Nat×Nat=>!decide (q.2∈bf p.1) && !decide (p.2∈bf q.1)) (dueOf bf c)
     omega
    have h4:=List.length_filter_le (λ_:Nat×Nat=>true) (dueOf bf c)
    rw [sizeLine_eq]
    omega) λCc D' O=>⟨λp u s' m' cm' hx hB hs F=>?asg,λp hh m' cm' hx hr F hK=>Ts.nil,λp hx hpp=>?loop⟩) λfl s' q=>?_
 case asg=>
  refine byC0 λzn=>?_;refine q2_2 hB λT ws z1 z2=>?_;clear hB;subst z1;refine q0_2 z2 λhT hw=>?_;clear z2;refine zn ?_;clear zn
  refine v2 hw λy1 y2 ey a a'=>?_;subst ey
  refine byC0 λzn=>?_
  refine q1_1 a λta z1=>?_;clear a;subst z1
  refine q1_1 a' λtb z1=>?_;clear a';subst z1
  refine zn ?_;clear zn
  exact (asg_tup2 ok.hd F rfl rfl rfl (hT.at λo e=>(I.le.trans hs).get _ _ e)).to λ_ s'' q=>e0_2 q.1 (e2_3 _ _ q.2 ⟨ta,by simp +decide [up]⟩ ⟨tb,by simp [up]⟩)
 case loop=>
  have hpc:=(mem_due (i:=p.1) (k:=p.2)).mp hx
  refine emit_loop (xs:=dueOf bf c) (B:=λp v=>IsNP p v b) (p:=λq=>!decide (q.2∈bf p.1) && !decide (p.2∈bf q.1)) (f:=λq=>[p.1])
   (K₁:=λq m cm=>((∃ t,m (sO "a")=some (.int (p.1:Int) t))/\∃ t,m (sO "b")=some (.int (p.2:Int) t))/\(∃ t,m (sO "c")=some (.int (q.1:Int) t))/\∃ t,m (sO "d")=some (.int (q.2:Int) t)) rfl rfl (by intro g' h;cases h) I.le O (λhh m cm hr F hK=>?src)
   (λq v s m cm hx hB hs F hK=>?asg2) (λq hh m cm hq hr F hK=>?test2) (λq m cm hK=>hK.1) λq hq hpq=>emit_leaf rfl I.le O λhh m' cm' hr F hK=>?leaf2
  case src=>exact Src.list ok.hd (Yd.namV (F.cel (x:=sO "due") (hcD.keeps hr.get) rfl rfl rfl)) ((hD.at λo e=>(I.le.trans (Le.refl _)).get _ _ e).isList) hys
  case asg2=>
   refine byC0 λzn=>?_
   refine q0_2 hK λz1 z2=>?_;clear hK;refine q1_1 z1 λt1 e1=>?_;clear z1;refine q1_1 z2 λt2 e2=>?_;clear z2
   refine q2_2 hB λT ws z1 z2=>?_;clear hB;subst z1;refine q0_2 z2 λhT hw=>?_;clear z2
   refine zn ?_;clear zn
   refine v2 hw λy1 y2 ey a a'=>?_;subst ey
   refine byC0 λzn=>?_
   refine q1_1 a λta z1=>?_;clear a;subst z1
   refine q1_1 a' λtb z1=>?_;clear a';subst z1
   refine zn ?_;clear zn
   exact (asg_tup2 ok.hd F rfl rfl rfl (hT.at λo e=>(I.le.trans hs).get _ _ e)).to λ_ s'' q=>e0_2 q.1 (e2_4 _ _ q.2 (e0_2 ⟨t1,by simp +decide [up];exact e1⟩ (e1_1 t2 (by simp +decide [up];exact e2))) ⟨ta,by simp +decide [up]⟩ ⟨tb,by simp [up]⟩)
  case test2=>
   refine byC0 λzn=>?_;refine q0_3 hK λz1 z4 z5=>?_;clear hK;refine q0_2 z1 λz2 z3=>?_;clear z1;refine q1_1 z2 λt1 e1=>?_;clear z2;refine q1_1 z3 λt2 e2=>?_;clear z3;refine q1_1 z4 λt3 e3=>?_;clear z4;refine q1_1 z5 λt4 e4=>?_;clear z5;refine zn ?_;clear zn
   have hqc:=(mem_due (i:=q.1) (k:=q.2)).mp hq
   have Vb:=F.cel (x:=sO "behind") (hcB.keeps hr.get) rfl rfl rfl
   exact Ts.one (Td.and2 (Td.notInList (a:=0) (Yd.namI (F.var (x:=sO "d") rfl rfl e4)) (Yd.lrow hLL (I.le.trans hr) (Yd.namV Vb) (Yd.namI (F.var (x:=sO "a") rfl rfl e1)) (map_range_get bf hpc.1) (by omega)))
    (Td.notInList (a:=0) (Yd.namI (F.var (x:=sO "b") rfl rfl e2)) (Yd.lrow hLL (I.le.trans hr) (Yd.namV Vb) (Yd.namI (F.var (x:=sO "c") rfl rfl e3)) (map_range_get bf hqc.1) (by omega))))
  case leaf2=>
   refine byC0 λzn=>?_;refine q0_3 hK λz1 z4 z5=>?_;clear hK;refine q0_2 z1 λz2 z3=>?_;clear z1;refine q1_1 z2 λt1 e1=>?_;clear z2;refine q1_1 z3 λt2 e2=>?_;clear z3;refine q1_1 z4 λt3 e3=>?_;clear z4;refine q1_1 z5 λt4 e4=>?_;clear z5;refine zn ?_;clear zn
   exact Yd.nam (F.var (x:=sO "a") rfl rfl e1) λ_ _=>⟨t1,rfl⟩
 ·refine byC0 λzn=>?_;refine q0_2 q λz1 z2=>?_;clear q;subst z1;refine s2_4 z2 λE v b' l I' hv _=>?_;clear z2;refine zn ?_;clear zn
  exact e0_3 rfl E (e2_3 v b' l I' hv)
theorem zall:∀ p,zR p:=all1 zaux
end Z50
theorem law_crossed {w A s₀ s b pm cd L m cm n c Ba bf}:Z50.zQ w A s₀ s b pm cd L m cm n c Ba bf:=Z50.zall (((w,(A,s₀)),((s,b),(pm,cd))),((L,(m,cm)),((n,c),(Ba,bf))))
namespace Z21
noncomputable section
def zQ (w:World) (A:Around) (s₀ s:Shared) (b b₀:Heap) (pm cd:Value) (L:Addr) (m cm mg mb mN:SoV) (K:Frag) (n c:Nat) (tc:Tok) (Ba:Addr) (bf:Nat->List Nat):Prop:=∀ {dv:Value} (ok:Ok n A) (S:St w mg mb mN K b₀) (C:Con mg mb mN K) (I:InF s₀ b [] (lawEnv pm cd L 177) (lawEnv pm cd L 177).cells m cm s) (hb:Le b₀ b) (hc:c<=6) (hcnt:cm (sO "count")=some (.int (c:Int) tc)) (hdue:cm (sO "due")=some dv) (hdv:IsL (λp v g=>IsNP p v g) (dueOf bf c) dv b) (hbe:cm (sO "behind")=some (.ref Ba)) (hLL:LL b b Ba ((List.range c).map bf)) (hbf:∀ i,(bf i).length<=6) (hlt:∀ i,∀ k∈bf i,k<c),Wp w A (exec (nth (fBody (top 15)) 14) (lawEnv pm cd L 177)) (λfl s'=>fl=.next/\Ev (ft (lawEnv pm cd L 177) (lawEnv pm cd L 177).cells) s s'/\∃ v b',Le b b'/\InF s₀ b' [] (lawEnv pm cd L 177) (lawEnv pm cd L 177).cells (up m (sO "apart") v) cm s'/\IsL (λi v _=>IsN i v) (apOf bf c (dueOf bf c)) v b') s
abbrev zY:=((((World×Around)×(Shared×(Shared×Heap)))×((Heap×Value)×(Value×(Addr×SoV))))×(((SoV×SoV)×(SoV×(SoV×Frag)))×((Nat×Nat)×(Tok×(Addr×(Nat->List Nat))))))
def zR (p:zY):=zQ p.1.1.1.1 p.1.1.1.2 p.1.1.2.1 p.1.1.2.2.1 p.1.1.2.2.2 p.1.2.1.1 p.1.2.1.2 p.1.2.2.1 p.1.2.2.2.1 p.1.2.2.2.2 p.2.1.1.1 p.2.1.1.2 p.2.1.2.1 p.2.1.2.2.1 p.2.1.2.2.2 p.2.2.1.1 p.2.2.1.2 p.2.2.2.1 p.2.2.2.2.1 p.2.2.2.2.2
def zc:zY:=eps1 (neP (neP (neP (neP neW neA) (neP neS (neP neS neI))) neI) neI) zR
def w:=zc.1.1.1.1
def A:=zc.1.1.1.2
def s₀:=zc.1.1.2.1
def s:=zc.1.1.2.2.1
def b:=zc.1.1.2.2.2
def b₀:=zc.1.2.1.1
def pm:=zc.1.2.1.2
def cd:=zc.1.2.2.1
def L:=zc.1.2.2.2.1
def m:=zc.1.2.2.2.2
def cm:=zc.2.1.1.1
def mg:=zc.2.1.1.2
def mb:=zc.2.1.2.1
def mN:=zc.2.1.2.2.1
def K:=zc.2.1.2.2.2
def n:=zc.2.2.1.1
def c:=zc.2.2.1.2
def tc:=zc.2.2.2.1
def Ba:=zc.2.2.2.2.1
def bf:=zc.2.2.2.2.2
theorem zaux:zQ w A s₀ s b b₀ pm cd L m cm mg mb mN K n c tc Ba bf:=by
 intro dv ok S C I hb hc hcnt hdue hdv hbe hLL hbf hlt
 refine byC0 λzn=>?_;refine q2_2 hdv λD ys z1 z2=>?_;clear hdv;subst z1;refine q0_2 z2 λhD hys=>?_;clear z2;refine zn ?_;clear zn
 have bR:=C.blt (sO "range") (by simp)
 have VR:=λ{h:Heap} (l:Le b₀ h) {env:Env} (h1:env.scope.kind=.function) (h2:env.kindOf (sO "range")=some .globalImplicit) (h3:env.globals=mainGlobals) (h4:env.builtins=builtinsNs)=>(Var.blt (x:=sO "range") h1 h2 (h3▸(S.le l).g) bR.1 (h4▸(S.le l).b) (bR.2.trans (by decide +kernel:bootBuiltins (sO "range")=some (.type "range"))):Var h env _ _)
 have mC:(sO "count",L+1)∈(lawEnv pm cd L 177).cells:=by rw [lawCells];simp
 have mD:(sO "due",L+5)∈(lawEnv pm cd L 177).cells:=by rw [lawCells];simp
 have mB:(sO "behind",L+2)∈(lawEnv pm cd L 177).cells:=by rw [lawCells];simp
 have hcC:=I.fs.cell (sO "count") (L+1) mC
 rw [hcnt] at hcC
 have hcB:=I.fs.cell (sO "behind") (L+2) mB
 rw [hbe] at hcB
 have dl:=due_len (c:=c) hbf
 refine Wp.to (ex_swap (cl:=[(sO "count",L+1),(sO "behind",L+2)]) (xs:=dueOf bf c) (p:=λ_=>true) (f:=λp=>((bf p.2).filter λ_=>true).flatMap λk=>(((List.range c).filter λx=>!decide (x∈bf p.1) && !decide (k∈bf x)).flatMap λx=>[x])) (R:=λi v _=>IsN i v) (B:=λp v=>IsNP p v b)
   (K₁:=λp m cm=>(∃ t,m (sO "a")=some (.int (p.1:Int) t))/\∃ t,m (sO "b")=some (.int (p.2:Int) t)) I rfl rfl rfl rfl rfl (by decide) rfl (by intro g' h;cases h;rfl) (by intro C n c h;cases h)
   (Src.list ok.hd (Yd.namV (I.fs.varC (x:=sO "due") rfl rfl mD hdue)) ((hD.at λo e=>I.le.get _ _ e).isList) hys) (by
    have h1:=flat_le (λp:Nat×Nat=>((bf p.2).filter λ_=>true).flatMap λk=>(((List.range c).filter λx=>!decide (x∈bf p.1) && !decide (k∈bf x)).flatMap λx=>[x])) 36 ((dueOf bf c).filter λ_=>true) λp _=>by
     have h2:=flat_le (λk:Nat=>(((List.range c).filter λx=>!decide (x∈bf p.1) && !decide (k∈bf x)).flatMap λx=>[x])) 6 ((bf p.2).filter λ_=>true) λk _=>by
      have h5:=flat_le (λx:Nat=>[x]) 1 ((List.range c).filter λx=>!decide (x∈bf p.1) && !decide (k∈bf x)) λ_ _=>by simp
      have h6:=List.length_filter_le (λx=>!decide (x∈bf p.1) && !decide (k∈bf x)) (List.range c)
      rw [List.length_range] at h6
      omega
     have h3:=List.length_filter_le (λ_:Nat=>true) (bf p.2)
     have h7:=hbf p.2
     omega
    have h4:=List.length_filter_le (λ_:Nat×Nat=>true) (dueOf bf c)
    rw [sizeLine_eq]
    omega) λCc D' O=>⟨λp u s' m' cm' hx hB hs F=>?asg,λp hh m' cm' hx hr F hK=>Ts.nil,λp hx hpp=>?loop⟩) λfl s' q=>?_
 case asg=>
  refine byC0 λzn=>?_;refine q2_2 hB λT ws z1 z2=>?_;clear hB;subst z1;refine q0_2 z2 λhT hw=>?_;clear z2;refine zn ?_;clear zn
  refine v2 hw λy1 y2 ey a a'=>?_;subst ey
  refine byC0 λzn=>?_
  refine q1_1 a λta z1=>?_;clear a;subst z1
  refine q1_1 a' λtb z1=>?_;clear a';subst z1
  refine zn ?_;clear zn
  exact (asg_tup2 ok.hd F rfl rfl rfl (hT.at λo e=>(I.le.trans hs).get _ _ e)).to λ_ s'' q=>e0_2 q.1 (e2_3 _ _ q.2 ⟨ta,by simp +decide [up]⟩ ⟨tb,by simp [up]⟩)
 case loop=>
  have hpc:=(mem_due (i:=p.1) (k:=p.2)).mp hx
  have hp2:p.2<c:=hlt p.1 p.2 hpc.2
  refine byC0 λzn=>?_
  refine q1_2 ((hLL.le I.le).nth) λvs h1 h2=>?_
  refine q1_2 (h2 p.2 (bf p.2) (map_range_get bf hp2)) λca e1 z1=>?_;refine q1_2 z1 λus hus hup=>?_;clear z1
  refine zn ?_;clear zn
  refine emit_loop (xs:=bf p.2) (B:=IsN) (p:=λ_=>true) (f:=λk=>(((List.range c).filter λx=>!decide (x∈bf p.1) && !decide (k∈bf x)).flatMap λx=>[x]))
   (K₁:=λk m cm=>((∃ t,m (sO "a")=some (.int (p.1:Int) t))/\∃ t,m (sO "b")=some (.int (p.2:Int) t))/\∃ t,m (sO "c")=some (.int (k:Int) t)) rfl rfl (by intro g' h;cases h;rfl) I.le O (λhh m cm hr F hK=>?src)
   (λk v s m cm hx hB hs F hK=>?asg2) (λk hh m cm hk hr F hK=>Ts.nil) (λk m cm hK=>hK.1) λk hk hpk=>?loop2
  case src=>
   refine byC0 λzn=>?_;refine s1_1 hK λ_ t2 e2=>?_;clear hK;refine zn ?_;clear zn
   exact Src.list (a:=ca) (items:=us.toArray) ok.hd (Yd.lsub (h1.at λo e=>hr.get _ _ e) (Yd.namV (F.cel (x:=sO "behind") (hcB.keeps hr.get) rfl rfl rfl)) (Yd.namI (F.var (x:=sO "b") rfl rfl e2)) (by simpa using e1) (by omega)) hus.isList (show Paired IsN (bf p.2) us.toArray.toList from hup)
  case asg2=>
   refine byC0 λzn=>?_;refine q0_2 hK λz1 z2=>?_;clear hK;refine q1_1 z1 λt1 e1=>?_;clear z1;refine q1_1 z2 λt2 e2=>?_;clear z2;refine zn ?_;clear zn
   exact (asg_loc F rfl rfl).to λ_ s'' q=>e0_2 q.1 (e2_3 _ _ q.2 (e0_2 ⟨t1,by simp +decide [up];exact e1⟩ (e1_1 t2 (by simp +decide [up];exact e2))) (by refine q1_1 hB λt z1=>?_;clear hB;subst z1;exact⟨t,by simp [up]⟩))
  case loop2=>
   refine emit_loop (xs:=List.range c) (B:=IsN) (p:=λx=>!decide (x∈bf p.1) && !decide (k∈bf x)) (f:=λx=>[x])
    (K₁:=λx m cm=>(((∃ t,m (sO "a")=some (.int (p.1:Int) t))/\∃ t,m (sO "b")=some (.int (p.2:Int) t))/\∃ t,m (sO "c")=some (.int (k:Int) t))/\∃ t,m (sO "x")=some (.int (x:Int) t)) rfl rfl (by intro g' h;cases h) I.le O (λhh m cm hr F hK=>?src3)
    (λx v s m cm hx hB hs F hK=>?asg3) (λx hh m cm hx hr F hK=>?test3) (λx m cm hK=>hK.1) λx hx hpx=>emit_leaf rfl I.le O λhh m' cm' hr F hK=>?leaf3
   case src3=>exact (Src.range ok.hd (VR ((hb.trans I.le).trans hr) rfl rfl rfl rfl) (Yd.namI (F.cel (x:=sO "count") (hcC.keeps hr.get) rfl rfl rfl)) (by omega):Src w A _ hh _ _ (List.range c) _)
   case asg3=>
    refine byC0 λzn=>?_;refine q0_2 hK λz1 z4=>?_;clear hK;refine q0_2 z1 λz2 z3=>?_;clear z1;refine q1_1 z2 λt1 e1=>?_;clear z2;refine q1_1 z3 λt2 e2=>?_;clear z3;refine q1_1 z4 λt3 e3=>?_;clear z4;refine zn ?_;clear zn
    exact (asg_loc F rfl rfl).to λ_ s'' q=>e0_2 q.1 (e2_3 _ _ q.2 (e0_2 (e0_2 ⟨t1,by simp +decide [up];exact e1⟩ (e1_1 t2 (by simp +decide [up];exact e2))) (e1_1 t3 (by simp +decide [up];exact e3))) (by refine q1_1 hB λt z1=>?_;clear hB;subst z1;exact⟨t,by simp [up]⟩))
   case test3=>
    refine byC0 λzn=>?_;refine q0_2 hK λz1 z6=>?_;clear hK;refine q0_2 z1 λz2 z5=>?_;clear z1;refine q0_2 z2 λz3 z4=>?_;clear z2;refine q1_1 z3 λt1 e1=>?_;clear z3;refine q1_1 z4 λt2 e2=>?_;clear z4;refine q1_1 z5 λt3 e3=>?_;clear z5;refine q1_1 z6 λt4 e4=>?_;clear z6;refine zn ?_;clear zn
    have hxc:x<c:=List.mem_range.mp hx
    have Vb:=F.cel (x:=sO "behind") (hcB.keeps hr.get) rfl rfl rfl
    exact Ts.one (Td.and2 (Td.notInList (a:=0) (Yd.namI (F.var (x:=sO "x") rfl rfl e4)) (Yd.lrow hLL (I.le.trans hr) (Yd.namV Vb) (Yd.namI (F.var (x:=sO "a") rfl rfl e1)) (map_range_get bf hpc.1) (by omega)))
     (Td.notInList (a:=0) (Yd.namI (F.var (x:=sO "c") rfl rfl e3)) (Yd.lrow hLL (I.le.trans hr) (Yd.namV Vb) (Yd.namI (F.var (x:=sO "x") rfl rfl e4)) (map_range_get bf hxc) (by omega))))
   case leaf3=>
    refine byC0 λzn=>?_;refine s1_1 hK λ_ t4 e4=>?_;clear hK;refine zn ?_;clear zn
    exact Yd.nam (F.var (x:=sO "x") rfl rfl e4) λ_ _=>⟨t4,rfl⟩
 ·refine byC0 λzn=>?_;refine q0_2 q λz1 z2=>?_;clear q;subst z1;refine s2_4 z2 λE v b' l I' hv _=>?_;clear z2;refine zn ?_;clear zn
  exact e0_3 rfl E (e2_3 v b' l I' hv)
theorem zall:∀ p,zR p:=all1 zaux
end
end Z21
theorem law_apart {w A s₀ s b b₀ pm cd L m cm mg mb mN K n c tc Ba bf}:Z21.zQ w A s₀ s b b₀ pm cd L m cm mg mb mN K n c tc Ba bf:=Z21.zall ((((w,A),(s₀,(s,b))),((b₀,pm),(cd,(L,m)))),(((cm,mg),(mb,(mN,K))),((n,c),(tc,(Ba,bf)))))
section
open PySem PySem.Calls PyProof.Rows PySem.W PySem.W.X PySem.SeqAt
noncomputable def plc:Nat->List Evt->Evt->Nat
 | _,[],_=>0
 | n,x::r,e=>if x=e then n+(uCps x).length-1 else plc (n+(uCps x).length) r e
theorem plc_mem {e:Evt}:∀ {ev:List Evt} {n:Nat},e∈ev->(plc n ev e,e)∈bkFrom n ev
 | x::r,n,h=>by
  unfold plc bkFrom
  by_cases hx:x=e
  ·rw [if_pos hx,hx];exact zH ..
  ·rw [if_neg hx]
   rcases zC h with h | h
   ·exact absurd h.symm hx
   ·exact zT (plc_mem h)
theorem uCps_inj {a b:Evt} (h:uCps a=uCps b):a=b:=by
 refine byC0 λzn=>?_
 rcases a with ⟨c,i⟩
 rcases b with ⟨d,j⟩
 refine zn ?_;clear zn
 cases c<;>cases d<;>simp [uCps] at h
 ·rw [h]
 ·rw [h]
theorem run_nodup {ps:List (Nat×Nat)} {N:Nat} {o:Int} {ln:Nat->Nat} {ev:List Evt} (h:Run ps N o ln ev):ev.Nodup:=by
 induction h with
 | nil=>exact List.nodup_nil
 | @snoc ev x hr hx ih=>
  rw [List.nodup_append]
  refine⟨ih,by simp,λa ha b hb e=>?_⟩
  rw [List.mem_singleton] at hb
  subst hb
  subst e
  rcases a with ⟨c,j⟩
  cases c with
  | false=>exact hx.2.1 (mem_outs.mpr ha)
  | true=>exact hx.2.1 (mem_dns.mpr ha)
theorem bk_keys (ev:List Evt):∀ n,((bkFrom n ev).map λp=>(p.1,uCps p.2)).map ukey=ev.map λe=>(⟨(uCps e).toArray⟩:Str):=by
 induction ev with
 | nil=>intro n;rfl
 | cons e r ih=>intro n;unfold bkFrom;simp only [List.map_cons,ih];rfl
theorem keys_nodup {ev:List Evt} (h:ev.Nodup):(((bkFrom 0 ev).map λp=>(p.1,uCps p.2)).map ukey).Nodup:=by
 rw [bk_keys]
 refine List.pairwise_map.mpr (List.Pairwise.imp (λ{a b} hab e=>hab (uCps_inj ?_)) h)
 have:=congrArg Str.cps e
 simpa using this
theorem pl_at {w:World} {ev:List Evt} {kv:List (Str×Value)} (h:∀ u∈(bkFrom 0 ev).map λp=>(p.1,uCps p.2),∃ t,valueAt kv (ukey u)=some (.int (u.1:Int) t)) {e:Evt} (he:e∈ev):∃ t,valueAt kv ⟨(uCps e).toArray⟩=some (.int (plc 0 ev e:Int) t):=
 h (plc 0 ev e,uCps e) (List.mem_map.mpr (e1_2 _ (plc_mem he) rfl))
noncomputable def ovOf (ns:List Int) (ev:List Evt) (i:Nat):List Nat:=overF (λi=>plc 0 ev (true,i)) (λi=>plc 0 ev (false,i)) (cOf ns) i
noncomputable def bfOf (ns:List Int) (i:Nat):List Nat:=behF (psOf ns) (cOf ns) i
noncomputable def lawSays (ns:List Int) (ev:List Evt):Bool:=decide ((List.range (cOf ns)).map (ovOf ns ev)=(List.range (cOf ns)).map (bfOf ns)) == ((crOf (bfOf ns) (dueOf (bfOf ns) (cOf ns))).isEmpty && (((oOf ns:Int) == 0) || (apOf (bfOf ns) (cOf ns) (dueOf (bfOf ns) (cOf ns))).isEmpty))
noncomputable def natsD (l:List Nat):PyData:=.list (l.map λ(i:Nat)=>PyData.int (i:Int))
theorem natsD_eq (l:List Nat):natsD l=.list ((l.map λ(i:Nat)=>(i:Int)).map PyData.int):=by unfold natsD;rw [List.map_map];rfl
theorem readsAll_ll {h:Heap}:∀ {ls:List (List Nat)} {vs:List Value},Paired (λl v=>∃ a,v=Value.ref a/\NatL h a l) ls vs->∃ as,ReadsAll h vs (ls.map natsD) as:=by
 intro _ _ h
 induction h with
 | nil=>exact⟨[],.nil⟩
 | cons a t ih=>
  refine q1_2 a λc z1 z2=>?_;clear a;subst z1;refine q1_2 z2 λus hus hup=>?_;clear z2
  refine q1_1 ih λas r=>?_
  have r1:=reads_of_ints hus.isList (ints_of hup)
  rw [← natsD_eq] at r1
  exact⟨_,ReadsAll.cons r1 r⟩
theorem depthAll_ll:∀ ls:List (List Nat),PyData.depthAll (ls.map natsD)<=2
 | []=>by simp [PyData.depthAll]
 | l::r=>by
  have h1:=depthAll_ll r
  have h2:=PySem.W.depthAll_ints (l.map λ(i:Nat)=>(i:Int))
  simp only [List.map_cons,PyData.depthAll,natsD_eq,PyData.depth]
  omega
theorem canLay_ll:∀ ls:List (List Nat),PyData.canLayAll0 (ls.map natsD)=true
 | []=>by simp [PyData.canLayAll0]
 | l::r=>by
  have h2:=canLayAll0_ints (l.map λ(i:Nat)=>(i:Int))
  simp only [List.map_cons,PyData.canLayAll0,natsD_eq,PyData.canLay0,canLay_ll r,h2,Bool.and_self]
theorem shaped_ll (ls:List (List Nat)):shaped (.list (ls.map natsD))=true:=by
 have h1:=depthAll_ll ls
 have h2:PyData.depth (.list (ls.map natsD))<=64:=by simp only [PyData.depth];omega
 show (PyData.canLay0 (.list (ls.map natsD)) && decide (PyData.depth (.list (ls.map natsD))<=64))=true
 rw [Bool.and_eq_true]
 exact⟨by simp only [PyData.canLay0];exact canLay_ll ls,decide_eq_true h2⟩
theorem noMix_ll:∀ ls ms:List (List Nat),noMixAll (ls.map natsD) (ms.map natsD)=true
 | [],[]=>by simp [noMixAll]
 | [],_::_=>by simp [noMixAll]
 | _::_,[]=>by simp [noMixAll]
 | l::r,k::q=>by simp only [List.map_cons,noMixAll,natsD_eq,noMix,noMix_ints,noMix_ll r q,Bool.and_self]
theorem nat_map_eq {l k:List Nat}:(l.map λ(i:Nat)=>(i:Int))=(k.map λ(i:Nat)=>(i:Int)) ↔ l=k:=by
 constructor
 ·intro h
  have:=congrArg (List.map Int.toNat) h
  simpa [List.map_map,Function.comp_def] using this
 ·intro h;rw [h]
theorem same_ll:∀ ls ms:List (List Nat),PySem.Spec.sameAll (ls.map natsD) (ms.map natsD)=decide (ls=ms)
 | [],[]=>by simp [PySem.Spec.sameAll]
 | [],_::_=>by simp [PySem.Spec.sameAll]
 | _::_,[]=>by simp [PySem.Spec.sameAll]
 | l::r,k::q=>by
  simp only [List.map_cons,PySem.Spec.sameAll,natsD_eq,PySem.Spec.same,same_ints,same_ll r q]
  rw [Bool.eq_iff_iff]
  simp only [Bool.and_eq_true,decide_eq_true_eq,nat_map_eq,List.cons.injEq]
section
variable {w:World} {A:Around} {b h:Heap} {env:Env}
theorem Yd.andB {l r:Expr} {q:Pos} {i j:Bool} (x:Yd w A b h env l (IsB i)) (y:Yd w A b h env r (IsB j)):Yd w A b h env (.BoolOp .And [l,r] q) (IsB (i && j)):=λs hb hs=>by
 refine wpAny_And2 ((x s hb hs).to λv s1 q1=>?_)
 have e:v=.bool i:=q1.2 _ (hb.trans q1.1.le) (Nw.self _ _)
 subst e
 refine wpAny_truthy_bool ?_
 cases i with
 | true=>
  simp only [if_true,Bool.true_and]
  exact (y s1 (hb.trans q1.1.le) (hs.trans q1.1.le)).to λv s2 q2=>⟨q1.1.trans q2.1,λg hg n=>q2.2 g hg (n.right q1.1.le)⟩
 | false=>exact⟨q1.1,λ_ _ _=>rfl⟩
theorem Yd.orB {l r:Expr} {q:Pos} {i j:Bool} (x:Yd w A b h env l (IsB i)) (y:Yd w A b h env r (IsB j)):Yd w A b h env (.BoolOp .Or [l,r] q) (IsB (i || j)):=λs hb hs=>by
 refine wpAny_Or2 ((x s hb hs).to λv s1 q1=>?_)
 have e:v=.bool i:=q1.2 _ (hb.trans q1.1.le) (Nw.self _ _)
 subst e
 refine wpAny_truthy_bool ?_
 cases i with
 | false=>
  simp only [Bool.false_eq_true,if_false,Bool.false_or]
  exact (y s1 (hb.trans q1.1.le) (hs.trans q1.1.le)).to λv s2 q2=>⟨q1.1.trans q2.1,λg hg n=>q2.2 g hg (n.right q1.1.le)⟩
 | true=>exact⟨q1.1,λ_ _ _=>rfl⟩
theorem Yd.eqNil {l:Expr} {p p2:Pos} {ns:List Nat} (hu:A.units+64<cLine) (x:Yd w A b h env l (λv g=>∃ a,v=.ref a/\NatL g a ns)) (hm:autoParam (behindInMarks .Eq (.List [] p2)=false) auR):Yd w A b h env (.Compare l [.Eq] [.List [] p2] p) (IsB ns.isEmpty):=
 Yd.cmp x (Yd.lst Yds.nil) (λu v s _ _ hu' hv=>by
  refine byC0 λzn=>?_
  refine q1_2 hu' λa z1 z2=>?_;clear hu';subst z1;refine q1_2 z2 λvs hvs hp=>?_;clear z2
  refine q2_2 hv λD us z1 z2=>?_;clear hv;subst z1;refine q0_2 z2 λhD hus=>?_;clear z2
  refine zn ?_;clear zn
  cases hus
  refine eq_intsK hvs.isList (ints_of hp) hD.isList .nil hu ⟨Kp.refl s,?_⟩
  cases ns<;>simp) hm
theorem Yd.eqLL {l r:Expr} {p:Pos} {a c:Addr} {ls ms:List (List Nat)} (hu:A.units+64<cLine) (x:Yd w A b h env l (IsV (.ref a))) (y:Yd w A b h env r (IsV (.ref c))) (h1:LL b b a ls) (h2:LL b b c ms) (hm:autoParam (behindInMarks .Eq r=false) auR):Yd w A b h env (.Compare l [.Eq] [r] p) (IsB (decide (ls=ms))):=
 Yd.cmp x y (λu v s lb _ hu' hv=>by
  cases hu';cases hv
  refine byC0 λzn=>?_
  refine q1_2 (h1.le lb) λvs z1 p1=>?_;refine q1_3 z1 λo1 e1 c1 z2=>?_;clear z1;refine q1_1 z2 λn1 d1=>?_;clear z2
  refine q1_2 (h2.le lb) λus z1 p2=>?_;refine q1_3 z1 λo2 e2 c2 z2=>?_;clear z1;refine q1_1 z2 λn2 d2=>?_;clear z2
  refine q1_1 (readsAll_ll p1) λas r1=>?_
  refine q1_1 (readsAll_ll p2) λbs r2=>?_
  refine zn ?_;clear zn
  refine eq_dataH_same (Reads.list e1 c1 d1 (by simpa using r1)) (Reads.list e2 c2 d2 (by simpa using r2)) (shaped_ll ls) (shaped_ll ms) hu (by rw [noMix];exact noMix_ll _ _) ⟨Kp.refl s,?_⟩
  rw [PySem.Spec.same,same_ll]) hm
end
end
section
open PySem PySem.Calls PyProof.Rows PySem.W PySem.W.X
theorem beh_lt (ps:List (Nat×Nat)) (c i:Nat):∀ k∈behF ps c i,k<c:=by
 have key:∀ (l:List Nat) (B:Nat->List Nat),(∀ j,∀ k∈B j,k<c)->∀ j,∀ k∈(l.foldl (bUpd ps c) B) j,k<c:=by
  intro l
  induction l with
  | nil=>intro B hB j;exact hB j
  | cons a r ih=>
   intro B hB j
   refine ih (bUpd ps c B a) (λj k hk=>?_) j
   unfold bUpd at hk
   split at hk
   ·unfold bStep at hk
    exact List.mem_range.mp (List.mem_filter.mp hk).1
   ·exact hB j k hk
 exact key _ _ (λ_ _ h=>absurd h List.not_mem_nil) i
namespace Z19
noncomputable section
def zQ (w:World) (A:Around) (s₀:Shared) (b₀ b7:Heap) (pm cd:Value) (L:Addr) (m cm mg mb mN:SoV) (K:Frag) (ev:List Mine.Internal.Evt) (ns:List Int) (n:Nat) (s7:Shared):Prop:=∀ (ok:Ok n A) (hu:A.units+64<cLine) (S:St w mg mb mN K b₀) (C:Con mg mb mN K) (F28:∃ pm cd,FnAt b₀ 28 (gnFd pm cd)) (Z:Fr7 w ns s₀ s7 b₀ b7 pm cd L m cm ev) (hcheck:∀ p∈dueOf (bfOf ns) (cOf ns),p.2∈ovOf ns ev p.1),Wp w A (execs ((fBody (top 15)).drop 7) (lawEnv pm cd L 177)) (λfl s'=>fl=.ret (.bool (lawSays ns ev))/\(∃ h' tk',s'={ s7 with heap:=h',toks:=tk',gens:=s7.gens.push .finished })/\Le b7 s'.heap) s7
abbrev zY:=((((World×Around)×(Shared×Heap))×((Heap×Value)×(Value×(Addr×SoV))))×(((SoV×SoV)×(SoV×SoV))×((Frag×(List Mine.Internal.Evt))×((List Int)×(Nat×Shared)))))
def zR (p:zY):=zQ p.1.1.1.1 p.1.1.1.2 p.1.1.2.1 p.1.1.2.2 p.1.2.1.1 p.1.2.1.2 p.1.2.2.1 p.1.2.2.2.1 p.1.2.2.2.2 p.2.1.1.1 p.2.1.1.2 p.2.1.2.1 p.2.1.2.2 p.2.2.1.1 p.2.2.1.2 p.2.2.2.1 p.2.2.2.2.1 p.2.2.2.2.2
def zc:zY:=eps1 (neP (neP (neP (neP neW neA) (neP neS neI)) neI) (neP neI (neP neI (neP neI (neP neI neS))))) zR
def w:=zc.1.1.1.1
def A:=zc.1.1.1.2
def s₀:=zc.1.1.2.1
def b₀:=zc.1.1.2.2
def b7:=zc.1.2.1.1
def pm:=zc.1.2.1.2
def cd:=zc.1.2.2.1
def L:=zc.1.2.2.2.1
def m:=zc.1.2.2.2.2
def cm:=zc.2.1.1.1
def mg:=zc.2.1.1.2
def mb:=zc.2.1.2.1
def mN:=zc.2.1.2.2
def K:=zc.2.2.1.1
def ev:=zc.2.2.1.2
def ns:=zc.2.2.2.1
def n:=zc.2.2.2.2.1
def s7:=zc.2.2.2.2.2
theorem zaux:zQ w A s₀ b₀ b7 pm cd L m cm mg mb mN K ev ns n s7:=by
 intro ok hu S C F28 Z hcheck
 refine byC0 λzn=>?_
 refine q1_2 (Z.beh) λBa hbe hLL=>?_
 refine q1_1 (Z.cnt) λtc hcnt=>?_
 refine q1_1 (Z.odd) λod hodd=>?_
 refine zn ?_;clear zn
 have hc:=cOf_b ns
 have hbf:∀ i,(bfOf ns i).length<=6:=λi=>by have:=cD_len (psOf ns) (cOf ns) i;unfold bfOf;omega
 have hlt:∀ i,∀ k∈bfOf ns i,k<cOf ns:=λi k h=>beh_lt _ _ i k h
 have hLL':LL b7 b7 Ba ((List.range (cOf ns)).map (bfOf ns)):=hLL
 have evl:=run_len Z.run
 refine law_units (n:=n) ok hu S C F28 Z λs8 b8 v hs l8 I8 hv=>?_
 refine byC0 λzn=>?_;refine q2_2 hv λD ys z1 z2=>?_;clear hv;subst z1;refine q0_2 z2 λhD hys=>?_;clear z2;refine zn ?_;clear zn
 have mC:(sO "count",L+1)∈(lawEnv pm cd L 177).cells:=by rw [lawCells];simp
 have mB:(sO "behind",L+2)∈(lawEnv pm cd L 177).cells:=by rw [lawCells];simp
 have mP:(sO "places",L+3)∈(lawEnv pm cd L 177).cells:=by rw [lawCells];simp
 have mO:(sO "over",L+4)∈(lawEnv pm cd L 177).cells:=by rw [lawCells];simp
 have uC:∀ (x:Str) (c:Addr),(x,c)∈(lawEnv pm cd L 177).cells->∀ n c',(n,c')∈(lawEnv pm cd L 177).cells->n=x->c'=c:=λx c hx n c' hn he=>by
  have h1:=I8.fs.look _ _ hx
  have h2:=I8.fs.look _ _ hn
  rw [he,h1] at h2
  exact (Option.some.inj h2).symm
 have low8:=Z.low.trans l8
 refine seqn (ex_asgC (P:=IsPl w ((bkFrom 0 ev).map λp=>(p.1,uCps p.2))) I8 rfl rfl mP (uC _ _ mP)
  (Yd.places ok.hd (by rw [List.length_map,bkFrom_len];omega) (keys_nodup (run_nodup Z.run)) rfl rfl (by decide) (λ_=>rfl) (λ_=>rfl) (λ_=>rfl) (λ_=>rfl) (by decide) (by decide) (by decide) I8.le
   (Src.list ok.hd (Yd.namV (I8.fs.var (x:=sO "units") rfl rfl (by simp [up]))) ((hD.at λo e=>I8.le.get _ _ e).isList) (Paired.imp (λu v x=>x.le I8.le) hys))) rfl) λs9 q=>?_
 refine byC0 λzn=>?_;refine s2_3 q λE9 v9 b9 l9 I9 z2=>?_;clear q;refine q2_2 z2 λd kv z3 z4=>?_;clear z2;subst z3;refine q0_2 z4 λhd hkv=>?_;clear z4;refine zn ?_;clear zn
 refine seqn (law_over (n:=n) (c:=cOf ns) (tc:=tc) (d:=d) (kv:=kv) (pD:=λi=>plc 0 ev (true,i)) (pS:=λi=>plc 0 ev (false,i)) ok S C I9 (low8.trans l9) (by omega) (by simp +decide [up];exact hcnt) (by simp [up]) hd
  (λi hi=>pl_at (w:=w) hkv (mem_dns.mp (Z.fin i hi).2)) (λi hi=>pl_at (w:=w) hkv (mem_outs.mp (Z.fin i hi).1))) λs10 q=>?_
 refine byC0 λzn=>?_;refine s2_3 q λE10 v10 b10 l10 I10 z2=>?_;clear q;refine q1_2 z2 λOa z3 hOv=>?_;clear z2;subst z3;refine zn ?_;clear zn
 refine seqn (law_due (n:=n) (c:=cOf ns) (tc:=tc) (Ba:=Ba) (bf:=bfOf ns) ok S C I10 ((low8.trans l9).trans l10) (by omega) (by simp +decide [up];exact hcnt) (by simp +decide [up];exact hbe) (hLL'.le ((l8.trans l9).trans l10)) hbf) λs11 q=>?_
 refine byC0 λzn=>?_;refine s2_3 q λE11 v11 b11 l11 I11 hdv=>?_;clear q;refine zn ?_;clear zn
 have hOv11:LL b11 b11 Oa ((List.range (cOf ns)).map (ovOf ns ev)):=LL.le hOv l11
 have hLL11:=hLL'.le (((l8.trans l9).trans l10).trans l11)
 refine seqk (law_check (n:=n) (c:=cOf ns) (Oa:=Oa) (bf:=bfOf ns) (ov:=ovOf ns ev) ok hu I11 (by omega) (by simp [up]) hdv (by simp +decide [up]) hOv11 hbf hcheck λs12 k12=>nil_ ?_)
 have I12:=I11.kp k12
 refine seqn (law_crossed (n:=n) (c:=cOf ns) (Ba:=Ba) (bf:=bfOf ns) ok I12 (by omega) (by simp [up]) hdv (by simp +decide [up];exact hbe) hLL11 hbf) λs13 q=>?_
 refine byC0 λzn=>?_;refine s2_3 q λE13 v13 b13 l13 I13 hcr=>?_;clear q;refine zn ?_;clear zn
 have hdv13:IsL (λp v g=>IsNP p v g) (dueOf (bfOf ns) (cOf ns)) v11 b13:=by
  refine q2_2 hdv λD' ys' z1 z2=>?_;clear hdv;subst z1;refine q0_2 z2 λh1 h2=>?_;clear z2
  exact e2_3 D' ys' rfl (h1.at λo e=>l13.get _ _ e) (Paired.imp (λp v x=>x.le l13) h2)
 have low13:=(((low8.trans l9).trans l10).trans l11).trans l13
 refine seqn (law_apart (n:=n) (c:=cOf ns) (tc:=tc) (Ba:=Ba) (bf:=bfOf ns) ok S C I13 low13 (by omega) (by simp +decide [up];exact hcnt) (by simp [up]) hdv13 (by simp +decide [up];exact hbe) (hLL11.le l13) hbf hlt) λs14 q=>?_
 refine byC0 λzn=>?_;refine s2_3 q λE14 v14 b14 l14 I14 hap=>?_;clear q;refine zn ?_;clear zn
 have hOv14:=(hOv11.le l13).le l14
 have hLL14:=(hLL11.le l13).le l14
 have ncr:∀ g,Le b14 g->∃ a,v13=.ref a/\NatL g a (crOf (bfOf ns) (dueOf (bfOf ns) (cOf ns))):=λg hg=>by
  refine q1_2 (IsL.nat hcr) λa e hn=>?_
  exact e1_2 a e (hn.at λo e=>hg.get _ _ (l14.get _ _ e))
 have nap:∀ g,Le b14 g->∃ a,v14=.ref a/\NatL g a (apOf (bfOf ns) (cOf ns) (dueOf (bfOf ns) (cOf ns))):=λg hg=>by
  refine q1_2 (IsL.nat hap) λa e hn=>?_
  exact e1_2 a e (hn.at λo e=>hg.get _ _ e)
 refine seqk ((ex_ret (P:=IsB (lawSays ns ev)) I14.le (Yd.cmp (P₁:=IsB (decide ((List.range (cOf ns)).map (ovOf ns ev)=(List.range (cOf ns)).map (bfOf ns)))) (P₂:=IsB ((crOf (bfOf ns) (dueOf (bfOf ns) (cOf ns))).isEmpty && (((oOf ns:Int) == 0) || (apOf (bfOf ns) (cOf ns) (dueOf (bfOf ns) (cOf ns))).isEmpty)))
   (Yd.eqLL hu (Yd.namV (I14.fs.varC (x:=sO "over") (v:=.ref Oa) rfl rfl mO (by simp +decide [up]))) (Yd.namV (I14.fs.varC (x:=sO "behind") (v:=.ref Ba) rfl rfl mB (by simp +decide [up];exact hbe))) hOv14 hLL14)
   (Yd.andB (Yd.eqNil hu (Yd.nam (I14.fs.var (x:=sO "crossed") (v:=v13) rfl rfl (by simp +decide [up])) ncr)) (Yd.orB (Yd.cmp (P₁:=IsI (oOf ns:Int)) (P₂:=IsI 0) (Yd.namI (I14.fs.var (x:=sO "odd") (v:=.int (oOf ns:Int) od) rfl rfl (by simp +decide [up];exact hodd))) Yd.int (λu v s _ _ hu hv=>by refine q1_1 hu λt z1=>?_;clear hu;subst z1;refine byC0 λzn=>?_;refine q1_1 hv λt' z1=>?_;clear hv;subst z1;refine zn ?_;clear zn;exact eq_int ⟨Kp.refl s,rfl⟩)) (Yd.eqNil hu (Yd.nam (I14.fs.var (x:=sO "apart") (v:=v14) rfl rfl (by simp [up])) nap))))
   (λu v s _ _ hu hv=>by cases hu;cases hv;exact is_bool ⟨Kp.refl s,rfl⟩))).to λf s15 q=>?_)
 refine byC0 λzn=>?_;refine q1_2 q λv15 z1 z2=>?_;clear q;subst z1;refine q0_2 z2 λk15 hv15=>?_;clear z2;refine zn ?_;clear zn
 have hv15':=hv15 s15.heap (I14.le.trans k15.le) (Nw.self _ _)
 cases hv15'
 refine⟨rfl,?_,((((((l8.trans l9).trans l10).trans l11).trans l13).trans l14).trans I14.le).trans k15.le⟩
 refine byC0 λzn=>?_
 refine q2_1 hs λh' tk' e8=>?_;clear hs
 refine q2_1 (same_trans I14.same k15.same) λh2 tk2 e2=>?_
 refine zn ?_;clear zn
 exact e2_1 h2 tk2 (by rw [e2,e8])
theorem zall:∀ p,zR p:=all1 zaux
end
end Z19
theorem law_rest {w A s₀ b₀ b7 pm cd L m cm mg mb mN K ev ns n s7}:Z19.zQ w A s₀ b₀ b7 pm cd L m cm mg mb mN K ev ns n s7:=Z19.zall ((((w,A),(s₀,b₀)),((b7,pm),(cd,(L,m)))),(((cm,mg),(mb,mN)),((K,ev),(ns,(n,s7)))))
end
section
open PySem PySem.Calls PyProof.Rows PySem.W PySem.W.X
section
variable {w:World} {A:Around} {s:Shared} {b₀:Heap} {mg mb mN:SoV} {K:Frag}
theorem law_call {n:Nat} {ns:List Int} {vs:List Value} {a:Addr} (ok:Ok (n+10) A) (hdp:A.depth<=499) (hun:A.units<=1900) (hfr:A.frames=some []) (S:St w mg mb mN K b₀) (C:Con mg mb mN K) (C2:Con2 K) (F28:∃ pm cd,FnAt b₀ 28 (gnFd pm cd)) (F177:∃ pm cd,FnAt b₀ 177 (lawFd pm cd))
  (SV:Served w s.heap) (hb:Le b₀ s.heap) (htab:∀ a∈tabs2,(∃ ps,s.heap.get? a=some (tableObj ps))/\b₀.get? a=none) (hl:s.heap.IsList a vs.toArray) (hi:IntsAre vs ns) (hlen:vs.length<=63)
  (hP:∀ ev,Run (psOf ns) (cOf ns) (oOf ns:Int) (lnOf ns) ev->(∀ i,i<cOf ns->i∈outs ev/\i∈dns ev)->(∀ p∈dueOf (bfOf ns) (cOf ns),p.2∈ovOf ns ev p.1)/\lawSays ns ev=true) :
  codeAny (model Pg w) A (.call (.ref 177) ⟨[.ref a],[]⟩) (λr s'=>r=.ok (.ret (.bool true))/\(∃ h' tk',s'={ s with heap:=h',toks:=tk',gens:=s.gens.push .finished })/\(∀ a o,a∉tabs2->s.heap.get? a=some o->s'.heap.get? a=some o)/\
   Grown s.heap s'.heap 30/\Grown s.heap s'.heap 162) s:=by
 refine q2_1 F177 λpm cd F=>?_;clear F177
 refine call_fnC (n:=n+9) (binds:=[(sO "script",.ref a)]) [sO "due",sO "over",sO "places",sO "behind",sO "count"] ok (F.le hb) (S.le hb).lim rfl (by kernel_rfl) rfl (by kernel_rfl) (λ_=>by kernel_rfl) (by decide) (λ_=>by kernel_rfl) λs1 L m cm B I1 ok'=>?_
 have hfr':(A.deeper (lawEnv pm cd L 177)).frames=some [lawEnv pm cd L 177]:=Around.frames_deeper hfr
 have hdl:(A.deeper (lawEnv pm cd L 177)).depth=A.depth+1:=rfl
 have hul:(A.deeper (lawEnv pm cd L 177)).units=A.units+3:=rfl
 refine law_front (n:=n) (ns:=ns) (vs:=vs) (a:=a) ok' (by rw [hdl];omega) (by rw [hul];omega) hfr' S C C2 SV hb htab I1 (B 0 _ _ rfl) hl hi hlen λs7 b7 m cm ev Z=>?_
 refine q0_2 (hP ev Z.run Z.fin) λhch hsay=>?_
 refine (law_rest (n:=n+9) ok' (by have:=ok'.un;omega) S C F28 Z hch).to λfl s' q=>?_
 refine byC0 λzn=>?_;refine q0_2 q λz1 z2=>?_;clear q;subst z1;refine q0_2 z2 λhs hle=>?_;clear z2;refine zn ?_;clear zn
 have gr:∀ a,Grown s.heap s7.heap a->Grown s.heap s'.heap a:=λa hg=>by
  refine q2_2 hg λps more e1 e2=>?_;clear hg
  exact e2_2 ps more e1 (hle.get _ _ (Z.all a _ (Z.old a _ e1) e2))
 refine⟨?_,?_,λa o ha e=>hle.get _ _ (Z.all a o (Z.old a o e) (Z.keep a o ha e)),gr 30 Z.g30,gr 162 Z.g162⟩
 ·show Except.ok (Flow.ret (retOf (.ret (.bool (lawSays ns ev)))))=_
  rw [hsay];rfl
 ·refine byC0 λzn=>?_
  refine q2_1 (Z.same) λh1 t1 e1=>?_
  refine q2_1 hs λh2 t2 e2=>?_;clear hs
  refine zn ?_;clear zn
  exact e2_1 h2 t2 (by rw [e2,e1])
end
end
section
open PySem
theorem run_split {ps:List (Nat×Nat)} {N:Nat} {o:Int} {ln:Nat->Nat} {ev:List Evt} (h:Run ps N o ln ev):∀ (a:List Evt) (x:Evt) (b:List Evt),ev=a++x::b->Run ps N o ln a/\Hist ps N o ln a x:=by
 induction h with
 | nil=>intro a x b e;simp at e
 | @snoc ev y hr hy ih=>
  intro a x b e
  (rcases List.eq_nil_or_concat b with z0 | z1)<;>(first | subst z0 | (refine q2_1 z1 λb' z z2=>?_;clear z1;subst z2) | skip)
  ·have:=List.append_inj' e rfl
   refine q0_2 this λz1 h2=>?_;clear this;rcases z1.symm with rfl
   cases h2
   exact⟨hr,hy⟩
  ·rw [List.concat_eq_append,← List.cons_append,← List.append_assoc] at e
   have:=List.append_inj' e rfl
   exact ih a x b' this.1
theorem run_at {ps:List (Nat×Nat)} {N:Nat} {o:Int} {ln:Nat->Nat} {ev:List Evt} (h:Run ps N o ln ev) (i:Nat) (hi:i<ev.length):Run ps N o ln (ev.take i)/\Hist ps N o ln (ev.take i) ev[i]:=
 run_split h (ev.take i) ev[i] (ev.drop (i+1)) (by
  rw [← List.drop_eq_getElem_cons hi,List.take_append_drop])
theorem mem_take_idx (x:Evt):∀ (l:List Evt) (i:Nat),x∈l->(x∈l.take i ↔ l.idxOf x<i)
 | [],i,h=>by cases h
 | y::r,0,h=>by simp
 | y::r,i+1,h=>by
  rw [List.take_succ_cons,List.mem_cons,List.idxOf_cons]
  by_cases hy:y=x
  ·subst hy;simp
  ·have hr:x∈r:=(zC h).resolve_left λe=>hy e.symm
   have:=mem_take_idx x r i hr
   have hb:(y == x)=false:=by simpa using hy
   rw [hb]
   simp only [cond_false,this]
   constructor
   ·(intro zr;rcases zr with e | e)
    ·exact absurd e.symm hy
    ·omega
   ·intro e;exact .inr (by omega)
theorem idx_lt {x:Evt} {l:List Evt} (h:x∈l):l.idxOf x<l.length:=by
 have:=(mem_take_idx x l l.length h).mp (by rw [List.take_length];exact h)
 exact this
theorem idx_get {x:Evt}:∀ {l:List Evt} (h:x∈l),l[l.idxOf x]?=some x
 | y::r,h=>by
  rw [List.idxOf_cons]
  by_cases hy:y=x
  ·subst hy;simp
  ·have hr:x∈r:=(zC h).resolve_left λe=>hy e.symm
   have hb:(y == x)=false:=by simpa using hy
   rw [hb]
   simpa using idx_get hr
theorem cnt_le {P Q:Nat->Bool}:∀ (l:List Nat),(∀ g∈l,P g=true->Q g=true)->(l.filter P).length<=(l.filter Q).length
 | [],_=>by simp
 | a::r,h=>by
  have h1:=cnt_le r λg hg=>h g (zT hg)
  have h2:=h a (zH ..)
  rw [List.filter_cons,List.filter_cons]
  by_cases hp:P a=true
  ·rw [if_pos hp,if_pos (h2 hp)];simp;omega
  ·rw [if_neg hp]
   split
   ·simp;omega
   ·exact h1
theorem cnt_lt {P Q:Nat->Bool} {a:Nat}:∀ (l:List Nat),(∀ g∈l,P g=true->Q g=true)->a∈l->Q a=true->P a=false->(l.filter P).length<(l.filter Q).length
 | [],_,ha,_,_=>by cases ha
 | b::r,h,ha,hq,hp=>by
  have h0:=cnt_le r λg hg=>h g (zT hg)
  rw [List.filter_cons,List.filter_cons]
  by_cases hb:b=a
  ·subst hb
   rw [if_neg (by simp [hp]),if_pos hq];simp;omega
  ·have h1:=cnt_lt r (λg hg=>h g (zT hg)) ((zC ha).resolve_left λe=>hb e.symm) hq hp
   by_cases hp':P b=true
   ·rw [if_pos hp',if_pos (h b (zH ..) hp')];simp;omega
   ·rw [if_neg hp']
    split
    ·simp;omega
    ·exact h1
structure Sched (ps:List (Nat×Nat)) (N:Nat) (o:Int) (ln:Nat->Nat) (pS pD:Nat->Nat) (rd:Nat->Nat):Prop where
 injD:∀ x y,x<N->y<N->pD x=pD y->x=y
 ne:∀ x y,x<N->y<N->pS x≠pD y
 injS:∀ x y,x<N->y<N->pS x=pS y->x=y
 pred:∀ p∈ps,pD p.1<pS p.2
 out:∀ x,x<N->pS x<pD x
 choice:∀ g y,g<N->y<N->pS y<pD g->¬ pD y<pD g->o * (rd g:Int) * 1000-(ln g:Int)<=o * (rd y:Int) * 1000-(ln y:Int)
 eager:∀ g k,g<N->k<N->(∀ p∈ps,p.2=k->pD p.1<pD g)->pS k<pD g
 rlt:∀ x y g,x<N->y<N->g<N->pS x<pD g->pD g<pS y->rd x<rd y
 rle:∀ x y,x<N->y<N->(∀ g,g<N->pD g<pS y->pD g<pS x)->rd y<=rd x
theorem sched_of {ps:List (Nat×Nat)} {N:Nat} {o:Int} {ln:Nat->Nat} {ev:List Evt} (hpl:∀ p∈ps,p.1<p.2/\p.2<N) (h:Run ps N o ln ev) (fin:∀ i,i<N->i∈outs ev/\i∈dns ev) :
  Sched ps N o ln (λk=>ev.idxOf (false,k)) (λk=>ev.idxOf (true,k)) (rnd ev):=by
 have mS:∀ k,k<N->(false,k)∈ev:=λk hk=>mem_outs.mp (fin k hk).1
 have mD:∀ k,k<N->(true,k)∈ev:=λk hk=>mem_dns.mp (fin k hk).2
 have inj:∀ {x y:Evt},x∈ev->y∈ev->ev.idxOf x=ev.idxOf y->x=y:=λ{x y} hx hy e=>by
  have h1:=idx_get hx
  have h2:=idx_get hy
  rw [e,h2] at h1
  exact (Option.some.inj h1).symm
 have at_:∀ {x:Evt},x∈ev->Run ps N o ln (ev.take (ev.idxOf x))/\Hist ps N o ln (ev.take (ev.idxOf x)) x:=λ{x} hx=>by
  have h1:=run_at h (ev.idxOf x) (idx_lt hx)
  have h2:=idx_get hx
  rw [List.getElem?_eq_getElem (idx_lt hx)] at h2
  rw [Option.some.inj h2] at h1
  exact h1
 have td:∀ {x:Nat} {i:Nat},x<N->(x∈dns (ev.take i) ↔ ev.idxOf (true,x)<i):=λ{x i} hx=>by rw [mem_dns];exact mem_take_idx _ _ _ (mD x hx)
 have ts:∀ {x:Nat} {i:Nat},x<N->(x∈outs (ev.take i) ↔ ev.idxOf (false,x)<i):=λ{x i} hx=>by rw [mem_outs];exact mem_take_idx _ _ _ (mS x hx)
 have rd0:∀ {y i},y<N->ev.idxOf (false,y)<i->rnd (ev.take i) y=rnd ev y:=λ{y i} hy hi=>by
  have:=rnd_app (a:=ev.take i) (i:=y) ((ts hy).mpr hi) (ev.drop i)
  rw [List.take_append_drop] at this
  exact this.symm
 have rdc:∀ y,y<N->rnd ev y=((List.range N).filter λg=>decide (ev.idxOf (true,g)<ev.idxOf (false,y))).length:=λy hy=>by
  have h1:=at_ (mS y hy)
  have hne:y∉outs (ev.take (ev.idxOf (false,y))):=h1.2.2.1
  have h2:=rnd_new hne
  have e1:ev.take (ev.idxOf (false,y))++[(false,y)]=ev.take (ev.idxOf (false,y)+1):=by
   rw [List.take_add_one,idx_get (mS y hy)];rfl
  rw [e1,rd0 hy (Nat.lt_succ_self _)] at h2
  rw [h2]
  refine List.Perm.length_eq ((List.perm_ext_iff_of_nodup h1.1.dnN (List.nodup_range.filter _)).mpr λg=>?_)
  rw [List.mem_filter,List.mem_range,decide_eq_true_eq]
  constructor
  ·intro hg
   have hgN:g<N:=h1.1.lt g (h1.1.sub g hg)
   exact⟨hgN,(td hgN).mp hg⟩
  ·intro ⟨hgN,hg⟩
   exact (td hgN).mpr hg
 refine⟨λx y hx hy e=>(Prod.mk.inj (inj (mD x hx) (mD y hy) e)).2,λx y hx hy e=>?_,λx y hx hy e=>(Prod.mk.inj (inj (mS x hx) (mS y hy) e)).2,λp hp=>?_,λx hx=>?_,λg y hg hy h1 h2=>?_,λg k hg hk hpk=>?_,λx y g hx hy hg h1 h2=>?_,λx y hx hy hg=>?_⟩
 ·have:=(Prod.mk.inj (inj (mS x hx) (mD y hy) e)).1
  cases this
 ·refine q0_2 (hpl p hp) λh1 h2=>?_
  exact (td (by omega)).mp ((at_ (mS p.2 h2)).2.2.2 p hp rfl)
 ·exact (ts hx).mp (at_ (mD x hx)).2.1
 ·have hh:=(at_ (mD g hg)).2.2.2.1 y ((ts hy).mpr h1) (λhm=>h2 ((td hy).mp hm))
  have hgo:=(ts hg).mp (at_ (mD g hg)).2.1
  unfold kkey at hh
  rw [rd0 hg hgo,rd0 hy h1] at hh
  exact hh
 ·refine (ts hk).mp ((at_ (mD g hg)).2.2.2.2 k hk λp hp e=>?_)
  refine q0_2 (hpl p hp) λh1 h2=>?_
  exact (td (by omega)).mpr (hpk p hp e)
 ·rw [rdc x hx,rdc y hy]
  refine cnt_lt (a:=g) _ (λz hz hzx=>?_) (List.mem_range.mpr hg) (by simpa using h2) (by simp;omega)
  simp at hzx ⊢
  omega
 ·rw [rdc x hx,rdc y hy]
  refine cnt_le _ λz hz hzy=>?_
  simp at hzy ⊢
  exact hg z (List.mem_range.mp hz) hzy
end
section
open PySem
structure Beh (ps:List (Nat×Nat)) (N:Nat) (bf:Nat->List Nat):Prop where
 lt:∀ i,∀ k∈bf i,k<N
 edge:∀ p∈ps,p.2∈bf p.1
 step:∀ x m k,(x,m)∈ps->k∈bf m->k∈bf x
 inv:∀ x k,x<N->k∈bf x->(x,k)∈ps\/∃ m,(x,m)∈ps/\k∈bf m
 nodup:∀ i,(bf i).Nodup
section
variable {ps:List (Nat×Nat)} {N:Nat} {bf:Nat->List Nat} {o:Int} {ln:Nat->Nat} {pS pD rd:Nat->Nat}
theorem Beh.trans (hpl:∀ p∈ps,p.1<p.2/\p.2<N) (B:Beh ps N bf):∀ (d x m k:Nat),N-x<=d->x<N->m∈bf x->k∈bf m->k∈bf x:=by
 intro d
 induction d with
 | zero=>intro x m k h1 h2;omega
 | succ d ih=>
  intro x m k h1 hx hm hk
  (rcases B.inv x m hx hm with h | z1)<;>(first | (refine q1_2 z1 λz hz hmz=>?_;clear z1) | skip)
  ·exact B.step x m k h hk
  ·refine q0_2 (hpl _ hz) λh3 h4=>?_
   exact B.step x z k hz (ih z m k (by simp at h3 h4;omega) h4 hmz hk)
theorem Sched.over (hpl:∀ p∈ps,p.1<p.2/\p.2<N) (S:Sched ps N o ln pS pD rd) (B:Beh ps N bf):∀ (d x k:Nat),N-x<=d->x<N->k∈bf x->pD x<pS k:=by
 intro d
 induction d with
 | zero=>intro x k h1 h2;omega
 | succ d ih=>
  intro x k h1 hx hk
  (rcases B.inv x k hx hk with h | z1)<;>(first | (refine q1_2 z1 λm hm hkm=>?_;clear z1) | skip)
  ·exact S.pred _ h
  ·refine q0_2 (hpl _ hm) λh3 h4=>?_
   have h5:=ih m k (by simp at h3 h4;omega) h4 hkm
   have h6:=S.pred _ hm
   have h7:=S.out m h4
   simp at h6
   omega
theorem Sched.release (hpl:∀ p∈ps,p.1<p.2/\p.2<N) (S:Sched ps N o ln pS pD rd) {k:Nat} (hk:k<N):∀ (d x:Nat),pS k-pD x<=d->x<N->pD x<pS k->∃ q,q<N/\(q,k)∈ps/\pD q<pS k/\∀ g,g<N->pD g<pS k->pD g<=pD q:=by
 intro d
 induction d with
 | zero=>intro x h1 hx h;omega
 | succ d ih=>
  intro x h1 hx h
  by_cases hg:∃ g,g<N/\pD g<pS k/\pD x<pD g
  ·refine q1_3 hg λg hg1 hg2 hg3=>?_;clear hg
   exact ih g (by omega) hg1 hg2
  ·have hmax:∀ g,g<N->pD g<pS k->pD g<=pD x:=λg h1 h2=>by
    rcases Nat.lt_or_ge (pD x) (pD g) with h3 | h3
    ·exact absurd (e1_3 g h1 h2 h3) hg
    ·exact h3
   have hn:¬ ∀ p∈ps,p.2=k->pD p.1<pD x:=λhp=>by
    have:=S.eager x k hx hk hp
    omega
   have:∃ p∈ps,p.2=k/\¬ pD p.1<pD x:=by
    refine Classical.byContradiction λhc=>hn λp hp e=>?_
    exact Classical.byContradiction λh2=>hc (e1_3 p hp e h2)
   refine q1_3 this λp hp e h2=>?_;clear this
   have h3:=S.pred p hp
   rw [e] at h3
   have hp1:p.1<N:=by have:=hpl p hp;omega
   have h4:=hmax p.1 hp1 h3
   have h5:=S.injD p.1 x hp1 hx (by omega)
   refine e1_4 x hx ?_ h hmax
   rw [← h5,← e];exact hp
theorem nodup_sub {a b:List Nat} (ha:a.Nodup) (hb:b.Nodup) (hs:∀ x∈a,x∈b) (hl:b.length<=a.length):∀ x∈b,x∈a:=by
 intro x hx
 refine Classical.byContradiction λhn=>?_
 have h1:(x::a).Nodup:=List.nodup_cons.mpr ⟨hn,ha⟩
 have h2:∀ y∈x::a,y∈b:=λy hy=>by
  (rcases zD hy with rfl | h)
  ·exact hx
  ·exact hs y h
 have key:∀ (a b:List Nat),a.Nodup->(∀ x∈a,x∈b)->a.length<=b.length:=by
  intro a
  induction a with
  | nil=>intro b _ _;simp
  | cons y r ih=>
   intro b ha hs
   rw [List.nodup_cons] at ha
   have hy:=hs y (zH ..)
   have h3:=ih (b.erase y) ha.2 λz hz=>by
    have hzy:z≠y:=λe=>ha.1 (e▸hz)
    exact (List.mem_erase_of_ne hzy).mpr (hs z (zT hz))
   rw [List.length_erase_of_mem hy] at h3
   have:0<b.length:=List.length_pos_of_mem hy
   rw [List.length_cons]
   omega
 have h3:=key _ _ h1 h2
 rw [List.length_cons] at h3
 omega
noncomputable def NC (N:Nat) (bf:Nat->List Nat):Prop:=∀ a b c d,a<N->c<N->b∈bf a->d∈bf c->d∈bf a\/b∈bf c
noncomputable def NA (N:Nat) (bf:Nat->List Nat):Prop:=∀ a b c x,a<N->x<N->b∈bf a->c∈bf b->x∈bf a\/c∈bf x
theorem nested (B:Beh ps N bf) (hn:NC N bf) {x p k:Nat} (hx:x<N) (hp:p<N) (hl:(bf p).length<=(bf x).length) (hk:k∈bf p):k∈bf x:=by
 refine Classical.byContradiction λhkx=>?_
 have hsub:∀ y∈bf x,y∈bf p:=λy hy=>by
  rcases hn x y p k hx hp hy hk with h | h
  ·exact absurd h hkx
  ·exact h
 exact hkx (nodup_sub (B.nodup x) (B.nodup p) hsub hl k hk)
theorem sched_nc (S:Sched ps N o ln pS pD rd) (B:Beh ps N bf) (hO:∀ x k,x<N->k<N->(pD x<pS k ↔ k∈bf x)):NC N bf:=by
 intro a b c d ha hc hb hd
 have h1:=(hO a b ha (B.lt _ _ hb)).mpr hb
 have h2:=(hO c d hc (B.lt _ _ hd)).mpr hd
 rcases Nat.le_total (pS b) (pS d) with h | h
 ·exact .inl ((hO a d ha (B.lt _ _ hd)).mp (by omega))
 ·exact .inr ((hO c b hc (B.lt _ _ hb)).mp (by omega))
theorem sched_na (S:Sched ps N 1 ln pS pD rd) (hln:∀ i,ln i<1000) (B:Beh ps N bf) (hO:∀ x k,x<N->k<N->(pD x<pS k ↔ k∈bf x)):NA N bf:=by
 intro a b c x ha hx hb hc
 have hbN:=B.lt _ _ hb
 have hcN:=B.lt _ _ hc
 refine Classical.byContradiction λhn=>?_
 have n1:¬ pD a<pS x:=λh=>hn (.inl ((hO a x ha hx).mp h))
 have n2:¬ pD x<pS c:=λh=>hn (.inr ((hO x c hx hcN).mp h))
 have h1:=(hO a b ha hbN).mpr hb
 have h2:=(hO b c hbN hcN).mpr hc
 have hne:=S.ne x a hx ha
 have h3:pS x<pD a:=by omega
 have h4:=S.rlt x b a hx hbN ha h3 h1
 have h5:=S.out b hbN
 have h6:=S.choice b x hbN hx (by omega) (by omega)
 have h7:=hln b
 omega
theorem sched_main (hpl:∀ p∈ps,p.1<p.2/\p.2<N) (ho:o=0\/o=1) (S:Sched ps N o ln pS pD rd) (hln:∀ i,ln i<1000) (hlb:∀ i,i<N->ln i=(bf i).length) (B:Beh ps N bf) (hn:NC N bf) (ha:o=1->NA N bf):∀ (d x k:Nat),pS k<=d->x<N->k<N->pD x<pS k->k∈bf x:=by
 intro d
 induction d with
 | zero=>intro x k h1 hx hk h;omega
 | succ d ih=>
  intro x k h1 hx hk h
  refine q1_4 (S.release hpl hk _ x (Nat.le_refl _) hx h) λp hp hpk hps hmax=>?_
  have hRpk:k∈bf p:=B.edge _ hpk
  have hxp:=hmax x hx h
  by_cases hxe:x=p
  ·rw [hxe];exact hRpk
  have hxlt:pD x<pD p:=by
   rcases Nat.lt_or_ge (pD x) (pD p) with h2 | h2
   ·exact h2
   ·exact absurd (S.injD x p hx hp (by omega)) hxe
  have hop:=S.out p hp
  have hne:=S.ne p x hp hx
  by_cases hw:pS p<pD x
  ·-- p waits as x is done
   have hc:=S.choice x p hx hp hw (by omega)
   have hlx:=hlb x hx
   have hlp:=hlb p hp
   have h7:=hln x
   have h8:=hln p
   (rcases ho with rfl | rfl)
   ·exact nested B hn hx hp (by omega) hRpk
   ·by_cases hr:rd x<rd p
    ·-- x was handed out in an earlier round
     have hex:∃ z,z<N/\pD z<pS p:=by
      refine Classical.byContradiction λhne2=>?_
      have:=S.rle x p hx hp λg hg h3=>absurd (e1_2 g hg h3) hne2
      omega
     refine byC0 λzn=>?_
     refine q1_2 hex λz hz hzp=>?_;clear hex
     refine q1_4 (S.release hpl hp _ z (Nat.le_refl _) hz hzp) λq hq hqp hqs hqm=>?_
     refine zn ?_;clear zn
     have hnq:¬ pD q<pS x:=λh3=>by
      have:=S.rle x p hx hp λg hg h4=>by have:=hqm g hg h4;omega
      omega
     rcases ha rfl q p k x hq hx (B.edge _ hqp) hRpk with h3 | h3
     ·exact absurd (S.over hpl B _ q x (Nat.le_refl _) hq h3) hnq
     ·exact h3
    ·exact nested B hn hx hp (by omega) hRpk
  ·-- p is handed out behind x
   have h9:pD x<pS p:=by omega
   have h10:=ih x p (by omega) hx hp h9
   exact B.trans hpl _ x p k (Nat.le_refl _) hx h10 hRpk
end
theorem behF_fix {ps:List (Nat×Nat)} {n:Nat} (hpl:∀ p∈ps,p.1<p.2/\p.2<n) (h1:1<=n):∀ i,i<n->behF ps n i=bStep ps n (behF ps n) i:=by
 have mS:∀ {i m},m∈straightOf ps i->i<m/\m<n:=λ{i m} h=>by
  refine byC0 λzn=>?_
  refine q1_2 (List.mem_map.mp h) λp hp z1=>?_;subst z1
  refine q0_2 (List.mem_filter.mp hp) λh2 h3=>?_
  refine zn ?_;clear zn
  have h4:=hpl p h2
  have h5:p.1=i:=by simpa using h3
  omega
 have cong:∀ (B B':Nat->List Nat) (i:Nat),(∀ m,i<m->B m=B' m)->bStep ps n B i=bStep ps n B' i:=λB B' i h=>by
  unfold bStep
  refine List.filter_congr λk hk=>?_
  congr 1
  have:((straightOf ps i).filter λm=>decide (k∈B m))=((straightOf ps i).filter λm=>decide (k∈B' m)):=List.filter_congr λm hm=>by rw [h m (mS hm).1]
  rw [this]
 have key:∀ (t:Nat) (B:Nat->List Nat),t<n->(∀ i,t<=i->i<n->B i=bStep ps n B i)->∀ i,i<n->((List.range t).reverse.foldl (bUpd ps n) B) i=bStep ps n ((List.range t).reverse.foldl (bUpd ps n) B) i:=by
  intro t
  induction t with
  | zero=>intro B _ hB i hi;exact hB i (Nat.zero_le _) hi
  | succ t ih=>
   intro B ht hB
   have e:(List.range (t+1)).reverse=t::(List.range t).reverse:=by rw [List.range_succ,List.reverse_append];rfl
   rw [e,List.foldl_cons]
   refine ih (bUpd ps n B t) (by omega) λi h2 h3=>?_
   have hsame:∀ m,t<m->bUpd ps n B t m=B m:=λm hm=>by unfold bUpd;rw [if_neg (by omega)]
   rw [cong (bUpd ps n B t) B i λm hm=>hsame m (by omega)]
   by_cases hi:i=t
   ·subst hi;unfold bUpd;rw [if_pos rfl]
   ·rw [hsame i (by omega)];exact hB i (by omega) h3
 refine key (n-1) (λ_=>[]) (by omega) λi h2 h3=>?_
 have:straightOf ps i=[]:=by
  cases e:straightOf ps i with
  | nil=>rfl
  | cons m r=>
   have:=mS (i:=i) (m:=m) (by rw [e];exact zH ..)
   omega
 unfold bStep
 rw [this]
 symm
 rw [List.filter_eq_nil_iff]
 intro k hk
 simp
theorem beh_of {ps:List (Nat×Nat)} {n:Nat} (hpl:∀ p∈ps,p.1<p.2/\p.2<n) (h1:1<=n):Beh ps n (behF ps n):=by
 have fx:=behF_fix hpl h1
 have mem:∀ {i k},i<n->(k∈behF ps n i ↔ k<n/\(k∈straightOf ps i\/∃ m∈straightOf ps i,k∈behF ps n m)):=λ{i k} hi=>by
  rw [fx i hi]
  unfold bStep
  rw [List.mem_filter,List.mem_range,Bool.or_eq_true,decide_eq_true_eq]
  have:(!((straightOf ps i).filter λm=>decide (k∈behF ps n m)).isEmpty)=true ↔ ∃ m∈straightOf ps i,k∈behF ps n m:=by
   rw [Bool.not_eq_true',List.isEmpty_eq_false_iff_exists_mem]
   simp [List.mem_filter]
  rw [this]
 have st:∀ {i m},m∈straightOf ps i ↔ (i,m)∈ps:=λ{i m}=>by
  unfold straightOf
  rw [List.mem_map]
  constructor
  ·(intro zr;refine q1_2 zr λp hp z1=>?_;clear zr;subst z1)
   refine q0_2 (List.mem_filter.mp hp) λh2 h3=>?_
   have:p.1=i:=by simpa using h3
   rw [← this];exact h2
  ·intro h
   exact e1_2 (i,m) (List.mem_filter.mpr ⟨h,by simp⟩) rfl
 refine⟨λi k hk=>beh_lt ps n i k hk,λp hp=>?_,λx m k hm hk=>?_,λx k hx hk=>?_,λi=>?_⟩
 ·have:=hpl p hp
  exact (mem (by omega)).mpr ⟨this.2,.inl (st.mpr hp)⟩
 ·have:=hpl _ hm
  exact (mem (by simp at this;omega)).mpr ⟨beh_lt ps n m k hk,.inr (e1_2 m (st.mpr hm) hk)⟩
 ·refine byC0 λzn=>?_;(refine q0_2 ((mem hx).mp hk) λ_ z1=>?_;((rcases z1 with h | z2)<;>(first | (refine q1_2 z2 λm hm hk'=>?_;clear z2) | skip)))<;>(refine zn ?_;clear zn)
  ·exact .inl (st.mp h)
  ·exact .inr (e1_2 m (st.mp hm) hk')
 ·by_cases hi:i<n
  ·rw [fx i hi]
   exact List.nodup_range.filter _
  ·have key:∀ (l:List Nat) (B:Nat->List Nat),(∀ j,(B j).Nodup)->∀ j,((l.foldl (bUpd ps n) B) j).Nodup:=by
    intro l
    induction l with
    | nil=>intro B hB j;exact hB j
    | cons a r ih=>
     intro B hB j
     refine ih (bUpd ps n B a) (λj=>?_) j
     unfold bUpd
     split
     ·exact List.nodup_range.filter _
     ·exact hB j
   exact key _ _ (λ_=>List.nodup_nil) i
end
section
open PySem
theorem plc_ge {e:Evt}:∀ {ev:List Evt} {n:Nat},e∈ev->n<=plc n ev e
 | x::r,n,h=>by
  unfold plc
  have hl:=(uCps_len x).1
  by_cases hx:x=e
  ·rw [if_pos hx];omega
  ·rw [if_neg hx]
   have:=plc_ge (n:=n+(uCps x).length) ((zC h).resolve_left λe'=>hx e'.symm)
   omega
theorem plc_idx {x y:Evt} (hne:x≠y):∀ {ev:List Evt} {n:Nat},x∈ev->y∈ev->(plc n ev x<plc n ev y ↔ ev.idxOf x<ev.idxOf y)
 | z::r,n,hx,hy=>by
  have hl:=(uCps_len z).1
  unfold plc
  rw [List.idxOf_cons,List.idxOf_cons]
  by_cases h1:z=x
  ·have h2:¬ z=y:=λe=>hne (h1.symm.trans e)
   have b1:(z == x)=true:=by simpa using h1
   have b2:(z == y)=false:=by simpa using h2
   rw [if_pos h1,if_neg h2,b1,b2]
   have:=plc_ge (n:=n+(uCps z).length) ((zC hy).resolve_left λe'=>h2 e'.symm)
   simp only [cond_true,cond_false]
   constructor
   ·intro _;omega
   ·intro _;omega
  ·by_cases h2:z=y
   ·have b1:(z == x)=false:=by simpa using h1
    have b2:(z == y)=true:=by simpa using h2
    rw [if_neg h1,if_pos h2,b1,b2]
    have:=plc_ge (n:=n+(uCps z).length) ((zC hx).resolve_left λe'=>h1 e'.symm)
    simp only [cond_true,cond_false]
    constructor
    ·intro _;omega
    ·intro _;omega
   ·have b1:(z == x)=false:=by simpa using h1
    have b2:(z == y)=false:=by simpa using h2
    rw [if_neg h1,if_neg h2,b1,b2]
    have:=plc_idx hne (ev:=r) (n:=n+(uCps z).length) ((zC hx).resolve_left λe'=>h1 e'.symm) ((zC hy).resolve_left λe'=>h2 e'.symm)
    simp only [cond_false]
    rw [this];omega
theorem cr_nil {bf:Nat->List Nat} {c:Nat}:(crOf bf (dueOf bf c)).isEmpty=true ↔ NC c bf:=by
 rw [List.isEmpty_iff]
 unfold crOf
 rw [List.flatMap_eq_nil_iff]
 constructor
 ·intro h a b x d ha hx hb hd
  have h1:=h (a,b) (by rw [List.mem_filter];exact⟨mem_due.mpr ⟨ha,hb⟩,rfl⟩)
  rw [List.flatMap_eq_nil_iff] at h1
  refine Classical.byContradiction λhn=>?_
  have h2:=h1 (x,d) (by
   rw [List.mem_filter]
   refine⟨mem_due.mpr ⟨hx,hd⟩,?_⟩
   simp only [Bool.and_eq_true,Bool.not_eq_true',decide_eq_false_iff_not]
   exact⟨λh=>hn (.inl h),λh=>hn (.inr h)⟩)
  cases h2
 ·intro h p hp
  rw [List.flatMap_eq_nil_iff]
  intro q hq
  refine q0_2 (List.mem_filter.mp hq) λhq1 hq2=>?_
  have hp1:=(List.mem_filter.mp hp).1
  have d1:=(mem_due (i:=p.1) (k:=p.2)).mp hp1
  have d2:=(mem_due (i:=q.1) (k:=q.2)).mp hq1
  simp only [Bool.and_eq_true,Bool.not_eq_true',decide_eq_false_iff_not] at hq2
  exact absurd (h p.1 p.2 q.1 q.2 d1.1 d2.1 d1.2 d2.2) λh=>h.elim hq2.1 hq2.2
theorem ap_nil {bf:Nat->List Nat} {c:Nat}:(apOf bf c (dueOf bf c)).isEmpty=true ↔ NA c bf:=by
 rw [List.isEmpty_iff]
 unfold apOf
 rw [List.flatMap_eq_nil_iff]
 constructor
 ·intro h a b k x ha hx hb hk
  have h1:=h (a,b) (by rw [List.mem_filter];exact⟨mem_due.mpr ⟨ha,hb⟩,rfl⟩)
  rw [List.flatMap_eq_nil_iff] at h1
  have h2:=h1 k (by rw [List.mem_filter];exact⟨hk,rfl⟩)
  rw [List.flatMap_eq_nil_iff] at h2
  refine Classical.byContradiction λhn=>?_
  have h3:=h2 x (by
   rw [List.mem_filter,List.mem_range]
   refine⟨hx,?_⟩
   simp only [Bool.and_eq_true,Bool.not_eq_true',decide_eq_false_iff_not]
   exact⟨λh=>hn (.inl h),λh=>hn (.inr h)⟩)
  cases h3
 ·intro h p hp
  rw [List.flatMap_eq_nil_iff]
  intro k hk
  rw [List.flatMap_eq_nil_iff]
  intro x hx
  refine q0_2 (List.mem_filter.mp hx) λhx1 hx2=>?_
  have hk1:=(List.mem_filter.mp hk).1
  have hp1:=(List.mem_filter.mp hp).1
  have d1:=(mem_due (i:=p.1) (k:=p.2)).mp hp1
  simp only [Bool.and_eq_true,Bool.not_eq_true',decide_eq_false_iff_not] at hx2
  exact absurd (h p.1 p.2 k x d1.1 (List.mem_range.mp hx1) d1.2 hk1) λh=>h.elim hx2.1 hx2.2
theorem plain_law (ns:List Int) (ev:List Mine.Internal.Evt):∀ (H:Run (psOf ns) (cOf ns) (oOf ns:Int) (lnOf ns) ev) (fin:∀ i,i<cOf ns->i∈outs ev/\i∈dns ev),(∀ p∈dueOf (bfOf ns) (cOf ns),p.2∈ovOf ns ev p.1)/\lawSays ns ev=true:=by
 intro H fin
 have hc:=cOf_b ns
 have hpl:=ps_b ns
 have S:=sched_of hpl H fin
 have B:Beh (psOf ns) (cOf ns) (bfOf ns):=beh_of hpl (by omega)
 have hlb:∀ i,i<cOf ns->lnOf ns i=(bfOf ns i).length:=λi hi=>by
  unfold lnOf lsOf
  rw [List.getD_eq_getElem?_getD,map_range_get (behF (psOf ns) (cOf ns)) hi];rfl
 have hln:∀ i,lnOf ns i<1000:=λi=>by
  by_cases hi:i<cOf ns
  ·rw [hlb i hi]
   have:=cD_len (psOf ns) (cOf ns) i
   unfold bfOf;omega
  ·unfold lnOf lsOf
   rw [List.getD_eq_getElem?_getD,List.getElem?_eq_none (by simp;omega)]
   decide
 have hpi:∀ x k,x<cOf ns->k<cOf ns->(plc 0 ev (true,x)<plc 0 ev (false,k) ↔ ev.idxOf (true,x)<ev.idxOf (false,k)):=λx k hx hk=>
  plc_idx (by intro e;cases e) (mem_dns.mp (fin x hx).2) (mem_outs.mp (fin k hk).1)
 have mO:∀ {x k},x<cOf ns->(k∈ovOf ns ev x ↔ k<cOf ns/\ev.idxOf (true,x)<ev.idxOf (false,k)):=λ{x k} hx=>by
  unfold ovOf overF
  rw [List.mem_filter,List.mem_range,decide_eq_true_eq]
  constructor
  ·intro ⟨h1,h2⟩;exact⟨h1,(hpi x k hx h1).mp h2⟩
  ·intro ⟨h1,h2⟩;exact⟨h1,(hpi x k hx h1).mpr h2⟩
 refine⟨λp hp=>?_,?_⟩
 ·refine q0_2 ((mem_due (i:=p.1) (k:=p.2)).mp hp) λh1 h2=>?_
  exact (mO h1).mpr ⟨B.lt _ _ h2,S.over hpl B _ p.1 p.2 (Nat.le_refl _) h1 h2⟩
 ·have hX:decide ((List.range (cOf ns)).map (ovOf ns ev)=(List.range (cOf ns)).map (bfOf ns))=true ↔ ∀ x k,x<cOf ns->k<cOf ns->(ev.idxOf (true,x)<ev.idxOf (false,k) ↔ k∈bfOf ns x):=by
   rw [decide_eq_true_eq]
   constructor
   ·intro h x k hx hk
    have h1:ovOf ns ev x=bfOf ns x:=by
     have h2:=congrArg (λl=>l[x]?) h
     rw [map_range_get _ hx,map_range_get _ hx] at h2
     exact Option.some.inj h2
    rw [← h1,mO hx]
    exact⟨λh=>⟨hk,h⟩,λh=>h.2⟩
   ·intro h
    refine List.map_congr_left λx hx=>?_
    have hxN:=List.mem_range.mp hx
    have hfx:bfOf ns x=bStep (psOf ns) (cOf ns) (behF (psOf ns) (cOf ns)) x:=behF_fix hpl (by omega) x hxN
    rw [hfx]
    unfold ovOf overF bStep
    refine List.filter_congr λk hk=>?_
    have hkN:=List.mem_range.mp hk
    rw [Bool.eq_iff_iff,decide_eq_true_eq,hpi x k hxN hkN,h x k hxN hkN,hfx]
    unfold bStep
    rw [List.mem_filter]
    exact⟨λh=>h.2,λh=>⟨hk,h⟩⟩
  unfold lawSays
  rw [beq_iff_eq,Bool.eq_iff_iff,hX,Bool.and_eq_true,Bool.or_eq_true,cr_nil,ap_nil,beq_iff_eq]
  constructor
  ·intro h
   refine⟨sched_nc S B h,?_⟩
   rcases oOf_b ns with ho | ho
   ·left;omega
   ·right
    rw [ho] at S
    exact sched_na S hln B h
  ·intro ⟨hn,ha⟩ x k hx hk
   refine⟨λh=>?_,λh=>S.over hpl B _ x k (Nat.le_refl _) hx h⟩
   refine sched_main hpl (by rcases oOf_b ns with ho | ho<;>omega) S hln hlb B hn (λho=>?_) _ x k (Nat.le_refl _) hx hk h
   rcases ha with ha | ha
   ·omega
   ·exact ha
end
section
open PySem PySem.Calls PyProof.Rows PySem.W PySem.W.X
noncomputable def fvIn (K:Frag) (P:Addr):Array Value:=match K.lookup P with | some ⟨_,_,.fields vs,_⟩=>vs | _=>#[]
theorem tab_of {K:Frag} {h:Heap} (X:K.In h) (c:Addr) {P:Addr} (e:K.lookup c=some ⟨.type "code",dIn K c,.fields (fvIn K c),slIn K c⟩) (e1:(fvIn K c)[11]?=some (.ref P)) (e2:K.lookup P=some (tableObj (fvIn K P))):isCodeTable h P/\∃ ps,h.get? P=some (tableObj ps):=
 e0_2 (e3_4 c _ (fvIn K c) (X _ _ e) rfl rfl e1) (e1_1 _ (X _ _ e2))
theorem oldK_of {h h':Heap} (keep:∀ a o,a∉tabs2->h.get? a=some o->h'.get? a=some o) (t:∀ a∈tabs2,isCodeTable h a/\Grown h h' a):OldK h h':=by
 refine⟨λb o e=>?_,λb o e=>?_⟩
 ·by_cases hb:b∈tabs2
  ·refine s2_2 (t b hb) λh1 ps more e1 e2=>?_
   rw [e] at e1
   cases e1
   exact .inr (.inl (e0_3 h1 rfl (e2_2 ps more rfl e2)))
  ·exact .inl (keep b o hb e)
 ·by_cases hb:b∈tabs2
  ·refine s2_2 (t b hb) λh1 ps more e1 e2=>?_
   exact⟨_,e2⟩
  ·exact⟨o,keep b o hb e⟩
end
section
open PySem PySem.W PySem.W.X PyProof.Rows PySem.Spec PySem.Calls
noncomputable def oK (K:Frag) (a:Addr):Obj:=(K.lookup a).getD default
noncomputable abbrev en (w:World) (n:String) (k:Tok) (v:Value):DictEntry:=⟨PyData.keyHash w.params (Str.ofString n),.str (Str.ofString n) k,v⟩
structure Mm (h₀ h:Heap) (chg hot news:List (Addr×Obj)):Prop where
 keep:∀ b o,h₀.get? b=some o->(hasCls o || away chg b)=true->h.get? b=some o
 ch:∀ p∈chg,h.get? p.1=some p.2/\∃ ps more,h₀.get? p.1=some (tableObj ps)/\p.2=tableObj (ps++more)
 nh:∀ p∈hot,h.get? p.1=some p.2/\h₀.get? p.1=none
 nw:∀ p∈news,h.get? p.1=some p.2/\h₀.get? p.1=none
 nd:(hot.map (·.1)).Nodup
 dj:∀ p∈hot,∀ q∈news,p.1≠q.1
section
variable {h₀ h h':Heap} {chg hot news:List (Addr×Obj)}
theorem Mm.start (h:Heap):Mm h h [] [] []:=⟨λ_ _ e _=>e,λ_ hp=>(nomatch hp),λ_ hp=>(nomatch hp),λ_ hp=>(nomatch hp),List.nodup_nil,λ_ hp=>(nomatch hp)⟩
theorem Mm.there (D:Mm h₀ h chg hot news) {b:Addr} {o:Obj} (e:h₀.get? b=some o):∃ o',h.get? b=some o':=by
 cases q:(hasCls o || away chg b) with
 | true=>exact⟨o,D.keep b o e q⟩
 | false=>
  refine q1_2 (List.all_eq_false.mp (Bool.or_eq_false_iff.mp q).2) λp hp hn=>?_
  have:p.1=b:=by
   cases w:Nat.beq p.1 b with
   | true=>exact Nat.eq_of_beq_eq_true w
   | false=>rw [w] at hn;exact absurd rfl hn
  exact⟨p.2,this▸(D.ch p hp).1⟩
theorem Mm.add (D:Mm h₀ h chg hot news) {more:List (Addr×Obj)} (k:∀ b o,h.get? b=some o->h'.get? b=some o) (m:∀ p∈more,h'.get? p.1=some p.2/\h.get? p.1=none):Mm h₀ h' chg hot (more++news):=by
 have fr:∀ b,h.get? b=none->h₀.get? b=none:=λb e=>by
  cases q:h₀.get? b with
  | none=>rfl
  | some o=>refine q1_1 (D.there q) λo' e'=>?_;rw [e] at e';cases e'
 refine⟨λb o e q=>k _ _ (D.keep b o e q),λp hp=>⟨k _ _ (D.ch p hp).1,(D.ch p hp).2⟩,λp hp=>⟨k _ _ (D.nh p hp).1,(D.nh p hp).2⟩,λp hp=>?_,D.nd,λp hp q hq=>?_⟩
 ·rcases List.mem_append.mp hp with hp | hp
  ·exact⟨(m p hp).1,fr _ (m p hp).2⟩
  ·exact⟨k _ _ (D.nw p hp).1,(D.nw p hp).2⟩
 ·rcases List.mem_append.mp hq with hq | hq
  ·intro e
   have:=(m q hq).2
   rw [← e,(D.nh p hp).1] at this
   cases this
  ·exact D.dj p hp q hq
theorem Mm.addM (D:Mm h₀ h chg hot news) {more:List (Addr×Obj)} (x:Mem h h' [] more):Mm h₀ h' chg hot (more++news):=
 D.add (λb o e=>x.keep b o e (by rw [show away [] b=true from rfl,Bool.or_true])) x.nw
theorem Mm.alloc (D:Mm h₀ h chg hot news) {o:Obj} (hf:o.isFreed=false):Mm h₀ (h.push o) chg hot ((h.objs.size,o)::news):=
 D.addM ((Mem.start h).alloc hf)
theorem Mm.heat (D:Mm h₀ h chg hot ((a,o)::news)) (hn:a∉news.map (·.1)):Mm h₀ h chg ((a,o)::hot) news:=by
 refine⟨D.keep,D.ch,λp hp=>?_,λp hp=>D.nw p (.tail _ hp),?_,λp hp q hq=>?_⟩
 ·(rcases zC hp with rfl | hp)
  ·exact D.nw _ (.head _)
  ·exact D.nh p hp
 ·rw [List.map_cons,List.nodup_cons]
  refine⟨λhm=>?_,D.nd⟩
  refine q1_2 (List.mem_map.mp hm) λp hp e=>?_
  exact D.dj p hp _ (.head _) e
 ·(rcases zC hp with rfl | hp)
  ·intro e
   exact hn (by have e:a=q.1:=e;rw [e];exact List.mem_map_of_mem hq)
  ·exact D.dj p hp q (.tail _ hq)
theorem Mm.allocH (D:Mm h₀ h chg hot news) {o:Obj} (hf:o.isFreed=false):Mm h₀ (h.push o) chg ((h.objs.size,o)::hot) news:=by
 refine (D.alloc hf).heat λhm=>?_
 refine q1_2 (List.mem_map.mp hm) λp hp e=>?_
 exact absurd (Heap.lt_size (D.nw p hp).1) (by rw [e];exact Nat.lt_irrefl _)
theorem Mm.cool (D:Mm h₀ h chg ((a,o)::hot) news):Mm h₀ h chg hot ((a,o)::news):=by
 have nd:=D.nd
 rw [List.map_cons,List.nodup_cons] at nd
 refine⟨D.keep,D.ch,λp hp=>D.nh p (.tail _ hp),λp hp=>?_,nd.2,λp hp q hq=>?_⟩
 ·(rcases zC hp with rfl | hp)
  ·exact D.nh _ (.head _)
  ·exact D.nw p hp
 ·(rcases zC hq with rfl | hq)
  ·exact λe=>nd.1 (by have e:p.1=a:=e;have z:p.1∈hot.map (·.1):=List.mem_map_of_mem hp;rw [e] at z;exact z)
  ·exact D.dj p (.tail _ hp) q hq
theorem Mm.upd (D:Mm h₀ h chg ((a,o)::hot) news) {f:Obj->Obj} (hf:(f o).isFreed=false):Mm h₀ (h.update a f) chg ((a,f o)::hot) news:=by
 have nd:=D.nd
 rw [List.map_cons,List.nodup_cons] at nd
 have z:=D.nh _ (.head _)
 have hs:Heap.SameBut a h (h.update a f):=Heap.SameBut.update ..
 have ge:(h.update a f).get? a=some (f o):=by first | exact Heap.get?_update_self f z.1 hf | exact Heap.get?_update_self _ z.1 hf
 have ne:∀ b o',h₀.get? b=some o'->b≠a:=λb o' e' z'=>by subst z';rw [e'] at z;cases z.2
 refine⟨λb o' e' q=>(hs.2 b (ne b o' e')).trans (D.keep b o' e' q),λp hp=>?_,λp hp=>?_,λp hp=>?_,D.nd,λp hp q hq=>?_⟩
 ·refine byC0 λzn=>?_;refine s2_2 (D.ch p hp) λe1 ps more e2 e3=>?_;refine zn ?_;clear zn
  exact e0_2 ((hs.2 p.1 (ne p.1 _ e2)).trans e1) (e2_2 ps more e2 e3)
 ·(rcases zC hp with rfl | hp)
  ·exact⟨ge,z.2⟩
  ·have y:=D.nh p (.tail _ hp)
   exact⟨(hs.2 _ (λe=>nd.1 (by have e:p.1=a:=e;have z:p.1∈hot.map (·.1):=List.mem_map_of_mem hp;rw [e] at z;exact z))).trans y.1,y.2⟩
 ·have y:=D.nw p hp
  exact⟨(hs.2 _ (λe=>D.dj _ (.head _) p hp e.symm)).trans y.1,y.2⟩
 ·(rcases zC hp with rfl | hp)
  ·exact D.dj (a,o) (.head _) q hq
  ·exact D.dj p (.tail _ hp) q hq
theorem Mm.swap (D:Mm h₀ h chg (p::q::hot) news):Mm h₀ h chg (q::p::hot) news:=by
 have nd:=D.nd
 have m:∀ r,r∈(q::p::hot)->r∈(p::q::hot):=λr hr=>by
  simp only [List.mem_cons] at hr ⊢
  rcases hr with h | h | h
  ·exact .inr (.inl h)
  ·exact .inl h
  ·exact .inr (.inr h)
 refine⟨D.keep,D.ch,λr hr=>D.nh r (m r hr),D.nw,?_,λr hr=>D.dj r (m r hr)⟩
 simp only [List.map_cons,List.nodup_cons,List.mem_cons,not_or] at nd ⊢
 exact⟨⟨Ne.symm nd.1.1,nd.2.1⟩,nd.1.2,nd.2.2⟩
theorem Mm.grow (D:Mm h₀ h chg hot news) {a:Addr} {f:Obj->Obj} {ps more:Array Value} (ht:h₀.get? a=some (tableObj ps)) (hw:away chg a=true) (hn:f (tableObj ps)=tableObj (ps++more)):Mm h₀ (h.update a f) ((a,tableObj (ps++more))::chg) hot news:=by
 have ho:h.get? a=some (tableObj ps):=D.keep a _ ht (by rw [hw,Bool.or_true])
 have hs:Heap.SameBut a h (h.update a f):=Heap.SameBut.update ..
 have hf:(f (tableObj ps)).isFreed=false:=by rw [hn];rfl
 have ge:(h.update a f).get? a=some (tableObj (ps++more)):=by
  have:(h.update a f).get? a=some (f (tableObj ps)):=by first | exact Heap.get?_update_self f ho hf | exact Heap.get?_update_self _ ho hf
  rw [this,hn]
 have ne:∀ b,h₀.get? b=none->b≠a:=λb e z=>by subst z;rw [ht] at e;cases e
 refine⟨λb o e q=>?_,λp hp=>?_,λp hp=>⟨(hs.2 _ (ne _ (D.nh p hp).2)).trans (D.nh p hp).1,(D.nh p hp).2⟩,λp hp=>⟨(hs.2 _ (ne _ (D.nw p hp).2)).trans (D.nw p hp).1,(D.nw p hp).2⟩,D.nd,D.dj⟩
 ·have q':b≠a/\(hasCls o || away chg b)=true:=by
   rcases (Bool.or_eq_true _ _).mp q with q1 | q1
   ·refine⟨?_,by rw [q1];rfl⟩
    intro z
    have:o=tableObj ps:=Option.some.inj (e.symm.trans (z▸ht))
    rw [this] at q1
    exact Bool.false_ne_true q1
   ·refine⟨λz=>away_ne q1 (.head _) z.symm,?_⟩
    have q2:(!(Nat.beq a b) && away chg b)=true:=q1
    rw [((Bool.and_eq_true _ _).mp q2).2,Bool.or_true]
  exact (hs.2 b q'.1).trans (D.keep b o e q'.2)
 ·refine byC0 λzn=>?_;((rcases zC hp with rfl | hp))<;>(refine zn ?_;clear zn)
  ·exact e0_2 ge (e2_2 ps more ht rfl)
  ·exact⟨(hs.2 _ (away_ne hw hp)).trans (D.ch p hp).1,(D.ch p hp).2⟩
theorem Mm.at (D:Mm h₀ h chg hot news) (i:Nat) (a:Addr) (o:Obj) (hi:news[i]?=some (a,o)):h.get? a=some o:=(D.nw _ (List.mem_of_getElem? hi)).1
theorem Mm.atH (D:Mm h₀ h chg hot news) (i:Nat) (a:Addr) (o:Obj) (hi:hot[i]?=some (a,o)):h.get? a=some o:=(D.nh _ (List.mem_of_getElem? hi)).1
theorem Mm.atC (D:Mm h₀ h chg hot news) (i:Nat) (a:Addr) (o:Obj) (hi:chg[i]?=some (a,o)):h.get? a=some o:=(D.ch _ (List.mem_of_getElem? hi)).1
theorem Mm.old (D:Mm h₀ h chg hot news) (a:Addr) (o:Obj) (e:h₀.get? a=some o) (q:autoParam ((hasCls o || away chg a)=true) auK):h.get? a=some o:=D.keep a o e q
end
section
variable {h₀ h h':Heap} {chg hot news:List (Addr×Obj)}
theorem Mm.subl {news':List (Addr×Obj)} (D:Mm h₀ h chg hot news) (s:news'.Sublist news):Mm h₀ h chg hot news':=
 ⟨D.keep,D.ch,D.nh,λp hp=>D.nw p (s.subset hp),D.nd,λp hp q hq=>D.dj p hp q (s.subset hq)⟩
theorem Mm.addH {a:Addr} {o:Obj} (D:Mm h₀ h chg hot news) (x:Mem h h' [] [(a,o)]):Mm h₀ h' chg ((a,o)::hot) news:=
 (D.addM x).heat (λhm=>by
  refine q1_2 (List.mem_map.mp hm) λp hp e=>?_
  have z:=(x.nw _ (.head _)).2
  rw [← e,(D.nw p hp).1] at z
  cases z)
theorem Mm.addMm (D:Mm h₀ h chg hot news) {more:List (Addr×Obj)} (x:Mm h h' [] [] more):Mm h₀ h' chg hot (more++news):=
 D.add (λb o e=>x.keep b o e (by rw [show away [] b=true from rfl,Bool.or_true])) x.nw
end
inductive Hd (α:Type) where
 | load (a:Addr) (k:Obj->Sem α)
 | upd (a:Addr) (f:Obj->Obj) (k:Unit->Sem α)
 | alloc (o:Obj) (k:Addr->Sem α)
 | fresh (k:Tok->Sem α)
 | call (c:Code) (h:Option Value) (g:Bool) (l:List Value) (k:Result->Sem α)
 | pure (v:α)
 | other
noncomputable def view {α:Type} (g:Setting):Nat->Sem α->Hd α
 | 0,_=>.other
 | n+1,t=>match t with
  | .rule _ k=>view g n (k ())
  | .at _ k=>view g n (k ())
  | .point _ k=>view g n (k ())
  | .ask k=>view g n (k g)
  | .load a _ k=>.load a k
  | .update a _ f k=>.upd a f k
  | .alloc o k=>.alloc o k
  | .fresh k=>.fresh k
  | .call c h g l k=>.call c h g l k
  | .pure v=>.pure v
  | _=>.other
noncomputable def ldA {α:Type}:Hd α->Option Addr | .load a _=>some a | _=>none
noncomputable def upO {α:Type}:Hd α->Obj->Option (Addr×Obj) | .upd a f _,o=>some (a,f o) | _,_=>none
noncomputable def alF {α:Type}:Hd α->Bool | .alloc o _=>!o.isFreed | _=>false
noncomputable def alE {α:Type}:Hd α->Option Obj | .alloc o _=>some o | _=>none
noncomputable def frB {α:Type}:Hd α->Bool | .fresh _=>true | _=>false
noncomputable def caC {α:Type}:Hd α->Option (Code×Option Value) | .call c h _ _ _=>some (c,h) | _=>none
noncomputable def puV {α:Type}:Hd α->Option α | .pure v=>some v | _=>none
noncomputable def toLd {α:Type}:Hd α->Obj->Sem α | .load _ k,o=>k o | _,_=>.unsupported ""
noncomputable def toUp {α:Type}:Hd α->Sem α | .upd _ _ k=>k () | _=>.unsupported ""
noncomputable def toAl {α:Type}:Hd α->Addr->Sem α | .alloc _ k,a=>k a | _,_=>.unsupported ""
noncomputable def alO {α:Type}:Hd α->Obj | .alloc o _=>o | _=>default
noncomputable def toFr {α:Type}:Hd α->Tok->Sem α | .fresh k,a=>k a | _,_=>.unsupported ""
noncomputable def toCa {α:Type}:Hd α->Result->Sem α | .call _ _ _ _ k,r=>k r | _,_=>.unsupported ""
section
variable {α:Type} {prog:Program} {w:World} {A:Around} {Q:α->Shared->Prop} {E:Value->Shared->Prop} {T:Sem α} {h₀:Heap} {chg hot news:List (Addr×Obj)} {h:Heap} {g:Array GenState} {d:Drawn} {t:Nat} {os:OsState}
noncomputable def Hd.Ok (prog:Program) (w:World) (A:Around) (Q:α->Shared->Prop) (E:Value->Shared->Prop) (s:Shared):Hd α->Prop
 | .load a k=>wpAny (model prog w) A (.load a none k) Q E s
 | .upd a f k=>∀ p,wpAny (model prog w) A (.update a p f k) Q E s
 | .alloc o k=>wpAny (model prog w) A (.alloc o k) Q E s
 | .fresh k=>wpAny (model prog w) A (.fresh k) Q E s
 | .call c h g l k=>wpAny (model prog w) A (.call c h g l k) Q E s
 | .pure v=>Q v s
 | .other=>False
theorem view_ok {s:Shared} (n:Nat) (x:(view ⟨prog,w.params⟩ n T).Ok prog w A Q E s):wpAny (model prog w) A T Q E s:=by
 induction n generalizing T with
 | zero=>exact x.elim
 | succ n ih=>
  cases T
  case rule=>exact λΓ p h=>ih x Γ _ h
  case «at»=>exact λΓ p h=>ih x Γ _ h
  case point=>exact λΓ p h=>ih x Γ _ h
  case ask=>exact λΓ p h=>ih x Γ _ h
  case load a p k=>exact x
  case update a p f k=>exact x p
  case alloc=>exact x
  case fresh=>exact x
  case call=>exact x
  case pure=>exact wpAny_pure x
  all_goals exact x.elim
theorem m_load (a:Addr) (o:Obj) (ho:h.get? a=some o) (x:wpAny (model prog w) A (toLd (view ⟨prog,w.params⟩ 400 T) o) Q E ⟨h,g,d,t,os⟩) (h1:autoParam (ldA (view ⟨prog,w.params⟩ 400 T)=some a) auK):wpAny (model prog w) A T Q E ⟨h,g,d,t,os⟩:=by
 refine view_ok 400 ?_
 generalize view ⟨prog,w.params⟩ 400 T=H at h1 x ⊢
 cases H<;>try (simp [ldA,upO,alF,alE,frB,caC,puV] at h1;done)
 rename_i a' k
 obtain rfl:a'=a:=Option.some.inj h1
 exact wpAny_bind (m:=loadPart a' none) (f:=k) (wpAny_loadPart ho x)
theorem m_fresh  (x:wpAny (model prog w) A (toFr (view ⟨prog,w.params⟩ 400 T) t) Q E ⟨h,g,d,t+1,os⟩) (h1:autoParam (frB (view ⟨prog,w.params⟩ 400 T)=true) auK):wpAny (model prog w) A T Q E ⟨h,g,d,t,os⟩:=by
 refine view_ok 400 ?_
 generalize view ⟨prog,w.params⟩ 400 T=H at h1 x ⊢
 cases H<;>try (simp [ldA,upO,alF,alE,frB,caC,puV] at h1;done)
 exact x
theorem m_pure {s:Shared} (v:α) (x:Q v s) (h1:autoParam (puV (view ⟨prog,w.params⟩ 400 T)=some v) auK):wpAny (model prog w) A T Q E s:=by
 refine view_ok 400 ?_
 generalize view ⟨prog,w.params⟩ 400 T=H at h1 ⊢
 cases H<;>try (simp [ldA,upO,alF,alE,frB,caC,puV] at h1;done)
 rename_i v'
 obtain rfl:v'=v:=Option.some.inj h1
 exact x
theorem m_alloc (D:Mm h₀ h chg hot news)
  (x:∀ a h',Mm h₀ h' chg hot ((a,alO (view ⟨prog,w.params⟩ 400 T))::news)->wpAny (model prog w) A (toAl (view ⟨prog,w.params⟩ 400 T) a) Q E ⟨h',g,d,t,os⟩) (h1:autoParam (alF (view ⟨prog,w.params⟩ 400 T)=true) auK):wpAny (model prog w) A T Q E ⟨h,g,d,t,os⟩:=by
 refine view_ok 400 ?_
 generalize view ⟨prog,w.params⟩ 400 T=H at h1 x ⊢
 cases H<;>try (simp [ldA,upO,alF,alE,frB,caC,puV] at h1;done)
 rename_i o k
 exact wpAny_bind (m:=alloc o) (f:=k) (wpAny_alloc (x _ _ (D.alloc (by simpa [alF] using h1))))
theorem m_allocF (D:Mm h₀ h chg hot news) (x:∀ a h',Mm h₀ h' chg hot news->wpAny (model prog w) A (toAl (view ⟨prog,w.params⟩ 400 T) a) Q E ⟨h',g,d,t,os⟩) (h1:autoParam (alF (view ⟨prog,w.params⟩ 400 T)=true) auK):wpAny (model prog w) A T Q E ⟨h,g,d,t,os⟩:=
 m_alloc D (λa h' D'=>x a h' (D'.subl (.cons _ (.refl _)))) h1
theorem m_allocP (D:Mm h₀ h chg hot news) (o:Obj)
  (x:∀ a h',Mm h₀ h' chg hot ((a,o)::news)->wpAny (model prog w) A (toAl (view ⟨prog,w.params⟩ 400 T) a) Q E ⟨h',g,d,t,os⟩) (h1:autoParam (alE (view ⟨prog,w.params⟩ 400 T)=some o) auK) (h2:autoParam (o.isFreed=false) auR):wpAny (model prog w) A T Q E ⟨h,g,d,t,os⟩:=by
 refine view_ok 400 ?_
 generalize view ⟨prog,w.params⟩ 400 T=H at h1 x ⊢
 cases H<;>try (simp [ldA,upO,alF,alE,frB,caC,puV] at h1;done)
 rename_i o' k
 obtain rfl:o'=o:=Option.some.inj h1
 exact wpAny_bind (m:=alloc o') (f:=k) (wpAny_alloc (x _ _ (D.alloc h2)))
theorem m_allocH (D:Mm h₀ h chg hot news) (o:Obj)
  (x:∀ a h',Mm h₀ h' chg ((a,o)::hot) news->wpAny (model prog w) A (toAl (view ⟨prog,w.params⟩ 400 T) a) Q E ⟨h',g,d,t,os⟩) (h1:autoParam (alE (view ⟨prog,w.params⟩ 400 T)=some o) auK) (h2:autoParam (o.isFreed=false) auR):wpAny (model prog w) A T Q E ⟨h,g,d,t,os⟩:=by
 refine view_ok 400 ?_
 generalize view ⟨prog,w.params⟩ 400 T=H at h1 x ⊢
 cases H<;>try (simp [ldA,upO,alF,alE,frB,caC,puV] at h1;done)
 rename_i o' k
 obtain rfl:o'=o:=Option.some.inj h1
 exact wpAny_bind (m:=alloc o') (f:=k) (wpAny_alloc (x _ _ (D.allocH h2)))
theorem m_upd {a:Addr} {o:Obj} (D:Mm h₀ h chg ((a,o)::hot) news) (o':Obj)
  (x:∀ h',Mm h₀ h' chg ((a,o')::hot) news->wpAny (model prog w) A (toUp (view ⟨prog,w.params⟩ 400 T)) Q E ⟨h',g,d,t,os⟩) (h1:autoParam (upO (view ⟨prog,w.params⟩ 400 T) o=some (a,o')) auK) (h3:autoParam (o'.isFreed=false) auR):wpAny (model prog w) A T Q E ⟨h,g,d,t,os⟩:=by
 refine view_ok 400 ?_
 generalize view ⟨prog,w.params⟩ 400 T=H at h1 x ⊢
 cases H<;>try (simp [ldA,upO,alF,alE,frB,caC,puV] at h1;done)
 rename_i a' f k
 have e:=Option.some.inj h1
 rcases Prod.mk.inj e with ⟨rfl,rfl⟩
 exact λp=>wpAny_bind (m:=updatePart a' p f) (f:=k) (wpAny_updatePart (D.nh _ (.head _)).1 (x _ (D.upd h3)))
theorem m_grow (D:Mm h₀ h chg hot news) (a:Addr) (ps more:Array Value) (ht:h₀.get? a=some (tableObj ps)) (hw:away chg a=true)
  (x:∀ h',Mm h₀ h' ((a,tableObj (ps++more))::chg) hot news->wpAny (model prog w) A (toUp (view ⟨prog,w.params⟩ 400 T)) Q E ⟨h',g,d,t,os⟩) (h1:autoParam (upO (view ⟨prog,w.params⟩ 400 T) (tableObj ps)=some (a,tableObj (ps++more))) auK):wpAny (model prog w) A T Q E ⟨h,g,d,t,os⟩:=by
 refine view_ok 400 ?_
 generalize view ⟨prog,w.params⟩ 400 T=H at h1 x ⊢
 cases H<;>try (simp [ldA,upO,alF,alE,frB,caC,puV] at h1;done)
 rename_i a' f k
 have e:=Option.some.inj h1
 rcases Prod.mk.inj e with ⟨rfl,h2⟩
 exact λp=>wpAny_bind (m:=updatePart a' p f) (f:=k) (wpAny_updatePart (D.keep a' _ ht (by rw [hw,Bool.or_true])) (x _ (D.grow ht hw h2)))
theorem m_code {s:Shared} (c:Code) (hd:Option Value)
  (x:codeAny (model prog w) (A.mark hd) c (λr s'=>wpAny (model prog w) A (toCa (view ⟨prog,w.params⟩ 400 T) r) Q E s') s) (h1:autoParam (caC (view ⟨prog,w.params⟩ 400 T)=some (c,hd)) auK) (hnb:autoParam (hd≠some byPass) auN):wpAny (model prog w) A T Q E s:=by
 refine view_ok 400 ?_
 generalize view ⟨prog,w.params⟩ 400 T=H at h1 x ⊢
 cases H<;>try (simp [ldA,upO,alF,alE,frB,caC,puV] at h1;done)
 rename_i c' hd' g l k
 rcases Prod.mk.inj (Option.some.inj h1) with ⟨rfl,rfl⟩
 exact y_start α prog w A Q E s c' hd' g l k hnb x
theorem m_run {s:Shared} (c:Code) (hd:Option Value)
  (x:∀ g l,wpAny (model prog w) A (.call c hd g l Sem.pure) (λr s'=>wpAny (model prog w) A (toCa (view ⟨prog,w.params⟩ 400 T) r) Q E s') E s) (h1:autoParam (caC (view ⟨prog,w.params⟩ 400 T)=some (c,hd)) auK) (hnb:autoParam (hd≠some byPass) auN):wpAny (model prog w) A T Q E s:=by
 refine view_ok 400 ?_
 generalize view ⟨prog,w.params⟩ 400 T=H at h1 x ⊢
 cases H<;>try (simp [ldA,upO,alF,alE,frB,caC,puV] at h1;done)
 rename_i c' hd' g l k
 rcases Prod.mk.inj (Option.some.inj h1) with ⟨rfl,rfl⟩
 exact wpAny_bind (m:=.call _ _ _ _ Sem.pure) (f:=k) (x g l)
theorem m_runE {s:Shared} (c c':Code) (hd:Option Value) (e:c=c')
  (x:∀ g l,wpAny (model prog w) A (.call c' hd g l Sem.pure) (λr s'=>wpAny (model prog w) A (toCa (view ⟨prog,w.params⟩ 400 T) r) Q E s') E s) (h1:autoParam (caC (view ⟨prog,w.params⟩ 400 T)=some (c,hd)) auK) (hnb:autoParam (hd≠some byPass) auN):wpAny (model prog w) A T Q E s:=by
 subst e
 exact m_run c hd x h1 hnb
end
end
section
open PySem PySem.W PySem.W.X PyProof.Rows Mine.Internal
noncomputable def e3 (P:Params) (n:String) (t:Tok) (v:Value):DictEntry:=⟨PyData.keyHash P (Str.ofString n),.str (Str.ofString n) t,v⟩
noncomputable def hK (P:Params):Frag:=[(0,Obj.mk (.type "dict") none (.dict #[e3 P "__name__" 1 (.str (Str.ofString "builtins") 160),e3 P "__doc__" 2 (.builtin "builtins.__doc__:str#opaque"),e3 P "__package__" 3 (.builtin "builtins.__package__:str#opaque"),e3 P "__loader__" 4 (.builtin "builtins.__loader__:shared#opaque"),e3 P "__spec__" 5 (.builtin "builtins.__spec__#opaque"),e3 P "__build_class__" 6 (.builtin "__build_class__"),e3 P "__import__" 7 (.builtin "__import__"),e3 P "abs" 8 (.builtin "abs"),e3 P "all" 9 (.builtin "all"),e3 P "any" 10 (.builtin "any"),e3 P "ascii" 11 (.builtin "ascii"),e3 P "bin" 12 (.builtin "bin"),e3 P "breakpoint" 13 (.builtin "breakpoint"),e3 P "callable" 14 (.builtin "callable"),e3 P "chr" 15 (.builtin "chr"),e3 P "compile" 16 (.builtin "compile"),e3 P "delattr" 17 (.builtin "delattr"),e3 P "dir" 18 (.builtin "dir"),e3 P "divmod" 19 (.builtin "divmod"),e3 P "eval" 20 (.builtin "eval"),e3 P "exec" 21 (.builtin "exec"),e3 P "format" 22 (.builtin "format"),e3 P "getattr" 23 (.builtin "getattr"),e3 P "globals" 24 (.builtin "globals"),e3 P "hasattr" 25 (.builtin "hasattr"),e3 P "hash" 26 (.builtin "hash"),e3 P "hex" 27 (.builtin "hex"),e3 P "id" 28 (.builtin "id"),e3 P "input" 29 (.builtin "input"),e3 P "isinstance" 30 (.builtin "isinstance"),e3 P "issubclass" 31 (.builtin "issubclass"),e3 P "iter" 32 (.builtin "iter"),e3 P "aiter" 33 (.builtin "aiter"),e3 P "len" 34 (.builtin "len"),e3 P "locals" 35 (.builtin "locals"),e3 P "max" 36 (.builtin "max"),e3 P "min" 37 (.builtin "min"),e3 P "next" 38 (.builtin "next"),e3 P "anext" 39 (.builtin "anext"),e3 P "oct" 40 (.builtin "oct"),e3 P "ord" 41 (.builtin "ord"),e3 P "pow" 42 (.builtin "pow"),e3 P "print" 43 (.builtin "print"),e3 P "repr" 44 (.builtin "repr"),e3 P "round" 45 (.builtin "round"),e3 P "setattr" 46 (.builtin "setattr"),e3 P "sorted" 47 (.builtin "sorted"),e3 P "sum" 48 (.builtin "sum"),e3 P "vars" 49 (.builtin "vars"),e3 P "None" 50 .none,e3 P "Ellipsis" 51 .ellipsis,e3 P "NotImplemented" 52 .notImplemented,e3 P "False" 53 (.bool false),e3 P "True" 54 (.bool true),e3 P "bool" 55 (.type "bool"),e3 P "memoryview" 56 (.type "memoryview"),e3 P "bytearray" 57 (.type "bytearray"),e3 P "bytes" 58 (.type "bytes"),e3 P "classmethod" 59 (.type "classmethod"),e3 P "complex" 60 (.type "complex"),e3 P "dict" 61 (.type "dict"),e3 P "enumerate" 62 (.type "enumerate"),e3 P "filter" 63 (.type "filter"),e3 P "float" 64 (.type "float"),e3 P "frozenset" 65 (.type "frozenset"),e3 P "property" 66 (.type "property"),e3 P "int" 67 (.type "int"),e3 P "list" 68 (.type "list"),e3 P "map" 69 (.type "map"),e3 P "object" 70 (.type "object"),e3 P "range" 71 (.type "range"),e3 P "reversed" 72 (.type "reversed"),e3 P "set" 73 (.type "set"),e3 P "slice" 74 (.type "slice"),e3 P "staticmethod" 75 (.type "staticmethod"),e3 P "str" 76 (.type "str"),e3 P "super" 77 (.type "super"),e3 P "tuple" 78 (.type "tuple"),e3 P "type" 79 (.type "type"),e3 P "zip" 80 (.type "zip"),e3 P "__debug__" 81 (.bool true),e3 P "BaseException" 82 (.type "BaseException"),e3 P "BaseExceptionGroup" 83 (.type "BaseExceptionGroup"),e3 P "Exception" 84 (.type "Exception"),e3 P "GeneratorExit" 85 (.type "GeneratorExit"),e3 P "KeyboardInterrupt" 86 (.type "KeyboardInterrupt"),e3 P "SystemExit" 87 (.type "SystemExit"),e3 P "ArithmeticError" 88 (.type "ArithmeticError"),e3 P "AssertionError" 89 (.type "AssertionError"),e3 P "AttributeError" 90 (.type "AttributeError"),e3 P "BufferError" 91 (.type "BufferError"),e3 P "EOFError" 92 (.type "EOFError"),e3 P "ImportError" 93 (.type "ImportError"),e3 P "LookupError" 94 (.type "LookupError"),e3 P "MemoryError" 95 (.type "MemoryError"),e3 P "NameError" 96 (.type "NameError"),e3 P "OSError" 97 (.type "OSError"),e3 P "ReferenceError" 98 (.type "ReferenceError"),e3 P "RuntimeError" 99 (.type "RuntimeError"),e3 P "StopAsyncIteration" 100 (.type "StopAsyncIteration"),e3 P "StopIteration" 101 (.type "StopIteration"),e3 P "SyntaxError" 102 (.type "SyntaxError"),e3 P "SystemError" 103 (.type "SystemError"),e3 P "TypeError" 104 (.type "TypeError"),e3 P "ValueError" 105 (.type "ValueError"),e3 P "Warning" 106 (.type "Warning"),e3 P "FloatingPointError" 107 (.type "FloatingPointError"),e3 P "OverflowError" 108 (.type "OverflowError"),e3 P "ZeroDivisionError" 109 (.type "ZeroDivisionError"),e3 P "BytesWarning" 110 (.type "BytesWarning"),e3 P "DeprecationWarning" 111 (.type "DeprecationWarning"),e3 P "EncodingWarning" 112 (.type "EncodingWarning"),e3 P "FutureWarning" 113 (.type "FutureWarning"),e3 P "ImportWarning" 114 (.type "ImportWarning"),e3 P "PendingDeprecationWarning" 115 (.type "PendingDeprecationWarning"),e3 P "ResourceWarning" 116 (.type "ResourceWarning"),e3 P "RuntimeWarning" 117 (.type "RuntimeWarning"),e3 P "SyntaxWarning" 118 (.type "SyntaxWarning"),e3 P "UnicodeWarning" 119 (.type "UnicodeWarning"),e3 P "UserWarning" 120 (.type "UserWarning"),e3 P "BlockingIOError" 121 (.type "BlockingIOError"),e3 P "ChildProcessError" 122 (.type "ChildProcessError"),e3 P "ConnectionError" 123 (.type "ConnectionError"),e3 P "FileExistsError" 124 (.type "FileExistsError"),e3 P "FileNotFoundError" 125 (.type "FileNotFoundError"),e3 P "InterruptedError" 126 (.type "InterruptedError"),e3 P "IsADirectoryError" 127 (.type "IsADirectoryError"),e3 P "NotADirectoryError" 128 (.type "NotADirectoryError"),e3 P "PermissionError" 129 (.type "PermissionError"),e3 P "ProcessLookupError" 130 (.type "ProcessLookupError"),e3 P "TimeoutError" 131 (.type "TimeoutError"),e3 P "IndentationError" 132 (.type "IndentationError"),e3 P "_IncompleteInputError" 133 (.type "_IncompleteInputError"),e3 P "IndexError" 134 (.type "IndexError"),e3 P "KeyError" 135 (.type "KeyError"),e3 P "ModuleNotFoundError" 136 (.type "ModuleNotFoundError"),e3 P "NotImplementedError" 137 (.type "NotImplementedError"),e3 P "PythonFinalizationError" 138 (.type "PythonFinalizationError"),e3 P "RecursionError" 139 (.type "RecursionError"),e3 P "UnboundLocalError" 140 (.type "UnboundLocalError"),e3 P "UnicodeError" 141 (.type "UnicodeError"),e3 P "BrokenPipeError" 142 (.type "BrokenPipeError"),e3 P "ConnectionAbortedError" 143 (.type "ConnectionAbortedError"),e3 P "ConnectionRefusedError" 144 (.type "ConnectionRefusedError"),e3 P "ConnectionResetError" 145 (.type "ConnectionResetError"),e3 P "TabError" 146 (.type "TabError"),e3 P "UnicodeDecodeError" 147 (.type "UnicodeDecodeError"),e3 P "UnicodeEncodeError" 148 (.type "UnicodeEncodeError"),e3 P "UnicodeTranslateError" 149 (.type "UnicodeTranslateError"),e3 P "ExceptionGroup" 150 (.type "ExceptionGroup"),e3 P "EnvironmentError" 151 (.type "OSError"),e3 P "IOError" 152 (.type "OSError"),e3 P "open" 153 (.builtin "open"),e3 P "quit" 154 (.builtin "builtins.quit#opaque"),e3 P "exit" 155 (.builtin "builtins.exit#opaque"),e3 P "copyright" 156 (.builtin "builtins.copyright#opaque"),e3 P "credits" 157 (.builtin "builtins.credits#opaque"),e3 P "license" 158 (.builtin "builtins.license#opaque"),e3 P "help" 159 (.builtin "builtins.help#opaque")] 159) #[]),
 (1,Obj.mk (.type "dict") none (.dict #[e3 P "builtins" 162 (.ref 4),e3 P "__main__" 163 (.ref 5)] 2) #[]),
 (2,Obj.mk .none none (.dict #[]) #[]),
 (3,Obj.mk (.type "dict") none (.dict #[e3 P "__name__" 165 (.str (Str.ofString "law_il0171_01") 399),e3 P "__doc__" 166 .none,e3 P "__package__" 167 .none,e3 P "__loader__" 168 (.builtin "__main__.__loader__#opaque"),e3 P "__spec__" 169 .none,e3 P "__annotations__" 170 (.ref 6),e3 P "__builtins__" 171 (.ref 4),e3 P "__file__" 173 (.str (Str.ofString "/claim/cut.py") 172),e3 P "__cached__" 174 .none,e3 P "_wall" 193 (.ref 21),e3 P "_iter_escaped_chars" 205 (.ref 28),e3 P "cmp_to_key" 216 (.ref 35),e3 P "_NODE_OUT" 221 (.int (-1) 220),e3 P "_NODE_DONE" 224 (.int (-2) 223),e3 P "_NodeInfo" 261 (.ref 54),e3 P "CycleError" 279 (.ref 69),e3 P "TopologicalSorter" 398 (.ref 151),e3 P "_law_behind" 406 (.ref 160),e3 P "_law_served" 418 (.ref 167),e3 P "_law_record" 424 (.ref 172),e3 P "law" 430 (.ref 177)] 21) #[]),
 (4,Obj.mk (.type "module") (some 0) .plain #[]),
 (30,Obj.mk .none none (.fields #[]) #[]),
 (34,Obj.mk (.type "code") none (.fields #[.str (Str.ofString "cmp_to_key") 208,.str (Str.ofString "cmp_to_key") 209,.str (Str.ofString "/claim/cut.py") 210,.int 19 0,.int 1 0,.int 0 0,.int 0 0,.int 3 0,.ref 29,.bool true,.int 181 0,.ref 30,.none,.ref 31,.ref 32,.ref 33,.int 214 0,.int 19 0,.str (Str.ofString "/claim/cut.py") 215]) #[]),
 (162,Obj.mk .none none (.fields #[]) #[]),
 (166,Obj.mk (.type "code") none (.fields #[.str (Str.ofString "_law_served") 407,.str (Str.ofString "_law_served") 408,.str (Str.ofString "/claim/cut.py") 409,.int 169 0,.int 3 0,.int 0 0,.int 0 0,.int 3 0,.ref 161,.bool true,.int 181 0,.ref 162,.none,.ref 163,.ref 164,.ref 165,.int 416 0,.int 169 0,.str (Str.ofString "/claim/cut.py") 417]) #[]),
 (35,Obj.mk (.type "function") none (.func (fdOf (top 4) (Str.ofString "cmp_to_key") .none (.str (Str.ofString "cpy313.functools") 206) (.ref 34))) #[]),
 (167,Obj.mk (.type "function") none (.func (fdOf (top 13) (Str.ofString "_law_served") .none (.str (Str.ofString "law_il0171_01") 399) (.ref 166))) #[])]
end
section
open PySem PySem.W PySem.W.X PyProof.Rows Mine.Internal
noncomputable def kCls:Stmt:=nth (fBody (top 4)) 0
noncomputable abbrev cScope:Stmt->Scope:=fScope
noncomputable def fvO (o:Obj):Array Value:=match o.data with | .fields vs=>vs | _=>#[]
noncomputable def CdO (o:Obj) (q:Str):Prop:=∃ vs tq,o.data=.fields vs/\vs[1]?=some (.str q tq)
theorem CdO.mk {o:Obj} {q:Str} (h1:o.data=.fields (fvO o)) (h2:(fvO o)[1]?=some (.str q (tokOf ((fvO o)[1]?.getD .none)))):CdO o q:=e2_2 _ _ h1 h2
noncomputable def kst (j:Nat):Stmt:=nth (fBody kCls) j
theorem kbody_eq:fBody kCls=[kst 0,kst 1,kst 2,kst 3,kst 4,kst 5,kst 6,kst 7,kst 8]:=by kernel_rfl
namespace Z28
noncomputable section
def zQ (w:World) (A:Around) (R:Result->Shared->Prop) (h0 h:Heap) (g:Array GenState) (d:Drawn) (t:Nat) (os:OsState) (chg hr rest:List (Addr×Obj)) (n13 n16 n17 n18 n19 n20:Addr) (ta tb tc tf:Tok) (v0 v1 v2 x0 x1 x2 x16:Value) (file:Str) (tx:Int) (o20:Obj):Prop:=∀ (f3:h0.get? 3=some (oK (hK w.params) 3)) (f4:h0.get? 4=some (oK (hK w.params) 4)) (D:Mm h0 h chg ((n16,{ cls:=.type "dict",data:=.dict #[en w "__module__" ta v0,en w "__qualname__" tb v1,en w "__firstlineno__" tc v2] 3 })::(n18,{ cls:=.none,data:=.fields #[] })::hr) ((n20,o20)::(n19,{ cls:=.type "code",data:=.fields #[x0,x1,x2,rawInt 21,rawInt 0,rawInt 0,rawInt 0,rawInt 0,.ref n17,.bool true,rawInt tx,.ref n18,.none,.none,.none,.none,x16,rawInt 21,.str file tf] })::rest)) (x:∀ (n21 n27 n28 n29 n35 n36 n37 n43 n44 n45 n51 n52 n53 n59 n60 n61 n67 n68:Addr) (o27 o35:Obj) (pm:Value) (k0 k1 k2 k3 k4 k5 k6 k7 k8 k9 t1:Tok) (h1:Heap),Mm h0 h1 chg ((n16,{ cls:=.type "dict",data:=.dict #[en w "__module__" ta (.str (Str.ofString "cpy313.functools") k0),en w "__qualname__" tb v1,en w "__firstlineno__" tc v2,en w "__slots__" k1 (.ref n21),en w "__init__" k2 (.ref n28),en w "__lt__" k3 (.ref n36),en w "__gt__" k4 (.ref n44),en w "__eq__" k5 (.ref n52),en w "__le__" k6 (.ref n60),en w "__ge__" k7 (.ref n68),en w "__hash__" k8 .none] 11 })::(n18,{ cls:=.none,data:=.fields #[rawInt 25,rawInt 8,.ref n27,rawInt 28,rawInt 8,.ref n35,rawInt 31,rawInt 8,.ref n43,rawInt 34,rawInt 8,.ref n51,rawInt 37,rawInt 8,.ref n59,rawInt 40,rawInt 8,.ref n67] })::hr) ([(n68,{ cls:=.type "function",data:=.func (fdC (kmeth 7) (Str.ofString "cmp_to_key.<locals>.K.__ge__") [(Str.ofString "mycmp",n13)] pm (.ref n67) (.ref n61)) }),(n60,{ cls:=.type "function",data:=.func (fdC (kmeth 6) (Str.ofString "cmp_to_key.<locals>.K.__le__") [(Str.ofString "mycmp",n13)] pm (.ref n59) (.ref n53)) }),(n52,{ cls:=.type "function",data:=.func (fdC (kmeth 5) (Str.ofString "cmp_to_key.<locals>.K.__eq__") [(Str.ofString "mycmp",n13)] pm (.ref n51) (.ref n45)) }),(n44,{ cls:=.type "function",data:=.func (fdC (kmeth 4) (Str.ofString "cmp_to_key.<locals>.K.__gt__") [(Str.ofString "mycmp",n13)] pm (.ref n43) (.ref n37)) }),(n36,{ cls:=.type "function",data:=.func (fdC (kmeth 3) (Str.ofString "cmp_to_key.<locals>.K.__lt__") [(Str.ofString "mycmp",n13)] pm (.ref n35) (.ref n29)) }),(n35,o35),(n28,{ cls:=.type "function",data:=.func (fdOf (kmeth 2) (Str.ofString "cmp_to_key.<locals>.K.__init__") .none pm (.ref n27)) }),(n27,o27),(n21,{ cls:=.type "list",data:=.seq #[.str (Str.ofString "obj") k9] 0 })]++((n20,o20)::(n19,{ cls:=.type "code",data:=.fields #[x0,x1,x2,rawInt 21,rawInt 0,rawInt 0,rawInt 0,rawInt 0,.ref n17,.bool true,rawInt tx,.ref n18,.none,.none,.none,.none,x16,rawInt 21,.str file tf] })::rest))->CdO o27 (Str.ofString "cmp_to_key.<locals>.K.__init__")->CdO o35 (Str.ofString "cmp_to_key.<locals>.K.__lt__")->R (.ok .next) ⟨h1,g,d,t1,os⟩),codeAny (model PySem.Challenge.pw_il0171_01 w) A (.body (fBody kCls) { scope:=cScope kCls,locals:=n16,globals:=3,cells:=[(Str.ofString "mycmp",n13)],qual:=Str.ofString "cmp_to_key.<locals>.K.",code:=.ref n19,frame:=some n20,builtins:=0 }) R ⟨h,g,d,t,os⟩
abbrev zY:=(((((World×Around)×((Result->Shared->Prop)×Heap))×((Heap×(Array GenState))×(Drawn×Nat)))×(((OsState×(List (Addr×Obj)))×((List (Addr×Obj))×(List (Addr×Obj))))×((Addr×Addr)×(Addr×Addr))))×((((Addr×Addr)×(Tok×Tok))×((Tok×Tok)×(Value×Value)))×(((Value×Value)×(Value×Value))×((Value×Str)×(Int×Obj)))))
def zR (p:zY):=zQ p.1.1.1.1.1 p.1.1.1.1.2 p.1.1.1.2.1 p.1.1.1.2.2 p.1.1.2.1.1 p.1.1.2.1.2 p.1.1.2.2.1 p.1.1.2.2.2 p.1.2.1.1.1 p.1.2.1.1.2 p.1.2.1.2.1 p.1.2.1.2.2 p.1.2.2.1.1 p.1.2.2.1.2 p.1.2.2.2.1 p.1.2.2.2.2 p.2.1.1.1.1 p.2.1.1.1.2 p.2.1.1.2.1 p.2.1.1.2.2 p.2.1.2.1.1 p.2.1.2.1.2 p.2.1.2.2.1 p.2.1.2.2.2 p.2.2.1.1.1 p.2.2.1.1.2 p.2.2.1.2.1 p.2.2.1.2.2 p.2.2.2.1.1 p.2.2.2.1.2 p.2.2.2.2.1 p.2.2.2.2.2
def zc:zY:=eps1 (neP (neP (neP (neP (neP neW neA) neI) (neP neI (neP neD neI))) neI) neI) zR
def w:=zc.1.1.1.1.1
def A:=zc.1.1.1.1.2
def R:=zc.1.1.1.2.1
def h0:=zc.1.1.1.2.2
def h:=zc.1.1.2.1.1
def g:=zc.1.1.2.1.2
def d:=zc.1.1.2.2.1
def t:=zc.1.1.2.2.2
def os:=zc.1.2.1.1.1
def chg:=zc.1.2.1.1.2
def hr:=zc.1.2.1.2.1
def rest:=zc.1.2.1.2.2
def n13:=zc.1.2.2.1.1
def n16:=zc.1.2.2.1.2
def n17:=zc.1.2.2.2.1
def n18:=zc.1.2.2.2.2
def n19:=zc.2.1.1.1.1
def n20:=zc.2.1.1.1.2
def ta:=zc.2.1.1.2.1
def tb:=zc.2.1.1.2.2
def tc:=zc.2.1.2.1.1
def tf:=zc.2.1.2.1.2
def v0:=zc.2.1.2.2.1
def v1:=zc.2.1.2.2.2
def v2:=zc.2.2.1.1.1
def x0:=zc.2.2.1.1.2
def x1:=zc.2.2.1.2.1
def x2:=zc.2.2.1.2.2
def x16:=zc.2.2.2.1.1
def file:=zc.2.2.2.1.2
def tx:=zc.2.2.2.2.1
def o20:=zc.2.2.2.2.2
def kb:List DictEntry:=[en w "__module__" ta (.str (Str.ofString "cpy313.functools") t),en w "__qualname__" tb v1,en w "__firstlineno__" tc v2]
def kd (k:Nat) (ns:List Addr) (e:List DictEntry):Obj:={ cls:=.type "dict",data:=.dict (kb++(List.zipWith (λ(p:String×Nat) n=>en w p.1 (t+p.2) (.ref n)) [("__slots__",3),("__init__",11),("__lt__",20),("__gt__",29),("__eq__",38),("__le__",47),("__ge__",56)] ns++e)).toArray k }
noncomputable def kf (ns:List Addr):Obj:={ cls:=.none,data:=.fields (List.zipWith (λi n=>[rawInt i,rawInt 8,.ref n]) [25,28,31,34,37,40] ns).flatten.toArray }
def kfn (j:Nat) (q:String) (c ct:Addr):Obj:={ cls:=.type "function",data:=.func (fdC (kmeth j) (Str.ofString q) [(Str.ofString "mycmp",n13)] (.str (Str.ofString "law_il0171_01") 399) (.ref c) (.ref ct)) }
theorem zaux:zQ w A R h0 h g d t os chg hr rest n13 n16 n17 n18 n19 n20 ta tb tc tf v0 v1 v2 x0 x1 x2 x16 file tx o20:=by
 intro f3 f4 D x
 refine codeAny_body (by kernel_rfl) (by kernel_rfl) ?_
 rw [kbody_eq]
 refine wpAny_execs_cons ?_
 refine m_fresh (m_load n16 _ (D.atH 0 _ _ rfl) (m_fresh (m_load n16 _ (D.atH 0 _ _ rfl) ?_)))
 refine m_upd D (kd 3 [] []) (λH1 U1=>?_)
 refine m_pure .next ?_
 show wpAny _ _ (execs _ _) _ _ _
 refine wpAny_execs_cons ?_
 refine m_fresh (m_allocP U1 { cls:=.type "list",data:=.seq #[.str (Str.ofString "obj") (t+1+1)] 0 } (λn21 H2 D21=>?_))
 refine m_load n16 _ (D21.atH 0 _ _ rfl) (m_fresh (m_load n16 _ (D21.atH 0 _ _ rfl) (m_upd D21 (kd 4 [n21] []) (λH3 U3=>?_))))
 refine m_pure .next ?_
 show wpAny _ _ (execs _ _) _ _ _
 refine wpAny_execs_cons ?_
 refine m_load n19 _ (U3.at 2 _ _ rfl) (m_load n18 _ (U3.atH 1 _ _ rfl) (m_fresh (m_fresh ?_)))
 refine m_fresh (m_allocF U3 (λn22 H4 D22=>?_))
 refine m_allocF D22 (λn23 H5 D23=>?_)
 refine m_fresh (m_fresh (m_allocF D23 (λn24 H6 D24=>?_)))
 refine m_allocF D24 (λn25 H7 D25=>?_)
 refine m_allocF D25 (λn26 H8 D26=>?_)
 refine m_fresh (m_fresh (m_alloc D26 (λn27 H9 D27=>?_)))
 refine m_load n18 _ (D27.atH 1 _ _ rfl) (m_upd D27.swap (kf [n27]) (λH10 U10=>?_))
 refine m_load n18 _ (U10.atH 0 _ _ rfl) (m_load 3 _ (U10.old _ _ f3) (m_load 4 _ (U10.old _ _ f4) (m_load 3 _ (U10.old _ _ f3) ?_)))
 refine m_allocP U10 { cls:=.type "function",data:=.func (fdOf (kmeth 2) (Str.ofString "cmp_to_key.<locals>.K.__init__") .none (.str (Str.ofString "law_il0171_01") 399) (.ref n27)) } (λn28 H11 D28=>?_)
 refine m_load n16 _ (D28.atH 1 _ _ rfl) (m_fresh (m_load n16 _ (D28.atH 1 _ _ rfl) (m_upd D28.swap (kd 5 [n21,n28] []) (λH12 U12=>?_))))
 refine m_pure .next ?_
 show wpAny _ _ (execs _ _) _ _ _
 refine wpAny_execs_cons ?_
 refine m_allocF U12 (λn29 H13 D29=>?_)
 refine m_load n19 _ (D29.at 4 _ _ rfl) (m_load n18 _ (D29.atH 1 _ _ rfl) (m_fresh (m_fresh ?_)))
 refine m_fresh (m_fresh (m_allocF D29 (λn30 H14 D30=>?_)))
 refine m_allocF D30 (λn31 H15 D31=>?_)
 refine m_fresh (m_fresh (m_allocF D31 (λn32 H16 D32=>?_)))
 refine m_allocF D32 (λn33 H17 D33=>?_)
 refine m_allocF D33 (λn34 H18 D34=>?_)
 refine m_fresh (m_fresh (m_alloc D34 (λn35 H19 D35=>?_)))
 refine m_load n18 _ (D35.atH 1 _ _ rfl) (m_upd D35.swap (kf [n27,n35]) (λH20 U20=>?_))
 refine m_load n18 _ (U20.atH 0 _ _ rfl) (m_load 3 _ (U20.old _ _ f3) (m_load 4 _ (U20.old _ _ f4) (m_load 3 _ (U20.old _ _ f3) ?_)))
 refine m_allocP U20 (kfn 3 "cmp_to_key.<locals>.K.__lt__" n35 n29) (λn36 H21 D36=>?_)
 refine m_load n16 _ (D36.atH 1 _ _ rfl) (m_fresh (m_load n16 _ (D36.atH 1 _ _ rfl) (m_upd D36.swap (kd 6 [n21,n28,n36] []) (λH22 U22=>?_))))
 refine m_pure .next ?_
 show wpAny _ _ (execs _ _) _ _ _
 refine wpAny_execs_cons ?_
 refine m_allocF U22 (λn37 H23 D37=>?_)
 refine m_load n19 _ (D37.at 6 _ _ rfl) (m_load n18 _ (D37.atH 1 _ _ rfl) (m_fresh (m_fresh ?_)))
 refine m_fresh (m_fresh (m_allocF D37 (λn38 H24 D38=>?_)))
 refine m_allocF D38 (λn39 H25 D39=>?_)
 refine m_fresh (m_fresh (m_allocF D39 (λn40 H26 D40=>?_)))
 refine m_allocF D40 (λn41 H27 D41=>?_)
 refine m_allocF D41 (λn42 H28 D42=>?_)
 refine m_fresh (m_fresh (m_allocF D42 (λn43 H29 D43=>?_)))
 refine m_load n18 _ (D43.atH 1 _ _ rfl) (m_upd D43.swap (kf [n27,n35,n43]) (λH30 U30=>?_))
 refine m_load n18 _ (U30.atH 0 _ _ rfl) (m_load 3 _ (U30.old _ _ f3) (m_load 4 _ (U30.old _ _ f4) (m_load 3 _ (U30.old _ _ f3) ?_)))
 refine m_allocP U30 (kfn 4 "cmp_to_key.<locals>.K.__gt__" n43 n37) (λn44 H31 D44=>?_)
 refine m_load n16 _ (D44.atH 1 _ _ rfl) (m_fresh (m_load n16 _ (D44.atH 1 _ _ rfl) (m_upd D44.swap (kd 7 [n21,n28,n36,n44] []) (λH32 U32=>?_))))
 refine m_pure .next ?_
 show wpAny _ _ (execs _ _) _ _ _
 refine wpAny_execs_cons ?_
 refine m_allocF U32 (λn45 H33 D45=>?_)
 refine m_load n19 _ (D45.at 7 _ _ rfl) (m_load n18 _ (D45.atH 1 _ _ rfl) (m_fresh (m_fresh ?_)))
 refine m_fresh (m_fresh (m_allocF D45 (λn46 H34 D46=>?_)))
 refine m_allocF D46 (λn47 H35 D47=>?_)
 refine m_fresh (m_fresh (m_allocF D47 (λn48 H36 D48=>?_)))
 refine m_allocF D48 (λn49 H37 D49=>?_)
 refine m_allocF D49 (λn50 H38 D50=>?_)
 refine m_fresh (m_fresh (m_allocF D50 (λn51 H39 D51=>?_)))
 refine m_load n18 _ (D51.atH 1 _ _ rfl) (m_upd D51.swap (kf [n27,n35,n43,n51]) (λH40 U40=>?_))
 refine m_load n18 _ (U40.atH 0 _ _ rfl) (m_load 3 _ (U40.old _ _ f3) (m_load 4 _ (U40.old _ _ f4) (m_load 3 _ (U40.old _ _ f3) ?_)))
 refine m_allocP U40 (kfn 5 "cmp_to_key.<locals>.K.__eq__" n51 n45) (λn52 H41 D52=>?_)
 refine m_load n16 _ (D52.atH 1 _ _ rfl) (m_fresh (m_load n16 _ (D52.atH 1 _ _ rfl) (m_upd D52.swap (kd 8 [n21,n28,n36,n44,n52] []) (λH42 U42=>?_))))
 refine m_pure .next ?_
 show wpAny _ _ (execs _ _) _ _ _
 refine wpAny_execs_cons ?_
 refine m_allocF U42 (λn53 H43 D53=>?_)
 refine m_load n19 _ (D53.at 8 _ _ rfl) (m_load n18 _ (D53.atH 1 _ _ rfl) (m_fresh (m_fresh ?_)))
 refine m_fresh (m_fresh (m_allocF D53 (λn54 H44 D54=>?_)))
 refine m_allocF D54 (λn55 H45 D55=>?_)
 refine m_fresh (m_fresh (m_allocF D55 (λn56 H46 D56=>?_)))
 refine m_allocF D56 (λn57 H47 D57=>?_)
 refine m_allocF D57 (λn58 H48 D58=>?_)
 refine m_fresh (m_fresh (m_allocF D58 (λn59 H49 D59=>?_)))
 refine m_load n18 _ (D59.atH 1 _ _ rfl) (m_upd D59.swap (kf [n27,n35,n43,n51,n59]) (λH50 U50=>?_))
 refine m_load n18 _ (U50.atH 0 _ _ rfl) (m_load 3 _ (U50.old _ _ f3) (m_load 4 _ (U50.old _ _ f4) (m_load 3 _ (U50.old _ _ f3) ?_)))
 refine m_allocP U50 (kfn 6 "cmp_to_key.<locals>.K.__le__" n59 n53) (λn60 H51 D60=>?_)
 refine m_load n16 _ (D60.atH 1 _ _ rfl) (m_fresh (m_load n16 _ (D60.atH 1 _ _ rfl) (m_upd D60.swap (kd 9 [n21,n28,n36,n44,n52,n60] []) (λH52 U52=>?_))))
 refine m_pure .next ?_
 show wpAny _ _ (execs _ _) _ _ _
 refine wpAny_execs_cons ?_
 refine m_allocF U52 (λn61 H53 D61=>?_)
 refine m_load n19 _ (D61.at 9 _ _ rfl) (m_load n18 _ (D61.atH 1 _ _ rfl) (m_fresh (m_fresh ?_)))
 refine m_fresh (m_fresh (m_allocF D61 (λn62 H54 D62=>?_)))
 refine m_allocF D62 (λn63 H55 D63=>?_)
 refine m_fresh (m_fresh (m_allocF D63 (λn64 H56 D64=>?_)))
 refine m_allocF D64 (λn65 H57 D65=>?_)
 refine m_allocF D65 (λn66 H58 D66=>?_)
 refine m_fresh (m_fresh (m_allocF D66 (λn67 H59 D67=>?_)))
 refine m_load n18 _ (D67.atH 1 _ _ rfl) (m_upd D67.swap (kf [n27,n35,n43,n51,n59,n67]) (λH60 U60=>?_))
 refine m_load n18 _ (U60.atH 0 _ _ rfl) (m_load 3 _ (U60.old _ _ f3) (m_load 4 _ (U60.old _ _ f4) (m_load 3 _ (U60.old _ _ f3) ?_)))
 refine m_allocP U60 (kfn 7 "cmp_to_key.<locals>.K.__ge__" n67 n61) (λn68 H61 D68=>?_)
 refine m_load n16 _ (D68.atH 1 _ _ rfl) (m_fresh (m_load n16 _ (D68.atH 1 _ _ rfl) (m_upd D68.swap (kd 10 [n21,n28,n36,n44,n52,n60,n68] []) (λH62 U62=>?_))))
 refine m_pure .next ?_
 show wpAny _ _ (execs _ _) _ _ _
 refine wpAny_execs_cons ?_
 refine m_load n16 _ (U62.atH 0 _ _ rfl) (m_fresh (m_load n16 _ (U62.atH 0 _ _ rfl) (m_upd U62 (kd 11 [n21,n28,n36,n44,n52,n60,n68] [en w "__hash__" (t+57) .none]) (λH63 U63=>?_))))
 refine m_pure .next ?_
 show wpAny _ _ (execs _ _) _ _ _
 refine wpAny_execs_nil ?_
 exact x _ _ _ _ _ _ _ _ _ _ _ _ _ _ _ _ _ _ _ _ _ _ _ _ _ _ _ _ _ _ _ _ _ U63 (CdO.mk (by kernel_rfl) (by kernel_rfl)) (CdO.mk (by kernel_rfl) (by kernel_rfl))
theorem zall:∀ p,zR p:=all1 zaux
end
end Z28
theorem bodyK {w A R h0 h g d t os chg hr rest} (n13 n16 n17 n18 n19 n20 ta tb tc tf v0 v1 v2 x0 x1 x2 x16 file tx o20):Z28.zQ w A R h0 h g d t os chg hr rest n13 n16 n17 n18 n19 n20 ta tb tc tf v0 v1 v2 x0 x1 x2 x16 file tx o20:=Z28.zall (((((w,A),(R,h0)),((h,g),(d,t))),(((os,chg),(hr,rest)),((n13,n16),(n17,n18)))),((((n19,n20),(ta,tb)),((tc,tf),(v0,v1))),(((v2,x0),(x1,x2)),((x16,file),(tx,o20)))))
end
section
open PySem PySem.W PySem.W.X PyProof.Rows Mine.Internal
local macro_rules | `(tactic| x_close)=>`(tactic| (first | exact⟨_,_,rfl,rfl,by first | assumption | with_unfolding_all assumption⟩ | exact⟨rfl,rfl⟩))
section
open PySem PySem.W PySem.W.X PyProof.Rows Mine.Internal
theorem superGA {prog:Program} {w:World} {A:Around} {R:Result->Shared->Prop} {h g d t os} (so c nc bt:Addr) (tq tk kq:Tok)
 (hso:h.get? so=some { cls:=.type "super",data:=.fields #[.ref c,.ref c,.ref c] })
 (hc:h.get? c=some { cls:=.type "type",data:=.cls { name:=Str.ofString "K",bases:=[.type "object"],mro:=[.ref c,.type "object"],ns:=nc,qualname:=(Str.ofString "cmp_to_key.<locals>.K"),hasDict:=false,slotNames:=[Str.ofString "obj"] },slots:=#[some (.ref bt),none,some (.str (Str.ofString "K") tk),some (.str (Str.ofString "cmp_to_key.<locals>.K") kq),some (.builtin "object.__new__"),some (.bool false)] })
 (h2:h.get? 2=some (oK (hK w.params) 2))
 (x:∀ bm h',Mem h h' [] [(bm,{ cls:=.type "builtin_function_or_method",data:=.fields #[.builtin "object.__init_subclass__",.ref c] })]->R (.ok (.ret (.ref bm))) ⟨h',g,d,t,os⟩)
 : codeAny (model prog w) A (.call (.builtin "super.__getattribute__") ⟨[.ref so,.str (Str.ofString "__init_subclass__") tq],[]⟩) R ⟨h,g,d,t,os⟩:=by
 have D:=Mm.start h
 refine codeAny_of_tree ?_
 refine m_load so _ (D.old _ _ hso) ?_
 refine m_pure (.again (.builtin "super.__getattribute__" ⟨[.ref so,.str (Str.ofString "__init_subclass__") tq],[]⟩)) ⟨by kernel_rfl,?_⟩
 refine codeAny_builtin (b:=Builtin.«super.__getattribute__») (entryFor_of_tree (by kernel_rfl)) ?_
 unfold Builtin.«super.__getattribute__»
 refine wpAny_bind (m_pure (some (Str.ofString "__init_subclass__")) ?_)
 refine wpAny_ite_false (by kernel_rfl) ?_
 refine wpAny_bind (m_pure (some (Str.ofString "__init_subclass__")) ?_)
 refine wpAny_bind (m_load so _ (D.old _ _ hso) (m_pure (.ref c) ?_))
 refine wpAny_bind (m_load so _ (D.old _ _ hso) (m_pure (.ref c) ?_))
 refine wpAny_bind (m_load so _ (D.old _ _ hso) (m_pure (.ref c) ?_))
 refine wpAny_ite_false (by kernel_rfl) ?_
 refine wpAny_bind (m_load 2 _ (D.old _ _ h2) (m_pure PUnit.unit ?_))
 refine wpAny_ite_false (by kernel_rfl) ?_
 refine wpAny_bind (m_load c _ (D.old _ _ hc) (m_pure [.ref c,.type "object"] ?_))
 have hdr:List.drop 1 (List.dropWhile (λx=>x != Value.ref c) [Value.ref c,Value.type "object"])=[Value.type "object"]:=by simp
 k_node
 rw [hdr]
 refine wpAny_bind (m_runE (.call (.builtin "classmethod_descriptor.__get__") ⟨[.builtin "object.__init_subclass__",if (Value.ref c == Value.ref c)=true then Value.none else Value.ref c,.ref c],[]⟩) (.call (.builtin "classmethod_descriptor.__get__") ⟨[.builtin "object.__init_subclass__",Value.none,.ref c],[]⟩) none (by simp) (λ_ _=>?_))
 refine wpAny_mono (Q:=λr s'=>∃ a h',r=.ok (.ret (.ref a))/\s'=⟨h',g,d,t,os⟩/\Mem h h' [] [(a,{ cls:=.type "builtin_function_or_method",data:=.fields #[.builtin "object.__init_subclass__",.ref c] })]) ?_ ?_ (λ_ _ e=>e)
 ·x_run
 intro _ _ zz;refine q2_3 zz λc0 h1 e1 e2 D0=>?_;clear zz
 subst e1 e2
 refine m_pure (some (.done (.ret (.ref c0))),()) (m_pure (.done (.ret (.ref c0))) ?_)
 exact x _ _ D0
end
section
open PySem PySem.W PySem.W.X PyProof.Rows Mine.Internal
noncomputable def kR (w:World) (kc:Tok) (vi:Int) (kw:Tok) (k1:Tok) (sl:Addr) (k2:Tok) (n28:Addr) (k3:Tok) (n36:Addr) (k4:Tok) (n44:Addr) (k5:Tok) (n52:Addr) (k6:Tok) (n60:Addr) (k7:Tok) (n68:Addr) (k8 k9:Tok) (sa:Addr):List DictEntry:=[en w "__firstlineno__" kc (.int vi kw),en w "__slots__" k1 (.ref sl),en w "__init__" k2 (.ref n28),en w "__lt__" k3 (.ref n36),en w "__gt__" k4 (.ref n44),en w "__eq__" k5 (.ref n52),en w "__le__" k6 (.ref n60),en w "__ge__" k7 (.ref n68),en w "__hash__" k8 .none,en w "__static_attributes__" k9 (.ref sa)]
namespace Z29
noncomputable def zQ (prog:Program) (w:World) (A:Around) (Q:PySem.Fin->Shared->Prop) (E:Value->Shared->Prop) (h:Heap) (g:Array GenState) (d:Drawn) (t:Nat) (os:OsState) (bt ns sl sa n28 n36 n44 n52 n60 n68:Addr) (f28 f36 f44 f52 f60 f68:FuncData) (tk ka kb kc kq k1 k2 k3 k4 k5 k6 k7 k8 k9 ks kt:Tok) (vs:Str) (vi:Int) (kv kw:Tok) (ep0:Nat):Prop:=∀ (hbt:h.get? bt=some { cls:=.type "tuple",data:=.seq #[.type "object"] 0 }) (hns:h.get? ns=some { cls:=.type "dict",data:=.dict (en w "__module__" ka (.str vs kv)::en w "__qualname__" kb (.str (Str.ofString "cmp_to_key.<locals>.K") kq)::kR w kc vi kw k1 sl k2 n28 k3 n36 k4 n44 k5 n52 k6 n60 k7 n68 k8 k9 sa).toArray ep0 }) (hne:ns≠sysModules) (hsl:h.get? sl=some { cls:=.type "list",data:=.seq #[.str (Str.ofString "obj") ks] 0 }) (h28:h.get? n28=some { cls:=.type "function",data:=.func f28 }) (h36:h.get? n36=some { cls:=.type "function",data:=.func f36 }) (h44:h.get? n44=some { cls:=.type "function",data:=.func f44 }) (h52:h.get? n52=some { cls:=.type "function",data:=.func f52 }) (h60:h.get? n60=some { cls:=.type "function",data:=.func f60 }) (h68:h.get? n68=some { cls:=.type "function",data:=.func f68 }) (hsa:h.get? sa=some { cls:=.type "tuple",data:=.seq #[.str (Str.ofString "obj") kt] 0 }) (h2:h.get? 2=some (oK (hK w.params) 2)) (x:∀ (c nc md:Addr) (m0 m1 m2:Tok) (t1:Nat) (h1:Heap),Mm h h1 [] [] [(c,{ cls:=.type "type",data:=.cls { name:=Str.ofString "K",bases:=[.type "object"],mro:=[.ref c,.type "object"],ns:=nc,qualname:=(Str.ofString "cmp_to_key.<locals>.K"),hasDict:=false,slotNames:=[Str.ofString "obj"] },slots:=#[some (.ref bt),none,some (.str (Str.ofString "K") tk),some (.str (Str.ofString "cmp_to_key.<locals>.K") kq),some (.builtin "object.__new__"),some (.bool false)] }),(nc,{ cls:=.type "dict",data:=.dict (en w "__module__" ka (.str vs kv)::(kR w kc vi kw k1 sl k2 n28 k3 n36 k4 n44 k5 n52 k6 n60 k7 n68 k8 k9 sa++[en w "obj" m1 (.ref md),en w "__doc__" m2 .none])).toArray 3 }),(md,{ cls:=.type "member_descriptor",data:=.fields #[.str (Str.ofString "obj") m0,.ref c,.builtin "proto.slot",.builtin "proto.slot#set",.int 0 0] })]->Q (.done (.ret (.ref c))) ⟨h1,g,d,t1,os⟩),wpAny (model prog w) A (Builtin.«type.__new__» ⟨[.type "type",.str (Str.ofString "K") tk,.ref bt,.ref ns],[]⟩) Q E ⟨h,g,d,t,os⟩
noncomputable abbrev zY:=(((((Program×World)×(Around×((PySem.Fin->Shared->Prop)×(Value->Shared->Prop))))×((Heap×((Array GenState)×Drawn))×(Nat×(OsState×Addr))))×(((Addr×(Addr×Addr))×(Addr×(Addr×Addr)))×((Addr×(Addr×Addr))×(FuncData×(FuncData×FuncData)))))×((((FuncData×(FuncData×FuncData))×(Tok×(Tok×Tok)))×((Tok×(Tok×Tok))×(Tok×(Tok×Tok))))×(((Tok×(Tok×Tok))×(Tok×(Tok×Tok)))×((Tok×(Str×Int))×(Tok×(Tok×Nat))))))
noncomputable def zR (p:zY):=zQ p.1.1.1.1.1 p.1.1.1.1.2 p.1.1.1.2.1 p.1.1.1.2.2.1 p.1.1.1.2.2.2 p.1.1.2.1.1 p.1.1.2.1.2.1 p.1.1.2.1.2.2 p.1.1.2.2.1 p.1.1.2.2.2.1 p.1.1.2.2.2.2 p.1.2.1.1.1 p.1.2.1.1.2.1 p.1.2.1.1.2.2 p.1.2.1.2.1 p.1.2.1.2.2.1 p.1.2.1.2.2.2 p.1.2.2.1.1 p.1.2.2.1.2.1 p.1.2.2.1.2.2 p.1.2.2.2.1 p.1.2.2.2.2.1 p.1.2.2.2.2.2 p.2.1.1.1.1 p.2.1.1.1.2.1 p.2.1.1.1.2.2 p.2.1.1.2.1 p.2.1.1.2.2.1 p.2.1.1.2.2.2 p.2.1.2.1.1 p.2.1.2.1.2.1 p.2.1.2.1.2.2 p.2.1.2.2.1 p.2.1.2.2.2.1 p.2.1.2.2.2.2 p.2.2.1.1.1 p.2.2.1.1.2.1 p.2.2.1.1.2.2 p.2.2.1.2.1 p.2.2.1.2.2.1 p.2.2.1.2.2.2 p.2.2.2.1.1 p.2.2.2.1.2.1 p.2.2.2.1.2.2 p.2.2.2.2.1 p.2.2.2.2.2.1 p.2.2.2.2.2.2
noncomputable def zc:zY:=eps1 (neP (neP (neP (neP (neP neI neW) (neP neA neI)) (neP (neP neI (neP neI neD)) neI)) neI) neI) zR
noncomputable def prog:=zc.1.1.1.1.1
noncomputable def w:=zc.1.1.1.1.2
noncomputable def A:=zc.1.1.1.2.1
noncomputable def Q:=zc.1.1.1.2.2.1
noncomputable def E:=zc.1.1.1.2.2.2
noncomputable def h:=zc.1.1.2.1.1
noncomputable def g:=zc.1.1.2.1.2.1
noncomputable def d:=zc.1.1.2.1.2.2
noncomputable def t:=zc.1.1.2.2.1
noncomputable def os:=zc.1.1.2.2.2.1
noncomputable def bt:=zc.1.1.2.2.2.2
noncomputable def ns:=zc.1.2.1.1.1
noncomputable def sl:=zc.1.2.1.1.2.1
noncomputable def sa:=zc.1.2.1.1.2.2
noncomputable def n28:=zc.1.2.1.2.1
noncomputable def n36:=zc.1.2.1.2.2.1
noncomputable def n44:=zc.1.2.1.2.2.2
noncomputable def n52:=zc.1.2.2.1.1
noncomputable def n60:=zc.1.2.2.1.2.1
noncomputable def n68:=zc.1.2.2.1.2.2
noncomputable def f28:=zc.1.2.2.2.1
noncomputable def f36:=zc.1.2.2.2.2.1
noncomputable def f44:=zc.1.2.2.2.2.2
noncomputable def f52:=zc.2.1.1.1.1
noncomputable def f60:=zc.2.1.1.1.2.1
noncomputable def f68:=zc.2.1.1.1.2.2
noncomputable def tk:=zc.2.1.1.2.1
noncomputable def ka:=zc.2.1.1.2.2.1
noncomputable def kb:=zc.2.1.1.2.2.2
noncomputable def kc:=zc.2.1.2.1.1
noncomputable def kq:=zc.2.1.2.1.2.1
noncomputable def k1:=zc.2.1.2.1.2.2
noncomputable def k2:=zc.2.1.2.2.1
noncomputable def k3:=zc.2.1.2.2.2.1
noncomputable def k4:=zc.2.1.2.2.2.2
noncomputable def k5:=zc.2.2.1.1.1
noncomputable def k6:=zc.2.2.1.1.2.1
noncomputable def k7:=zc.2.2.1.1.2.2
noncomputable def k8:=zc.2.2.1.2.1
noncomputable def k9:=zc.2.2.1.2.2.1
noncomputable def ks:=zc.2.2.1.2.2.2
noncomputable def kt:=zc.2.2.2.1.1
noncomputable def vs:=zc.2.2.2.1.2.1
noncomputable def vi:=zc.2.2.2.1.2.2
noncomputable def kv:=zc.2.2.2.2.1
noncomputable def kw:=zc.2.2.2.2.2.1
noncomputable def ep0:=zc.2.2.2.2.2.2
theorem zaux:zQ prog w A Q E h g d t os bt ns sl sa n28 n36 n44 n52 n60 n68 f28 f36 f44 f52 f60 f68 tk ka kb kc kq k1 k2 k3 k4 k5 k6 k7 k8 k9 ks kt vs vi kv kw ep0:=by
 intro hbt hns hne hsl h28 h36 h44 h52 h60 h68 hsa h2 x
 unfold Builtin.«type.__new__»
 have D:=Mm.start h
 refine wpAny_bind (m_pure (some (Str.ofString "K")) ?_)
 refine wpAny_bind (m_load bt _ (D.old _ _ hbt) (m_pure true ?_))
 k_node;k_node;refine wpAny_bind ?_
 refine m_load ns _ (D.old _ _ hns) (m_pure true ?_)
 k_node;k_node;refine wpAny_bind ?_
 refine m_load bt _ (D.old _ _ hbt) (m_pure (some #[.type "object"]) ?_)
 k_node;k_node;refine wpAny_bind ?_
 refine m_pure PUnit.unit ?_
 refine wpAny_bind (m_pure (.type "type") ?_)
 k_node;k_node;refine wpAny_bind ?_
 refine m_pure PUnit.unit ?_
 refine wpAny_bind (m_pure (.type "object") ?_)
 k_node
 refine wpAny_ite_false (by simp [hne]) ?_
 refine wpAny_bind (m_load ns _ (D.old _ _ hns) (m_pure (en w "__module__" ka (.str vs kv)::en w "__qualname__" kb (.str (Str.ofString "cmp_to_key.<locals>.K") kq)::kR w kc vi kw k1 sl k2 n28 k3 n36 k4 n44 k5 n52 k6 n60 k7 n68 k8 k9 sa).toArray ?_))
 refine wpAny_bind (m_load ns _ (D.old _ _ hns) (m_pure (some (.builtin "dict.__iter__")) ?_))
 k_node;k_node;refine wpAny_bind ?_
 refine m_pure ((en w "__module__" ka (.str vs kv)::en w "__qualname__" kb (.str (Str.ofString "cmp_to_key.<locals>.K") kq)::kR w kc vi kw k1 sl k2 n28 k3 n36 k4 n44 k5 n52 k6 n60 k7 n68 k8 k9 sa).toArray,[]) ?_
 refine wpAny_bind ?_
 with_reducible refine wpAny_holding ?_
 refine m_load sl _ (D.old _ _ hsl) (m_run (.builtin "proto.collect" ⟨[.ref sl],[]⟩) none (λ_ _=>?_))
 refine wpAny_mono (Q:=λr s'=>∃ a h',r=.ok (.ret (.ref a))/\s'=⟨h',g,d,t,os⟩/\Mem h h' [] [(a,{ cls:=.type "list",data:=.seq #[.str (Str.ofString "obj") ks] 1 })]) ?_ ?_ (λ_ _ e=>e)
 ·generalize sl=sl' at hsl ⊢;generalize h=h' at hsl ⊢;x_run
 intro _ _ zz;refine q2_3 zz λc0 h1 e1 e2 D0=>?_;clear zz
 subst e1 e2
 have D1:=D.addM D0
 refine m_load c0 _ (D1.at 0 _ _ rfl) (m_pure ({ names:=[Str.ofString "obj"],dict:=false,weak:=false,inherited:=[] }:Builtin.Slots.Plan) ?_)
 refine wpAny_bind (m_allocH D1 { cls:=.type "dict",data:=.dict (en w "__module__" ka (.str vs kv)::en w "__qualname__" kb (.str (Str.ofString "cmp_to_key.<locals>.K") kq)::kR w kc vi kw k1 sl k2 n28 k3 n36 k4 n44 k5 n52 k6 n60 k7 n68 k8 k9 sa).toArray 0 } (λnc H1 Dnc=>?_))
 refine m_pure (.ref nc) ?_
 k_node
 refine wpAny_ite_false (by kernel_rfl) ?_
 k_node
 refine wpAny_bind (m_pure PUnit.unit ?_)
 refine wpAny_ite_false (by kernel_rfl) ?_
 refine wpAny_bind (m_load nc _ (Dnc.atH 0 _ _ rfl) (m_pure (some (.str (Str.ofString "cmp_to_key.<locals>.K") kq)) ?_))
 refine wpAny_bind (m_load nc _ (Dnc.atH 0 _ _ rfl) (m_pure (some (.str (Str.ofString "cmp_to_key.<locals>.K") kq)) ?_))
 refine wpAny_bind (m_pure (some (Str.ofString "cmp_to_key.<locals>.K")) ?_)
 refine wpAny_bind (m_pure (Str.ofString "cmp_to_key.<locals>.K") ?_)
 refine wpAny_bind (m_load nc _ (Dnc.atH 0 _ _ rfl) (m_pure (none:Option Value) ?_))
 refine wpAny_bind (m_allocH Dnc { cls:=.type "type",data:=.cls { name:=Str.ofString "K",bases:=[.type "object"],mro:=[],ns:=nc,qualname:=(Str.ofString "cmp_to_key.<locals>.K"),hasDict:=true,slotNames:=[] },slots:=#[] } (λc H2 Dc=>?_))
 refine m_pure c ?_
 refine wpAny_ite_true (by kernel_rfl) ?_
 refine wpAny_bind (m_upd Dc { cls:=.type "type",data:=.cls { name:=Str.ofString "K",bases:=[.type "object"],mro:=[],ns:=nc,qualname:=(Str.ofString "cmp_to_key.<locals>.K"),hasDict:=true,slotNames:=[] },slots:=#[some (.ref bt)] } (λH3 U1=>?_))
 refine m_pure PUnit.unit ?_
 refine wpAny_bind (m_upd U1 { cls:=.type "type",data:=.cls { name:=Str.ofString "K",bases:=[.type "object"],mro:=[],ns:=nc,qualname:=(Str.ofString "cmp_to_key.<locals>.K"),hasDict:=true,slotNames:=[] },slots:=#[some (.ref bt),none,some (.str (Str.ofString "K") tk)] } (λH4 U2=>?_))
 refine m_pure PUnit.unit ?_
 k_node;refine wpAny_bind ?_
 refine m_upd U2 { cls:=.type "type",data:=.cls { name:=Str.ofString "K",bases:=[.type "object"],mro:=[],ns:=nc,qualname:=(Str.ofString "cmp_to_key.<locals>.K"),hasDict:=true,slotNames:=[] },slots:=#[some (.ref bt),none,some (.str (Str.ofString "K") tk),some (.str (Str.ofString "cmp_to_key.<locals>.K") kq)] } (λH5 U3=>?_)
 refine m_pure PUnit.unit ?_
 refine wpAny_bind (m_load nc _ (U3.atH 1 _ _ rfl) (m_upd U3.swap { cls:=.type "dict",data:=.dict (en w "__module__" ka (.str vs kv)::kR w kc vi kw k1 sl k2 n28 k3 n36 k4 n44 k5 n52 k6 n60 k7 n68 k8 k9 sa).toArray 1 } (λH6 U4=>?_)))
 refine m_pure true ?_
 refine wpAny_bind (m_load nc _ (U4.atH 0 _ _ rfl) (m_pure (none:Option Value) ?_))
 refine wpAny_bind (m_load nc _ (U4.atH 0 _ _ rfl) (m_load nc _ (U4.atH 0 _ _ rfl) (m_pure PUnit.unit ?_)))
 refine wpAny_bind (m_load nc _ (U4.atH 0 _ _ rfl) (m_pure (none:Option Value) ?_))
 refine wpAny_bind (m_load nc _ (U4.atH 0 _ _ rfl) (m_pure (none:Option Value) ?_))
 refine wpAny_bind (m_pure (none:Option Value) ?_)
 refine wpAny_bind (m_pure [.type "object"] ?_)
 refine wpAny_bind (m_pure [.ref c,.type "object"] ?_)
 k_node
 refine wpAny_bind ?_
 have hflt:List.filter (λx=>x != Value.ref c) [Value.ref c,Value.type "object"]=[Value.type "object"]:=by simp
 rw [hflt]
 refine m_pure false ?_
 refine wpAny_bind (m_load c _ (U4.atH 1 _ _ rfl) (m_upd U4.swap { cls:=.type "type",data:=.cls { name:=Str.ofString "K",bases:=[.type "object"],mro:=[.ref c,.type "object"],ns:=nc,qualname:=(Str.ofString "cmp_to_key.<locals>.K"),hasDict:=true,slotNames:=[] },slots:=#[some (.ref bt),none,some (.str (Str.ofString "K") tk),some (.str (Str.ofString "cmp_to_key.<locals>.K") kq)] } (λH7 U5=>?_)))
 refine m_load c _ (U5.atH 0 _ _ rfl) (m_pure PUnit.unit ?_)
 refine wpAny_bind (m_pure (some "object.__new__") ?_)
 refine wpAny_bind (m_upd U5 { cls:=.type "type",data:=.cls { name:=Str.ofString "K",bases:=[.type "object"],mro:=[.ref c,.type "object"],ns:=nc,qualname:=(Str.ofString "cmp_to_key.<locals>.K"),hasDict:=true,slotNames:=[] },slots:=#[some (.ref bt),none,some (.str (Str.ofString "K") tk),some (.str (Str.ofString "cmp_to_key.<locals>.K") kq),some (.builtin "object.__new__")] } (λH8 U6=>?_))
 refine m_pure PUnit.unit ?_
 refine wpAny_bind (m_load c _ (U6.atH 0 _ _ rfl) (m_load c _ (U6.atH 0 _ _ rfl) (m_load c _ (U6.atH 0 _ _ rfl) ?_)))
 refine m_load nc _ (U6.atH 1 _ _ rfl) (m_pure PUnit.unit ?_)
 refine wpAny_bind (m_load nc _ (U6.atH 1 _ _ rfl) (m_fresh (m_allocP U6 { cls:=.type "member_descriptor",data:=.fields #[.str (Str.ofString "obj") t,.ref c,.builtin "proto.slot",.builtin "proto.slot#set",.int 0 0] } (λmd H9 Dmd=>?_))))
 refine m_load nc _ (Dmd.atH 1 _ _ rfl) (m_fresh (m_load nc _ (Dmd.atH 1 _ _ rfl) (m_upd Dmd.swap { cls:=.type "dict",data:=.dict (en w "__module__" ka (.str vs kv)::(kR w kc vi kw k1 sl k2 n28 k3 n36 k4 n44 k5 n52 k6 n60 k7 n68 k8 k9 sa++[en w "obj" (t+1) (.ref md)])).toArray 2 } (λH10 U7=>?_))))
 refine m_load c _ (U7.atH 1 _ _ rfl) (m_upd U7.swap { cls:=.type "type",data:=.cls { name:=Str.ofString "K",bases:=[.type "object"],mro:=[.ref c,.type "object"],ns:=nc,qualname:=(Str.ofString "cmp_to_key.<locals>.K"),hasDict:=false,slotNames:=[Str.ofString "obj"] },slots:=#[some (.ref bt),none,some (.str (Str.ofString "K") tk),some (.str (Str.ofString "cmp_to_key.<locals>.K") kq),some (.builtin "object.__new__")] } (λH11 U8=>?_))
 refine m_load c _ (U8.atH 0 _ _ rfl) (m_pure PUnit.unit ?_)
 refine wpAny_bind (m_pure false ?_)
 refine wpAny_bind (m_upd U8 { cls:=.type "type",data:=.cls { name:=Str.ofString "K",bases:=[.type "object"],mro:=[.ref c,.type "object"],ns:=nc,qualname:=(Str.ofString "cmp_to_key.<locals>.K"),hasDict:=false,slotNames:=[Str.ofString "obj"] },slots:=#[some (.ref bt),none,some (.str (Str.ofString "K") tk),some (.str (Str.ofString "cmp_to_key.<locals>.K") kq),some (.builtin "object.__new__"),some (.bool false)] } (λH12 U9=>?_))
 refine m_pure PUnit.unit ?_
 refine wpAny_ite_false (by kernel_rfl) ?_
 refine wpAny_ite_false (by kernel_rfl) ?_
 refine wpAny_bind (m_load nc _ (U9.atH 1 _ _ rfl) (m_pure (none:Option Value) ?_))
 refine wpAny_ite_true (by kernel_rfl) ?_
 refine wpAny_bind (m_fresh (m_load nc _ (U9.atH 1 _ _ rfl) (m_upd U9.swap { cls:=.type "dict",data:=.dict (en w "__module__" ka (.str vs kv)::(kR w kc vi kw k1 sl k2 n28 k3 n36 k4 n44 k5 n52 k6 n60 k7 n68 k8 k9 sa++[en w "obj" (t+1) (.ref md),en w "__doc__" (t+1+1) .none])).toArray 3 } (λH13 U10=>?_))))
 refine m_pure PUnit.unit ?_
 refine wpAny_bind (m_load nc _ (U10.atH 0 _ _ rfl) (m_pure (some (.ref n52)) ?_))
 refine wpAny_ite_true (by kernel_rfl) ?_
 refine wpAny_bind (m_load nc _ (U10.atH 0 _ _ rfl) (m_pure (some .none) ?_))
 refine wpAny_ite_false (by kernel_rfl) ?_
 refine wpAny_bind (m_pure PUnit.unit ?_)
 k_node
 refine wpAny_bind ?_
 with_reducible_and_instances refine wpAny_tryCatch ?_
 with_reducible refine wpAny_holding ?_
 refine wpAny_bind (m_load nc _ (U10.atH 0 _ _ rfl) (m_pure (en w "__module__" ka (.str vs kv)::(kR w kc vi kw k1 sl k2 n28 k3 n36 k4 n44 k5 n52 k6 n60 k7 n68 k8 k9 sa++[en w "obj" (t+1) (.ref md),en w "__doc__" (t+1+1) .none])).toArray ?_))
 refine wpAny_bind (m_pure false ?_)
 refine wpAny_ite_false (by kernel_rfl) ?_
 refine wpAny_bind (m_load nc _ (U10.atH 0 _ _ rfl) (m_pure (en w "__module__" ka (.str vs kv)::(kR w kc vi kw k1 sl k2 n28 k3 n36 k4 n44 k5 n52 k6 n60 k7 n68 k8 k9 sa++[en w "obj" (t+1) (.ref md),en w "__doc__" (t+1+1) .none])).toArray ?_))
 refine wpAny_bind (m_load sl _ (U10.old _ _ hsl) (m_load n28 _ (U10.old _ _ h28) (m_load n36 _ (U10.old _ _ h36) ?_)))
 refine m_load n44 _ (U10.old _ _ h44) (m_load n52 _ (U10.old _ _ h52) (m_load n60 _ (U10.old _ _ h60) (m_load n68 _ (U10.old _ _ h68) ?_)))
 refine m_load sa _ (U10.old _ _ hsa) (m_load md _ (U10.at 0 _ _ rfl) (m_pure PUnit.unit ?_))
 have hcf:=(U10.atH 1 _ _ rfl)
 refine wpAny_bind (m_run (.call (.type "super") ⟨[.ref c,.ref c],[]⟩) none (λ_ _=>?_))
 refine wpAny_mono (Q:=λr s'=>∃ a h',r=.ok (.ret (.ref a))/\s'=⟨h',g,d,t+3,os⟩/\Mem H13 h' [] [(a,{ cls:=.type "super",data:=.fields #[.ref c,.ref c,.ref c] })]) ?_ ?_ (λ_ _ e=>e)
 ·x_run
 intro _ _ zz;refine q2_3 zz λso hs e1 e2 D0=>?_;clear zz
 subst e1 e2
 have Ds:=U10.addM D0
 refine m_pure (.ref so) ?_
 refine wpAny_bind (m_fresh (m_load so _ (Ds.at 0 _ _ rfl) (m_code (.call (.builtin "super.__getattribute__") ⟨[.ref so,.str (Str.ofString "__init_subclass__") (t+3)],[]⟩) none ?_)))
 refine superGA so c nc bt _ tk kq (Ds.at 0 _ _ rfl) (Ds.atH 1 _ _ rfl) (Ds.old _ _ h2) (λbm hb D0=>?_)
 have Db:=Ds.addM D0
 refine m_pure (.ref bm) ?_
 have hcg:=(Db.atH 1 _ _ rfl)
 have hbm:=(Db.at 0 _ _ rfl)
 refine wpAny_bind (m_run (.call (.ref bm) ⟨[],[]⟩) none (λ_ _=>?_))
 refine wpAny_mono (Q:=λr s'=>r=.ok (.ret .none)/\s'=⟨hb,g,d,t+4,os⟩) ?_ ?_ (λ_ _ e=>e)
 ·x_run
 intro _ _ zz;refine q0_2 zz λe1 e2=>?_;clear zz
 subst e1 e2
 refine m_pure .none (m_pure PUnit.unit (m_pure (.done (.ret (.ref c))) ?_))
 exact x _ _ _ _ _ _ _ _ (Db.cool.cool.subl (.cons_cons _ (.cons_cons _ (.cons _ (.cons _ (.cons_cons _ (.cons _ (List.Sublist.refl _))))))))
theorem zall:∀ p,zR p:=all1 zaux
end Z29
theorem newK {prog w A Q E h g d t os} (bt ns sl sa n28 n36 n44 n52 n60 n68 f28 f36 f44 f52 f60 f68 tk ka kb kc kq k1 k2 k3 k4 k5 k6 k7 k8 k9 ks kt vs vi kv kw ep0):Z29.zQ prog w A Q E h g d t os bt ns sl sa n28 n36 n44 n52 n60 n68 f28 f36 f44 f52 f60 f68 tk ka kb kc kq k1 k2 k3 k4 k5 k6 k7 k8 k9 ks kt vs vi kv kw ep0:=Z29.zall (((((prog,w),(A,(Q,E))),((h,(g,d)),(t,(os,bt)))),(((ns,(sl,sa)),(n28,(n36,n44))),((n52,(n60,n68)),(f28,(f36,f44))))),((((f52,(f60,f68)),(tk,(ka,kb))),((kc,(kq,k1)),(k2,(k3,k4)))),(((k5,(k6,k7)),(k8,(k9,ks))),((kt,(vs,vi)),(kv,(kw,ep0))))))
end
section
open PySem PySem.W PySem.W.X PyProof.Rows Mine.Internal
theorem typeCall {prog:Program} {w:World} {A:Around} {R:Result->Shared->Prop} {h g d t os} (bt ns sl sa n28 n36 n44 n52 n60 n68:Addr) (f28 f36 f44 f52 f60 f68:FuncData) (tk ka kb kc kq k1 k2 k3 k4 k5 k6 k7 k8 k9 ks kt:Tok) (vs:Str) (vi:Int) (kv kw:Tok) (ep0:Nat)
 (hbt:h.get? bt=some { cls:=.type "tuple",data:=.seq #[.type "object"] 0 })
 (hns:h.get? ns=some { cls:=.type "dict",data:=.dict #[en w "__module__" ka (.str vs kv),en w "__qualname__" kb (.str (Str.ofString "cmp_to_key.<locals>.K") kq),en w "__firstlineno__" kc (.int vi kw),en w "__slots__" k1 (.ref sl),en w "__init__" k2 (.ref n28),en w "__lt__" k3 (.ref n36),en w "__gt__" k4 (.ref n44),en w "__eq__" k5 (.ref n52),en w "__le__" k6 (.ref n60),en w "__ge__" k7 (.ref n68),en w "__hash__" k8 .none,en w "__static_attributes__" k9 (.ref sa)] ep0 })
 (hne:ns≠sysModules) (hsl:h.get? sl=some { cls:=.type "list",data:=.seq #[.str (Str.ofString "obj") ks] 0 })
 (h28:h.get? n28=some { cls:=.type "function",data:=.func f28 })
 (h36:h.get? n36=some { cls:=.type "function",data:=.func f36 })
 (h44:h.get? n44=some { cls:=.type "function",data:=.func f44 })
 (h52:h.get? n52=some { cls:=.type "function",data:=.func f52 })
 (h60:h.get? n60=some { cls:=.type "function",data:=.func f60 })
 (h68:h.get? n68=some { cls:=.type "function",data:=.func f68 })
 (hsa:h.get? sa=some { cls:=.type "tuple",data:=.seq #[.str (Str.ofString "obj") kt] 0 })
 (h2:h.get? 2=some (oK (hK w.params) 2))
 (x:∀ (c nc md:Addr) (m0 m1 m2:Tok) (t1:Nat) (h1:Heap),Mm h h1 [] [] [(c,{ cls:=.type "type",data:=.cls { name:=Str.ofString "K",bases:=[.type "object"],mro:=[.ref c,.type "object"],ns:=nc,qualname:=(Str.ofString "cmp_to_key.<locals>.K"),hasDict:=false,slotNames:=[Str.ofString "obj"] },slots:=#[some (.ref bt),none,some (.str (Str.ofString "K") tk),some (.str (Str.ofString "cmp_to_key.<locals>.K") kq),some (.builtin "object.__new__"),some (.bool false)] }),(nc,{ cls:=.type "dict",data:=.dict #[en w "__module__" ka (.str vs kv),en w "__firstlineno__" kc (.int vi kw),en w "__slots__" k1 (.ref sl),en w "__init__" k2 (.ref n28),en w "__lt__" k3 (.ref n36),en w "__gt__" k4 (.ref n44),en w "__eq__" k5 (.ref n52),en w "__le__" k6 (.ref n60),en w "__ge__" k7 (.ref n68),en w "__hash__" k8 .none,en w "__static_attributes__" k9 (.ref sa),en w "obj" m1 (.ref md),en w "__doc__" m2 .none] 3 }),(md,{ cls:=.type "member_descriptor",data:=.fields #[.str (Str.ofString "obj") m0,.ref c,.builtin "proto.slot",.builtin "proto.slot#set",.int 0 0] })]->R (.ok (.ret (.ref c))) ⟨h1,g,d,t1,os⟩)
 : codeAny (model prog w) A (.call (.type "type") ⟨[.str (Str.ofString "K") tk,.ref bt,.ref ns],[]⟩) R ⟨h,g,d,t,os⟩:=by
 refine codeAny_of_tree ?_
 refine m_pure (.again (.builtin "type.__call__" ⟨[.type "type",.str (Str.ofString "K") tk,.ref bt,.ref ns],[]⟩)) ⟨by kernel_rfl,?_⟩
 refine codeAny_builtin (b:=Builtin.«type.__call__») (entryFor_of_tree (by kernel_rfl)) ?_
 refine m_code (.call (.builtin "type.__new__") ⟨[.type "type",.str (Str.ofString "K") tk,.ref bt,.ref ns],[]⟩) none ?_
 refine codeAny_of_tree ?_
 refine m_pure (.again (.builtin "type.__new__" ⟨[.type "type",.str (Str.ofString "K") tk,.ref bt,.ref ns],[]⟩)) ⟨by kernel_rfl,?_⟩
 refine codeAny_builtin (b:=Builtin.«type.__new__») (entryFor_of_tree (by kernel_rfl)) ?_
 refine newK bt ns sl sa n28 n36 n44 n52 n60 n68 f28 f36 f44 f52 f60 f68 tk ka kb kc kq k1 k2 k3 k4 k5 k6 k7 k8 k9 ks kt vs vi kv kw ep0 hbt hns hne hsl h28 h36 h44 h52 h60 h68 hsa h2 (λc nc md m0 m1 m2 t1 h1 D=>?_)
 have hc:=D.at 0 _ _ rfl
 show wpAny _ _ _ _ _ _
 refine m_load c _ hc (m_load c _ hc (m_run (.call (.builtin "type.__init__") ⟨[.ref c,.str (Str.ofString "K") tk,.ref bt,.ref ns],[]⟩) none (λ_ _=>?_)))
 refine wpAny_mono (Q:=λr s'=>r=.ok (.ret .none)/\s'=⟨h1,g,d,t1,os⟩) ?_ ?_ (λ_ _ e=>e)
 ·x_run
 intro _ _ zz;refine q0_2 zz λe1 e2=>?_;clear zz
 subst e1 e2
 refine m_pure (.done (.ret (.ref c))) ?_
 exact x _ _ _ _ _ _ _ _ D
end
section
open PySem PySem.W PySem.W.X PyProof.Rows Mine.Internal
noncomputable def cAll:Stmt->List Expr×Option Scope×List Str×Pos | .ClassDef _ b _ _ _ _ _ x _ s p=>(b,x,s,p) | _=>([],none,[],default)
noncomputable def cBases (s:Stmt):List Expr:=(cAll s).1
noncomputable def cX1 (s:Stmt):Option Scope:=(cAll s).2.1
noncomputable def cStat (s:Stmt):List Str:=(cAll s).2.2.1
noncomputable def cPos (s:Stmt):Pos:=(cAll s).2.2.2
theorem kCls_eq:kCls=.ClassDef (Str.ofString "K") (cBases kCls) [] (fBody kCls) [] [] (cScope kCls) (cX1 kCls) (Str.ofString "K") (cStat kCls) (cPos kCls):=by kernel_rfl
noncomputable def ret4:Stmt:=nth (fBody (top 4)) 1
theorem body4_eq:fBody (top 4)=[kCls,ret4]:=by kernel_rfl
theorem Mm.dropH {h₀ h:Heap} {chg hot news:List (Addr×Obj)} (D:Mm h₀ h chg hot news):Mm h₀ h chg [] news:=
 ⟨D.keep,D.ch,λ_ hp=>(nomatch hp),D.nw,List.nodup_nil,λ_ hp=>(nomatch hp)⟩
structure KOb (C N P cM cI fI cL fL:Addr) (oc on om o27 o28 o35 o36:Obj):Prop where
 cls:∃ nm q bs sub col k0 k1 k2 k3 k5,oc=⟨.type "type",none,.cls (kCd C N nm q bs sub col),#[k0,k1,k2,k3,some (.builtin "object.__new__"),k5]⟩
 ns:∃ es n,on=⟨.type "dict",none,.dict es n,#[]⟩/\es.toList.any (·.refKey)=false/\look es (Str.ofString "obj")=some (.ref P)/\look es "__init__"=some (.ref fI)/\look es "__lt__"=some (.ref fL)/\
  look es "__getattribute__"=none/\look es "__getattr__"=none/\look es "__setattr__"=none
 des:∃ tn,om=⟨.type "member_descriptor",none,.fields #[.str (Str.ofString "obj") tn,.ref C,.builtin "proto.slot",.builtin "proto.slot#set",.int 0 0],#[]⟩
 fi:∃ pm,o28={ cls:=.type "function",data:=.func (fdOf (kmeth 2) (Str.ofString "cmp_to_key.<locals>.K.__init__") .none pm (.ref cI)) }
 ci:CdO o27 (Str.ofString "cmp_to_key.<locals>.K.__init__")
 fl:∃ pm ct,o36={ cls:=.type "function",data:=.func (fdC (kmeth 3) (Str.ofString "cmp_to_key.<locals>.K.__lt__") [(Str.ofString "mycmp",cM)] pm (.ref cL) ct) }
 cl:CdO o35 (Str.ofString "cmp_to_key.<locals>.K.__lt__")
theorem away_cons {p:Addr×Obj} {chg:List (Addr×Obj)} {b:Addr} (h:Nat.beq p.1 b=false) (h2:away chg b=true):away (p::chg) b=true:=by
 unfold away at h2 ⊢
 rw [List.all_cons,h,h2]
 rfl
theorem inK {K:Frag} {h:Heap} (X:K.In h) (a:Addr) (e:K.lookup a=some (oK K a)):h.get? a=some (oK K a):=X a _ e
namespace Z30
noncomputable def zQ (w:World) (A:Around) (R:Result->Shared->Prop) (h0 h:Heap) (g:Array GenState) (d:Drawn) (t:Nat) (os:OsState) (chg rest:List (Addr×Obj)) (n12 n13:Addr) (o13:Obj):Prop:=∀ (KY:Frag.In (hK w.params) h0) (hdep:A.depth+1<recursionLimit) (hnl:∀ h:Heap,h.get? 2=some (oK (hK w.params) 2)->h.NoLimit) (h30:away chg 30=true) (h2a:away chg 2=true) (D:Mm h0 h chg [(n12,{ cls:=.type "frame",data:=.dict #[] })] ((n13,o13)::rest)) (x:∀ (c nc md n27 n28 n35 n36:Addr) (oc on om o36 o35 o28 o27:Obj) (m30:Array Value) (t1:Nat) (h1:Heap),Mm h0 h1 ((30,tableObj (fvO (oK (hK w.params) 30)++m30))::chg) [] ([(c,oc),(nc,on),(md,om),(n36,o36),(n35,o35),(n28,o28),(n27,o27)]++(n13,o13)::rest)->KOb c nc md n13 n27 n28 n35 n36 oc on om o27 o28 o35 o36->R (.ok (.ret (.ref c))) ⟨h1,g,d,t1,os⟩),codeAny (model PySem.Challenge.pw_il0171_01 w) A (.func (fBody (top 4)) { scope:=fScope (top 4),locals:=n12,globals:=3,cells:=[(Str.ofString "mycmp",n13)],qual:=Str.ofString "cmp_to_key.<locals>.",func:=some 35,code:=.ref 34,frame:=some n12,builtins:=0 }) R ⟨h,g,d,t,os⟩
noncomputable abbrev zY:=(((World×(Around×(Result->Shared->Prop)))×((Heap×Heap)×((Array GenState)×Drawn)))×((Nat×(OsState×(List (Addr×Obj))))×(((List (Addr×Obj))×Addr)×(Addr×Obj))))
noncomputable def zR (p:zY):=zQ p.1.1.1 p.1.1.2.1 p.1.1.2.2 p.1.2.1.1 p.1.2.1.2 p.1.2.2.1 p.1.2.2.2 p.2.1.1 p.2.1.2.1 p.2.1.2.2 p.2.2.1.1 p.2.2.1.2 p.2.2.2.1 p.2.2.2.2
noncomputable def zc:zY:=eps1 (neP (neP (neP neW (neP neA neI)) (neP neI (neP neI neD))) neI) zR
noncomputable def w:=zc.1.1.1
noncomputable def A:=zc.1.1.2.1
noncomputable def R:=zc.1.1.2.2
noncomputable def h0:=zc.1.2.1.1
noncomputable def h:=zc.1.2.1.2
noncomputable def g:=zc.1.2.2.1
noncomputable def d:=zc.1.2.2.2
noncomputable def t:=zc.2.1.1
noncomputable def os:=zc.2.1.2.1
noncomputable def chg:=zc.2.1.2.2
noncomputable def rest:=zc.2.2.1.1
noncomputable def n12:=zc.2.2.1.2
noncomputable def n13:=zc.2.2.2.1
noncomputable def o13:=zc.2.2.2.2
theorem zaux:zQ w A R h0 h g d t os chg rest n12 n13 o13:=by
 intro KY hdep hnl h30 h2a D x
 refine codeAny_func ?_
 have f0:=inK KY 0 (by kernel_rfl)
 have f1:=inK KY 1 (by kernel_rfl)
 have f2:=inK KY 2 (by kernel_rfl)
 have f3:=inK KY 3 (by kernel_rfl)
 have f4:=inK KY 4 (by kernel_rfl)
 have f34:=inK KY 34 (by kernel_rfl)
 have f30:h0.get? 30=some (tableObj (fvO (oK (hK w.params) 30))):=(inK KY 30 (by kernel_rfl)).trans (congrArg some (by kernel_rfl))
 rw [body4_eq]
 refine wpAny_execs_cons ?_
 rw [kCls_eq,arm_exec_ClassDef]
 refine wpAny_bind (m_pure [] ?_)
 refine wpAny_bind (m_pure PUnit.unit ?_)
 refine wpAny_bind (m_load 0 _ (D.old _ _ f0) (m_pure PUnit.unit ?_))
 refine wpAny_bind ?_
 with_reducible refine wpAny_holding ?_
 refine wpAny_bind (m_load 3 _ (D.old _ _ f3) (m_load 0 _ (D.old _ _ f0) (m_pure (⟨[.type "object"],[]⟩:Args) ?_)))
 refine wpAny_bind (m_pure PUnit.unit ?_)
 with_reducible refine wpAny_holding ?_
 unfold buildClass
 refine wpAny_bind (m_allocP D { cls:=.type "tuple",data:=.seq #[.type "object"] 0 } (λn14 H1 Dn14=>?_))
 refine m_pure (.ref n14) ?_
 refine wpAny_bind (m_pure ([.type "object"],false) ?_)
 k_node;refine wpAny_bind ?_
 refine m_pure (.type "type") ?_
 refine wpAny_bind (m_pure true ?_)
 refine wpAny_ite_true (by kernel_rfl) ?_
 refine wpAny_bind (m_pure (.type "type") ?_)
 refine wpAny_bind (m_fresh (m_pure (.str (Str.ofString "K") t) ?_))
 k_node;k_node;refine wpAny_bind ?_
 refine m_pure (.ref n14) ?_
 refine wpAny_holding ?_
 refine wpAny_bind (m_fresh (m_run (.call (.builtin "type.__getattribute__") ⟨[.type "type",(.str (Str.ofString "__prepare__") (t+1))],[]⟩) none (λ_ _=>?_)))
 refine wpAny_mono (Q:=λr s'=>∃ a h',r=.ok (.ret (.ref a))/\s'=⟨h',g,d,t+1+1,os⟩/\Mem H1 h' [] [(a,{ cls:=.type "builtin_function_or_method",data:=.fields #[.builtin "type.__prepare__",.type "type"] })]) ?_ ?_ (λ_ _ e=>e)
 ·generalize t=t';x_run
 intro _ _ zz;refine q2_3 zz λn15 h15 e1 e2 D0=>?_;clear zz
 subst e1 e2
 have D15:=Dn14.addM D0
 refine m_pure (some (.ref n15)) ?_
 have hn15:=(D15.at 0 _ _ rfl)
 refine wpAny_bind (m_run (.call (.ref n15) ⟨[.str (Str.ofString "K") t,.ref n14],[]⟩) none (λ_ _=>?_))
 refine wpAny_mono (Q:=λr s'=>∃ a h',r=.ok (.ret (.ref a))/\s'=⟨h',g,d,t+1+1,os⟩/\Mem h15 h' [] [(a,{ cls:=.type "dict",data:=.dict #[] })]) ?_ ?_ (λ_ _ e=>e)
 ·generalize t=t';x_run
 intro _ _ zz;refine q2_3 zz λn16 h16 e1 e2 D0=>?_;clear zz
 subst e1 e2
 have D16:=D15.addH D0
 refine m_pure (.ref n16) ?_
 have hne:n16≠sysModules:=by intro e;have z:=(D16.nh _ (.head _)).2;rw [e] at z;exact absurd (z.symm.trans f1) (by intro e;cases e)
 refine wpAny_bind ?_
 k_node;refine wpAny_ite_false (by simp [hne]) ?_
 refine m_pure PUnit.unit ?_
 refine wpAny_bind (m_load n16 _ (D16.atH 0 _ _ rfl) (m_pure (some (.builtin "dict.__getitem__")) ?_))
 refine wpAny_ite_false (by kernel_rfl) ?_
 refine wpAny_holding ?_
 k_node;k_node;refine wpAny_bind ?_
 refine m_pure (none:Option Addr) ?_
 k_node;k_node;refine wpAny_bind ?_
 refine m_pure (none:Option Addr) ?_
 refine wpAny_bind (m_load 34 _ (D16.old _ _ f34) (m_load 30 _ (D16.old _ _ f30 (by rw [h30,Bool.or_true])) (m_fresh ?_)))
 refine m_fresh (m_fresh (m_fresh (m_alloc D16 (λn17 H2 Dn17=>?_))))
 refine m_allocH Dn17 { cls:=.none,data:=.fields #[] } (λn18 H3 Dn18=>?_)
 refine m_fresh (m_fresh (m_allocP Dn18 { cls:=.type "code",data:=.fields #[.str (Str.ofString "K") (t+1+1),.str (Str.ofString "cmp_to_key.<locals>.K") (t+3),.str (Str.ofString "/claim/cut.py") (t+4),rawInt 21,rawInt 0,rawInt 0,rawInt 0,rawInt 0,.ref n17,.bool true,rawInt 181,.ref n18,.none,.none,.none,.none,rawInt (((t+6):Nat):Int),rawInt 21,.str (Str.ofString "/claim/cut.py") (t+7)] } (λn19 H4 Dn19=>?_)))
 refine m_load 30 _ (Dn19.old _ _ f30 (by rw [h30,Bool.or_true])) (m_grow Dn19 30 (fvO (oK (hK w.params) 30)) #[rawInt 21,rawInt 4,.ref n19] f30 h30 (λH5 Dg=>?_))
 refine m_load 30 _ (Dg.atC 0 _ _ rfl) (m_pure (.ref n19) ?_)
 refine wpAny_bind (m_load 3 _ (Dg.old _ _ f3) (m_load 4 _ (Dg.old _ _ f4) (m_pure 0 ?_)))
 refine wpAny_bind (m_load 3 _ (Dg.old _ _ f3) (m_alloc Dg (λn20 H6 Dn20=>?_)))
 refine m_pure n20 ?_
 refine wpAny_bind (m_pure [(Str.ofString "mycmp",n13)] ?_)
 refine wpAny_holding ?_
 refine wpAny_bind ?_
 refine wpAny_enterFrame (hnl _ (Dn20.old _ _ f2 ((Bool.or_eq_true _ _).mpr (.inr (away_cons rfl h2a))))) hdep ?_
 refine wpAny_bind (m_load n16 _ (Dn20.atH 1 _ _ rfl) (m_load n16 _ (Dn20.atH 1 _ _ rfl) (m_load 3 _ (Dn20.old _ _ f3) ?_)))
 refine m_load n16 _ (Dn20.atH 1 _ _ rfl) (m_fresh (m_load n16 _ (Dn20.atH 1 _ _ rfl) (m_upd Dn20.swap { cls:=.type "dict",data:=.dict #[en w "__module__" (t+8) (.str (Str.ofString "law_il0171_01") 399)] 1 } (λH7 U1=>?_))))
 refine m_fresh (m_load n16 _ (U1.atH 0 _ _ rfl) (m_fresh (m_load n16 _ (U1.atH 0 _ _ rfl) ?_)))
 refine m_upd U1 { cls:=.type "dict",data:=.dict #[en w "__module__" (t+8) (.str (Str.ofString "law_il0171_01") 399),en w "__qualname__" (t+10) (.str (Str.ofString "cmp_to_key.<locals>.K") (t+9))] 2 } (λH8 U2=>?_)
 refine m_fresh (m_load n16 _ (U2.atH 0 _ _ rfl) (m_fresh (m_load n16 _ (U2.atH 0 _ _ rfl) ?_)))
 refine m_upd U2 { cls:=.type "dict",data:=.dict #[en w "__module__" (t+8) (.str (Str.ofString "law_il0171_01") 399),en w "__qualname__" (t+10) (.str (Str.ofString "cmp_to_key.<locals>.K") (t+9)),en w "__firstlineno__" (t+12) (.int 21 (t+11))] 3 } (λH9 U3=>?_)
 refine m_pure PUnit.unit ?_
 refine wpAny_bind (m_code (.body (fBody kCls) { scope:=cScope kCls,locals:=n16,globals:=3,cells:=[(Str.ofString "mycmp",n13)],qual:=Str.ofString "cmp_to_key.<locals>.K.",code:=.ref n19,frame:=some n20,builtins:=0 }) none ?_)
 refine bodyK n13 n16 n17 n18 n19 n20 _ _ _ _ _ _ _ _ _ _ _ _ _ _ f3 f4 U3 (λn21 n27 n28 n29 n35 n36 n37 n43 n44 n45 n51 n52 n53 n59 n60 n61 n67 n68 o27 o35 pm k0 k1 k2 k3 k4 k5 k6 k7 k8 k9 t1 hB DB c27 c35=>?_)
 show wpAny _ _ _ _ _ _
 refine m_pure .next ?_
 refine wpAny_bind (m_fresh (m_allocP DB { cls:=.type "tuple",data:=.seq #[.str (Str.ofString "obj") t1] 0 } (λn69 H10 Dn69=>?_)))
 refine m_load n16 _ (Dn69.atH 0 _ _ rfl) (m_fresh (m_load n16 _ (Dn69.atH 0 _ _ rfl) (m_upd Dn69 { cls:=.type "dict",data:=.dict #[en w "__module__" (t+8) (.str (Str.ofString "cpy313.functools") k0),en w "__qualname__" (t+10) (.str (Str.ofString "cmp_to_key.<locals>.K") (t+9)),en w "__firstlineno__" (t+12) (.int 21 (t+11)),en w "__slots__" k1 (.ref n21),en w "__init__" k2 (.ref n28),en w "__lt__" k3 (.ref n36),en w "__gt__" k4 (.ref n44),en w "__eq__" k5 (.ref n52),en w "__le__" k6 (.ref n60),en w "__ge__" k7 (.ref n68),en w "__hash__" k8 .none,en w "__static_attributes__" (t1+1) (.ref n69)] 12 } (λH11 U4=>?_))))
 refine m_pure PUnit.unit ?_
 refine wpAny_ite_false (by kernel_rfl) ?_
 refine wpAny_bind (m_code (.call (.type "type") ⟨[.str (Str.ofString "K") t,.ref n14,.ref n16],[]⟩) none ?_)
 refine typeCall n14 n16 n21 n69 n28 n36 n44 n52 n60 n68 _ _ _ _ _ _ _ _ _ _ _ _ _ _ _ _ _ _ _ _ _ _ _ _ _ _ _ (U4.at 14 _ _ rfl) (U4.atH 0 _ _ rfl) hne (U4.at 9 _ _ rfl) (U4.at 7 _ _ rfl) (U4.at 5 _ _ rfl) (U4.at 4 _ _ rfl) (U4.at 3 _ _ rfl) (U4.at 2 _ _ rfl) (U4.at 1 _ _ rfl) (U4.at 0 _ _ rfl) (U4.old _ _ f2 ((Bool.or_eq_true _ _).mpr (.inr (away_cons rfl h2a)))) (λc nc md m0 m1 m2 t2 hC DC=>?_)
 show wpAny _ _ _ _ _ _
 refine m_pure (.ref c) ?_
 have DE:=(U4.cool.cool).addMm DC
 refine m_pure (.ref c) ?_
 refine wpAny_bind (m_pure (.ref c) ?_)
 refine wpAny_bind (m_pure PUnit.unit ?_)
 refine wpAny_bind (m_fresh (m_load n12 _ (DE.atH 0 _ _ rfl) (m_upd DE { cls:=.type "frame",data:=.dict #[en w "K" t2 (.ref c)] 1 } (λH12 U5=>?_))))
 refine m_pure PUnit.unit (m_pure .next ?_)
 show wpAny _ _ (execs _ _) _ _ _
 refine wpAny_execs_cons ?_
 refine m_load n12 _ (U5.atH 0 _ _ rfl) (m_pure (.ret (.ref c)) ?_)
 refine x c nc md n27 n28 n35 n36 _ _ _ _ _ _ _ _ _ _ (U5.dropH.subl (.cons_cons _ (.cons_cons _ (.cons_cons _ (.cons _ (.cons _ (.cons _ (.cons _ (.cons _ (.cons _ (.cons _ (.cons_cons _ (.cons_cons _ (.cons_cons _ (.cons_cons _ (.cons _ (.cons _ (.cons _ (.cons _ (.cons _ (.cons _ (.cons_cons _ (List.Sublist.refl _))))))))))))))))))))))) ⟨e10_1 _ _ _ _ _ _ _ _ _ _ rfl,e2_8 _ _ rfl ?_ ?_ ?_ ?_ ?_ ?_ ?_,⟨_,rfl⟩,⟨_,rfl⟩,c27,e2_1 _ _ rfl,c35⟩
 all_goals kernel_rfl
theorem zall:∀ p,zR p:=all1 zaux
end Z30
theorem defC {w A R h0 h g d t os chg rest} (n12 n13 o13):Z30.zQ w A R h0 h g d t os chg rest n12 n13 o13:=Z30.zall (((w,(A,R)),((h0,h),(g,d))),((t,(os,chg)),((rest,n12),(n13,o13))))
end
section
open PySem PySem.W PySem.W.X PyProof.Rows PySem.Spec PySem.Calls Mine.Internal
noncomputable def fdO (o:Obj):FuncData:=match o.data with | .func f=>f | _=>default
theorem callC {w:World} {A:Around} {R:Result->Shared->Prop} {h0 h:Heap} {g d t os} {chg rest:List (Addr×Obj)} (n11:Addr) (KY:Frag.In (hK w.params) h0) (hdep:A.depth+1<recursionLimit) (hnl:∀ h:Heap,h.get? 2=some (oK (hK w.params) 2)->h.NoLimit)
 (h30:away chg 30=true) (h2a:away chg 2=true) (D:Mm h0 h chg [] rest)
 (x:∀ (c nc md n13 n27 n28 n35 n36:Addr) (oc on om o36 o35 o28 o27:Obj) (m30:Array Value) (t1:Nat) (h1:Heap),Mm h0 h1 ((30,tableObj (fvO (oK (hK w.params) 30)++m30))::chg) [] ([(c,oc),(nc,on),(md,om),(n36,o36),(n35,o35),(n28,o28),(n27,o27)]++(n13,{ cls:=.type "cell",data:=.cell (some (.ref n11)) })::rest)->KOb c nc md n13 n27 n28 n35 n36 oc on om o27 o28 o35 o36->R (.ok (.ret (.ref c))) ⟨h1,g,d,t1,os⟩)
 : codeAny (model PySem.Challenge.pw_il0171_01 w) A (.call (.ref 35) ⟨[.ref n11],[]⟩) R ⟨h,g,d,t,os⟩:=by
 have f2:=inK KY 2 (by kernel_rfl)
 have f34:=inK KY 34 (by kernel_rfl)
 have f35:=inK KY 35 (by kernel_rfl)
 refine codeAny_call_function (fd:=(fdOf (top 4) (Str.ofString "cmp_to_key") .none (fdO (oK (hK w.params) 35)).pyModule (.ref 34))) (body:=fBody (top 4)) (by omega) (D.old _ _ f35) (by kernel_rfl) (by kernel_rfl) (by kernel_rfl) (by kernel_rfl) (e4_4 34 _ _ _ (by kernel_rfl) (D.old _ _ f34) (show _=Data.fields (fvO (oK (hK w.params) 34)) by kernel_rfl) (show _=some (Value.str _ (tokOf ((fvO (oK (hK w.params) 34))[1]?.getD .none))) by kernel_rfl)) ?_
 refine m_pure [(Str.ofString "mycmp",.ref n11)] (m_allocH D { cls:=.type "frame",data:=.dict #[] } (λn12 H1 Dn12=>?_))
 refine m_allocH Dn12 { cls:=.type "cell",data:=.cell none } (λn13 H2 Dn13=>?_)
 refine m_load n13 _ (Dn13.atH 0 _ _ rfl) (m_upd Dn13 { cls:=.type "cell",data:=.cell (some (.ref n11)) } (λH3 U1=>?_))
 refine m_pure { scope:=fScope (top 4),locals:=n12,globals:=3,cells:=[(Str.ofString "mycmp",n13)],qual:=Str.ofString "cmp_to_key.<locals>.",func:=some 35,code:=.ref 34,frame:=some n12,builtins:=0 } ?_
 refine⟨hnl _ (U1.old _ _ f2 ((Bool.or_eq_true _ _).mpr (.inr h2a))),?_⟩
 exact defC n12 n13 _ KY (by omega) hnl h30 h2a U1.cool (λc nc md n27 n28 n35 n36 oc on om o36 o35 o28 o27 m30 t1 h1 DD KO=>x c nc md n13 n27 n28 n35 n36 oc on om o36 o35 o28 o27 m30 t1 h1 DD KO)
noncomputable def lamPos:Pos:={ line:=170,col:=22,endLine:=170,endCol:=117 }
theorem body13_eq:fBody (top 13)=[.Return (some (.Call (.Name (Str.ofString "cmp_to_key") { line:=170,col:=11,endLine:=170,endCol:=21 }) [.Lambda lamArgs lamBody lamScope lamPos] [] { line:=170,col:=11,endLine:=170,endCol:=118 })) { line:=170,col:=4,endLine:=170,endCol:=118 }]:=by kernel_rfl
theorem lamFree:Scope.freeNames lamScope=[Str.ofString "behind",Str.ofString "odd",Str.ofString "rounds"]:=by
 unfold Scope.freeNames
 rw [msortQ_eq]
 kernel_rfl
namespace Z31
noncomputable section
def zQ (w:World) (A:Around) (R:Result->Shared->Prop) (h0 h:Heap) (g:Array GenState) (d:Drawn) (t:Nat) (os:OsState) (chg rest:List (Addr×Obj)) (n0 n1 n2 n3:Addr) (o1 o2 o3:Obj):Prop:=∀ (KY:Frag.In (hK w.params) h0) (hdep:A.depth+2<recursionLimit) (hnl:∀ h:Heap,h.get? 2=some (oK (hK w.params) 2)->h.NoLimit) (h30:away chg 30=true) (h2a:away chg 2=true) (h162:away chg 162=true) (D:Mm h0 h chg [] ((n1,o1)::(n2,o2)::(n3,o3)::rest)) (x:∀ (c nc md n13 n27 n28 n35 n36 n4 n10 n11:Addr) (oc on om o36 o35 o28 o27 o10:Obj) (m30 m162:Array Value) (t1:Nat) (h1:Heap),Mm h0 h1 ((30,tableObj (fvO (oK (hK w.params) 30)++m30))::(162,tableObj (fvO (oK (hK w.params) 162)++m162))::chg) [] ([(c,oc),(nc,on),(md,om),(n36,o36),(n35,o35),(n28,o28),(n27,o27),(n13,{ cls:=.type "cell",data:=.cell (some (.ref n11)) }),(n11,{ cls:=.type "function",data:=.func (lamFd [(Str.ofString "rounds",n1),(Str.ofString "odd",n3),(Str.ofString "behind",n2)] (.str (Str.ofString "law_il0171_01") 399) (.ref n10) (.ref n4)) }),(n10,o10),(n1,o1),(n2,o2),(n3,o3)]++rest)->KOb c nc md n13 n27 n28 n35 n36 oc on om o27 o28 o35 o36->CdO o10 (Str.ofString "_law_served.<locals>.<lambda>")->R (.ok (.ret (.ref c))) ⟨h1,g,d,t1,os⟩),codeAny (model PySem.Challenge.pw_il0171_01 w) A (.func (fBody (top 13)) { scope:=fScope (top 13),locals:=n0,globals:=3,cells:=[(Str.ofString "odd",n3),(Str.ofString "behind",n2),(Str.ofString "rounds",n1)],qual:=Str.ofString "_law_served.<locals>.",func:=some 167,code:=.ref 166,frame:=some n0,builtins:=0 }) R ⟨h,g,d,t,os⟩
abbrev zY:=((((World×Around)×((Result->Shared->Prop)×Heap))×((Heap×(Array GenState))×(Drawn×(Nat×OsState))))×((((List (Addr×Obj))×(List (Addr×Obj)))×(Addr×Addr))×((Addr×Addr)×(Obj×(Obj×Obj)))))
def zR (p:zY):=zQ p.1.1.1.1 p.1.1.1.2 p.1.1.2.1 p.1.1.2.2 p.1.2.1.1 p.1.2.1.2 p.1.2.2.1 p.1.2.2.2.1 p.1.2.2.2.2 p.2.1.1.1 p.2.1.1.2 p.2.1.2.1 p.2.1.2.2 p.2.2.1.1 p.2.2.1.2 p.2.2.2.1 p.2.2.2.2.1 p.2.2.2.2.2
def zc:zY:=eps1 (neP (neP (neP (neP neW neA) neI) (neP neI (neP neD neI))) neI) zR
def w:=zc.1.1.1.1
def A:=zc.1.1.1.2
def R:=zc.1.1.2.1
def h0:=zc.1.1.2.2
def h:=zc.1.2.1.1
def g:=zc.1.2.1.2
def d:=zc.1.2.2.1
def t:=zc.1.2.2.2.1
def os:=zc.1.2.2.2.2
def chg:=zc.2.1.1.1
def rest:=zc.2.1.1.2
def n0:=zc.2.1.2.1
def n1:=zc.2.1.2.2
def n2:=zc.2.2.1.1
def n3:=zc.2.2.1.2
def o1:=zc.2.2.2.1
def o2:=zc.2.2.2.2.1
def o3:=zc.2.2.2.2.2
theorem zaux:zQ w A R h0 h g d t os chg rest n0 n1 n2 n3 o1 o2 o3:=by
 intro KY hdep hnl h30 h2a h162 D x
 have f2:=inK KY 2 (by kernel_rfl)
 have f3:=inK KY 3 (by kernel_rfl)
 have f4:=inK KY 4 (by kernel_rfl)
 have f35:=inK KY 35 (by kernel_rfl)
 have f166:=inK KY 166 (by kernel_rfl)
 have f162:h0.get? 162=some (tableObj (fvO (oK (hK w.params) 162))):=(inK KY 162 (by kernel_rfl)).trans (congrArg some (by kernel_rfl))
 refine codeAny_func ?_
 rw [body13_eq]
 refine wpAny_execs_cons ?_
 rw [arm_exec_Return]
 refine wpAny_bind (m_pure PUnit.unit ?_)
 k_node;refine wpAny_bind ?_
 rw [arm_eval_Call_Name']
 refine wpAny_bind (m_load 3 _ (D.old _ _ f3) (m_pure (.ref 35) ?_))
 refine callWith_function (o:=oK (hK w.params) 35) (fd:=fdO (oK (hK w.params) 35)) ?_
 refine evalArgs_plain (x:=eval (.Lambda lamArgs lamBody lamScope lamPos) _) (rest:=[]) ?_
 refine spliced_cons ?_
 rw [arm_eval_Lambda]
 refine wpAny_bind (m_pure [] ?_)
 refine wpAny_bind (m_pure [] ?_)
 unfold makeFunction
 k_node;k_node;refine wpAny_bind ?_
 refine m_pure .none ?_
 k_node;k_node;refine wpAny_bind ?_
 refine m_pure .none ?_
 k_node;k_node;refine wpAny_bind ?_
 refine m_pure none ?_
 refine wpAny_bind (m_pure [(Str.ofString "rounds",n1),(Str.ofString "odd",n3),(Str.ofString "behind",n2)] ?_)
 k_node;k_node;refine wpAny_bind ?_
 rw [msortQ_eq]
 refine m_alloc D (λn4 H1 Dn4=>?_)
 refine m_pure (.ref n4) ?_
 refine wpAny_bind ?_
 unfold functionCode
 rw [lamFree]
 refine m_load 166 _ (Dn4.old _ _ f166) (m_load 162 _ (Dn4.old _ _ f162 (by rw [h162,Bool.or_true])) (m_fresh (m_fresh ?_)))
 refine m_fresh (m_fresh (m_fresh (m_fresh ?_)))
 refine m_alloc Dn4 (λn5 H2 Dn5=>?_)
 refine m_alloc Dn5 (λn6 H3 Dn6=>?_)
 refine m_fresh (m_fresh (m_alloc Dn6 (λn7 H4 Dn7=>?_)))
 refine m_alloc Dn7 (λn8 H5 Dn8=>?_)
 refine m_alloc Dn8 (λn9 H6 Dn9=>?_)
 refine m_fresh (m_fresh (m_alloc Dn9 (λn10 H7 Dn10=>?_)))
 refine m_load 162 _ (Dn10.old _ _ f162 (by rw [h162,Bool.or_true])) (m_grow Dn10 162 (fvO (oK (hK w.params) 162)) #[rawInt 170,rawInt 22,.ref n10] f162 h162 (λH8 Dg=>?_))
 refine m_load 162 _ (Dg.atC 0 _ _ rfl) (m_pure (.ref n10) ?_)
 refine wpAny_bind (m_load 3 _ (Dg.old _ _ f3) (m_load 4 _ (Dg.old _ _ f4) (m_pure 0 ?_)))
 refine wpAny_bind (m_load 3 _ (Dg.old _ _ f3) (m_pure (some (.str (Str.ofString "law_il0171_01") 399)) ?_))
 refine wpAny_bind (m_pure .none (m_allocP Dg { cls:=.type "function",data:=.func (lamFd [(Str.ofString "rounds",n1),(Str.ofString "odd",n3),(Str.ofString "behind",n2)] (.str (Str.ofString "law_il0171_01") 399) (.ref n10) (.ref n4)) } (λn11 H9 Dn11=>?_)))
 refine m_pure (.ref n11) ?_
 refine spliced_nil ?_
 refine⟨⟨(Dn11.old _ _ f35),by kernel_rfl⟩,?_⟩
 refine wpAny_call (callC n11 KY hdep hnl (away_cons rfl h30) (away_cons rfl h2a) Dn11 (λc nc md n13 n27 n28 n35 n36 oc on om o36 o35 o28 o27 m30 t1 h1 DD KO=>?_))
 show wpAny _ _ _ _ _ _
 refine m_pure (.ret (.ref c)) ?_
 exact x c nc md n13 n27 n28 n35 n36 n4 n10 n11 oc on om o36 o35 o28 o27 _ m30 _ t1 h1 (DD.subl (.cons_cons _ (.cons_cons _ (.cons_cons _ (.cons_cons _ (.cons_cons _ (.cons_cons _ (.cons_cons _ (.cons_cons _ (.cons_cons _ (.cons_cons _ (.cons _ (.cons _ (.cons _ (.cons _ (.cons _ (.cons _ (.cons_cons _ (.cons_cons _ (.cons_cons _ (List.Sublist.refl _))))))))))))))))))))) KO (CdO.mk (by kernel_rfl) (by kernel_rfl))
theorem zall:∀ p,zR p:=all1 zaux
end
end Z31
theorem bodyB {w A R h0 h g d t os chg rest} (n0 n1 n2 n3 o1 o2 o3):Z31.zQ w A R h0 h g d t os chg rest n0 n1 n2 n3 o1 o2 o3:=Z31.zall ((((w,A),(R,h0)),((h,g),(d,(t,os)))),(((chg,rest),(n0,n1)),((n2,n3),(o1,(o2,o3)))))
end
section
open PySem PySem.W PySem.W.X PyProof.Rows PySem.Spec PySem.Calls Mine.Internal
theorem Mm.rot3 {h₀ h:Heap} {chg hot news:List (Addr×Obj)} {p q r:Addr×Obj} (D:Mm h₀ h chg (p::q::r::hot) news):Mm h₀ h chg (r::p::q::hot) news:=by
 have nd:=D.nd
 have m:∀ x,x∈(r::p::q::hot)->x∈(p::q::r::hot):=λx hx=>by
  simp only [List.mem_cons] at hx ⊢
  rcases hx with h | h | h | h
  ·exact .inr (.inr (.inl h))
  ·exact .inl h
  ·exact .inr (.inl h)
  ·exact .inr (.inr (.inr h))
 refine⟨D.keep,D.ch,λx hx=>D.nh x (m x hx),D.nw,?_,λx hx=>D.dj x (m x hx)⟩
 simp only [List.map_cons,List.nodup_cons,List.mem_cons,not_or] at nd ⊢
 exact⟨⟨Ne.symm nd.1.2.1,Ne.symm nd.2.1.1,nd.2.2.1⟩,⟨nd.1.1,nd.1.2.2⟩,nd.2.1.2,nd.2.2.2⟩
theorem nolim2 {o:Obj} {h:Heap} (e:h.get? 2=some o) (h1:dictIn [(2,o)] 2=true) (h2:nsIn [(2,o)] 2 (Str.ofString "sys.recursionlimit")=some none):h.NoLimit:=by
 have X:Frag.In [(2,o)] h:=λa o' q=>by
  simp only [List.lookup_cons,List.lookup_nil] at q
  split at q
  ·rename_i hb
   have ha:a=2:=by simpa using hb
   subst ha
   cases q
   exact e
  ·cases q
 refine q1_1 (ns_ofIn X h1) λm hm=>?_
 exact e1_2 m hm (m_of X hm h2)
theorem kout_of {h h1:Heap} {g:Array GenState} {d:Drawn} {t t1:Nat} {os:OsState} {r b:Addr} {o:Int} {tk:Tok} {c nc md n13 n27 n28 n35 n36 n4 n10 n11 n1 n2 n3:Addr} {oc on om o36 o35 o28 o27 o10:Obj} {p30 p162 m30 m162:Array Value} {pm:Value} {rest:List (Addr×Obj)}
 (DD:Mm h h1 [(30,tableObj (p30++m30)),(162,tableObj (p162++m162))] [] ([(c,oc),(nc,on),(md,om),(n36,o36),(n35,o35),(n28,o28),(n27,o27),(n13,{ cls:=.type "cell",data:=.cell (some (.ref n11)) }),(n11,{ cls:=.type "function",data:=.func (lamFd [(Str.ofString "rounds",n1),(Str.ofString "odd",n3),(Str.ofString "behind",n2)] pm (.ref n10) (.ref n4)) }),(n10,o10),(n1,{ cls:=.type "cell",data:=.cell (some (.ref r)) }),(n2,{ cls:=.type "cell",data:=.cell (some (.ref b)) }),(n3,{ cls:=.type "cell",data:=.cell (some (.int o tk)) })]++rest))
 (KO:KOb c nc md n13 n27 n28 n35 n36 oc on om o27 o28 o35 o36) (CO:CdO o10 (Str.ofString "_law_served.<locals>.<lambda>")) :
 KOut ⟨h,g,d,t,os⟩ (.ref c) ⟨h1,g,d,t1,os⟩ r b o:=by
 have aw:∀ c:Addr,c∉tabs2->away [(30,tableObj (p30++m30)),(162,tableObj (p162++m162))] c=true:=λc hcm=>by
  refine List.all_eq_true.mpr λp hp=>?_
  have hne:p.1≠c:=λe=>hcm (by
   simp only [List.mem_cons,List.not_mem_nil,or_false] at hp
   (rcases hp with rfl | rfl)
   ·rw [← e];simp
   ·rw [← e];simp)
  cases q:Nat.beq p.1 c with
  | true=>exact absurd (Nat.eq_of_beq_eq_true q) hne
  | false=>rfl
 have gr:∀ p,p∈[((30:Addr),tableObj (p30++m30)),(162,tableObj (p162++m162))]->Grown h h1 p.1:=λp hp=>by
  refine s2_2 (DD.ch p hp) λe1 ps more e2 e3=>?_
  exact e2_2 ps more e2 (by rw [e1,e3])
 have anew:∀ p,p∈[(c,oc),(nc,on),(md,om),(n36,o36),(n35,o35),(n28,o28),(n27,o27),(n13,{ cls:=.type "cell",data:=.cell (some (.ref n11)) }),(n11,{ cls:=.type "function",data:=.func (lamFd [(Str.ofString "rounds",n1),(Str.ofString "odd",n3),(Str.ofString "behind",n2)] pm (.ref n10) (.ref n4)) }),(n10,o10),(n1,{ cls:=.type "cell",data:=.cell (some (.ref r)) }),(n2,{ cls:=.type "cell",data:=.cell (some (.ref b)) }),(n3,{ cls:=.type "cell",data:=.cell (some (.int o tk)) })]++rest->h1.get? p.1=some p.2/\h.get? p.1=none:=DD.nw
 refine e0_4 ⟨e2_1 _ _ rfl,λc oc hcm e=>DD.keep c oc e (by rw [aw c hcm,Bool.or_true])⟩ (gr _ (.head _)) (gr _ (.tail _ (.head _))) (e9_3 c md n28 n36 n11 n13 n3 n2 n1 rfl ((anew _ (.head _)).2) (λg' hg=>?_))
 have G:∀ p,p∈[(c,oc),(nc,on),(md,om),(n36,o36),(n35,o35),(n28,o28),(n27,o27),(n13,{ cls:=.type "cell",data:=.cell (some (.ref n11)) }),(n11,{ cls:=.type "function",data:=.func (lamFd [(Str.ofString "rounds",n1),(Str.ofString "odd",n3),(Str.ofString "behind",n2)] pm (.ref n10) (.ref n4)) }),(n10,o10),(n1,{ cls:=.type "cell",data:=.cell (some (.ref r)) }),(n2,{ cls:=.type "cell",data:=.cell (some (.ref b)) }),(n3,{ cls:=.type "cell",data:=.cell (some (.int o tk)) })]++rest->g'.get? p.1=some p.2:=λp hp=>hg.get _ _ (anew p hp).2 (anew p hp).1
 have gc:g'.get? c=some oc:=G _ (.head _)
 have gn:g'.get? nc=some on:=G _ (.tail _ (.head _))
 have gm:g'.get? md=some om:=G _ (.tail _ (.tail _ (.head _)))
 have g36:g'.get? n36=some o36:=G _ (.tail _ (.tail _ (.tail _ (.head _))))
 have g35:g'.get? n35=some o35:=G _ (.tail _ (.tail _ (.tail _ (.tail _ (.head _)))))
 have g28:g'.get? n28=some o28:=G _ (.tail _ (.tail _ (.tail _ (.tail _ (.tail _ (.head _))))))
 have g27:g'.get? n27=some o27:=G _ (.tail _ (.tail _ (.tail _ (.tail _ (.tail _ (.tail _ (.head _)))))))
 have g13:=G _ (.tail _ (.tail _ (.tail _ (.tail _ (.tail _ (.tail _ (.tail _ (.head _))))))))
 have g11:=G _ (.tail _ (.tail _ (.tail _ (.tail _ (.tail _ (.tail _ (.tail _ (.tail _ (.head _)))))))))
 have g10:=G _ (.tail _ (.tail _ (.tail _ (.tail _ (.tail _ (.tail _ (.tail _ (.tail _ (.tail _ (.head _))))))))))
 have g1:=G _ (.tail _ (.tail _ (.tail _ (.tail _ (.tail _ (.tail _ (.tail _ (.tail _ (.tail _ (.tail _ (.head _)))))))))))
 have g2:=G _ (.tail _ (.tail _ (.tail _ (.tail _ (.tail _ (.tail _ (.tail _ (.tail _ (.tail _ (.tail _ (.tail _ (.head _))))))))))))
 have g3:=G _ (.tail _ (.tail _ (.tail _ (.tail _ (.tail _ (.tail _ (.tail _ (.tail _ (.tail _ (.tail _ (.tail _ (.tail _ (.head _)))))))))))))
 clear G anew gr aw DD
 refine byC0 λzn=>?_
 rcases KO with ⟨⟨nm,q,bs,sub,col,k0,k1,k2,k3,k5,rfl⟩,⟨es,n,rfl,r2⟩,⟨tn,rfl⟩,⟨pmi,rfl⟩,⟨vi,ti,ei,ei2⟩,⟨pml,ct,rfl⟩,⟨vl,tl,el,el2⟩⟩
 refine q2_2 CO λvm tm em em2=>?_;clear CO
 refine zn ?_;clear zn
 have ne:n28≠n36:=λe=>by
  rw [e,g36] at g28
  have z:=congrArg (λo:Option Obj=>match o with | some ⟨_,_,.func f,_⟩=>f.qualname.cps.size | _=>0) g28
  have z2:(Str.ofString "cmp_to_key.<locals>.K.__lt__").cps.size=(Str.ofString "cmp_to_key.<locals>.K.__init__").cps.size:=z
  exact absurd z2 (by decide +kernel)
 exact⟨⟨nc,e10_1 _ _ _ _ _ _ _ _ _ _ gc,e2_2 _ _ gn r2,e4_1 _ _ _ _ gm,e3_1 _ _ _ g28,e3_1 _ _ _ g36,ne⟩,⟨_,_,e1_3 _ g28 rfl rfl,n27,_,_,_,rfl,g27,ei,ei2⟩,⟨_,_,_,e1_3 _ g36 rfl rfl,n35,_,_,_,rfl,g35,el,el2⟩,⟨_,_,_,e1_3 _ g11 rfl rfl,n10,_,_,_,rfl,g10,em,em2⟩,e1_2 _ g13 rfl,e2_2 tk _ g3 rfl,e1_2 _ g2 rfl,e1_2 _ g1 rfl⟩
theorem servedA {w:World} {s:Shared} {r b:Addr} {o:Int} {tk:Tok} (KY:Frag.In (hK w.params) s.heap) :
 wpAny (model PySem.Challenge.pw_il0171_01 w) ⟨none,600,none,none,3000⟩ (call (.ref 167) [.ref r,.ref b,.int o tk]) (λv s'=>KOut s v s' r b o) (λ_ _=>False) s:=by
 refine byC0 λzn=>?_;rcases s with ⟨h,g,d,t,os⟩;refine zn ?_;clear zn
 have f2:=inK KY 2 (by kernel_rfl)
 have f166:=inK KY 166 (by kernel_rfl)
 have f167:=inK KY 167 (by kernel_rfl)
 have hnl:∀ h:Heap,h.get? 2=some (oK (hK w.params) 2)->h.NoLimit:=λh e=>nolim2 e (by kernel_rfl) (by kernel_rfl)
 have D:=Mm.start h
 refine wpAny_call ?_
 refine codeAny_call_function (fd:=(fdOf (top 13) (Str.ofString "_law_served") .none (fdO (oK (hK w.params) 167)).pyModule (.ref 166))) (body:=fBody (top 13)) (by decide +kernel) (D.old _ _ f167) (by kernel_rfl) (by kernel_rfl) (by kernel_rfl) (by kernel_rfl) (e4_4 166 _ _ _ (by kernel_rfl) (D.old _ _ f166) (show _=Data.fields (fvO (oK (hK w.params) 166)) by kernel_rfl) (show _=some (Value.str _ (tokOf ((fvO (oK (hK w.params) 166))[1]?.getD .none))) by kernel_rfl)) ?_
 refine m_pure [(Str.ofString "rounds",.ref r),(Str.ofString "behind",.ref b),(Str.ofString "odd",.int o tk)] ?_
 refine m_allocP D { cls:=.type "frame",data:=.dict #[] } (λn0 H1 Dn0=>?_)
 refine m_allocH Dn0 { cls:=.type "cell",data:=.cell none } (λn1 H2 Dn1=>?_)
 refine m_allocH Dn1 { cls:=.type "cell",data:=.cell none } (λn2 H3 Dn2=>?_)
 refine m_allocH Dn2 { cls:=.type "cell",data:=.cell none } (λn3 H4 Dn3=>?_)
 have Rn1:=Dn3.rot3
 refine m_load n1 _ (Rn1.atH 0 _ _ rfl) ?_
 refine m_upd Rn1 { cls:=.type "cell",data:=.cell (some (.ref r)) } (λH5 U1=>?_)
 have Rn2:=U1.rot3
 refine m_load n2 _ (Rn2.atH 0 _ _ rfl) ?_
 refine m_upd Rn2 { cls:=.type "cell",data:=.cell (some (.ref b)) } (λH6 U2=>?_)
 have Rn3:=U2.rot3
 refine m_load n3 _ (Rn3.atH 0 _ _ rfl) ?_
 refine m_upd Rn3 { cls:=.type "cell",data:=.cell (some (.int o tk)) } (λH7 U3=>?_)
 refine m_pure { scope:=fScope (top 13),locals:=n0,globals:=3,cells:=[(Str.ofString "odd",n3),(Str.ofString "behind",n2),(Str.ofString "rounds",n1)],qual:=Str.ofString "_law_served.<locals>.",func:=some 167,code:=.ref 166,frame:=some n0,builtins:=0 } ?_
 refine⟨hnl _ (U3.old _ _ f2),?_⟩
 exact bodyB n0 n1 n2 n3 _ _ _ KY (by decide +kernel) hnl rfl rfl rfl U3.cool.cool.cool (λc nc md n13 n27 n28 n35 n36 n4 n10 n11 oc on om o36 o35 o28 o27 o10 m30 m162 t1 h1 DD KO CO=>kout_of DD KO CO)
end
end
section
open PySem.W.X
noncomputable def fO (a:Addr) (s:Stmt) (q:String) (d:Value) (m:String) (t:Tok) (c:Addr):Addr×Obj:=(a,Obj.mk (.type "function") none (.func (fdOf s (Str.ofString q) d (.str (Str.ofString m) t) (.ref c))) #[])
noncomputable def hKF (P:Params):Frag:=hK P++[fO 28 (top 2) "_iter_escaped_chars" .none "cpy313.email.utils" 194 27,
 (27,Obj.mk (.type "code") none (.fields #[.str (Str.ofString "_iter_escaped_chars") 196,.str (Str.ofString "_iter_escaped_chars") 197,.str (Str.ofString "/claim/cut.py") 198,.int 5 0,.int 1 0,.int 0 0,.int 0 0,.int 35 0,.ref 22,.bool true,.int 181 0,.ref 23,.none,.ref 24,.ref 25,.ref 26,.int 203 0,.int 5 0,.str (Str.ofString "/claim/cut.py") 204]) #[]),
 fO 50 (meth 8 1) "_NodeInfo.__init__" .none "cpy313.graphlib" 217 49,
 (49,Obj.mk (.type "code") none (.fields #[.str (Str.ofString "__init__") 241,.str (Str.ofString "_NodeInfo.__init__") 242,.str (Str.ofString "/claim/cut.py") 243,.int 50 0,.int 2 0,.int 0 0,.int 0 0,.int 3 0,.ref 44,.bool true,.int 181 0,.ref 45,.none,.ref 46,.ref 47,.ref 48,.int 246 0,.int 50 0,.str (Str.ofString "/claim/cut.py") 247]) #[]),
 fO 87 (meth 10 0) "TopologicalSorter.__init__" (.ref 80) "cpy313.graphlib" 217 86,
 (86,Obj.mk (.type "code") none (.fields #[.str (Str.ofString "__init__") 292,.str (Str.ofString "TopologicalSorter.__init__") 293,.str (Str.ofString "/claim/cut.py") 294,.int 58 0,.int 2 0,.int 0 0,.int 0 0,.int 3 0,.ref 81,.bool true,.int 181 0,.ref 82,.none,.ref 83,.ref 84,.ref 85,.int 299 0,.int 58 0,.str (Str.ofString "/claim/cut.py") 300]) #[]),
 fO 94 (meth 10 1) "TopologicalSorter._get_nodeinfo" .none "cpy313.graphlib" 217 93,
 (93,Obj.mk (.type "code") none (.fields #[.str (Str.ofString "_get_nodeinfo") 302,.str (Str.ofString "TopologicalSorter._get_nodeinfo") 303,.str (Str.ofString "/claim/cut.py") 304,.int 67 0,.int 2 0,.int 0 0,.int 0 0,.int 3 0,.ref 88,.bool true,.int 181 0,.ref 89,.none,.ref 90,.ref 91,.ref 92,.int 308 0,.int 67 0,.str (Str.ofString "/claim/cut.py") 309]) #[]),
 fO 101 (meth 10 2) "TopologicalSorter.add" .none "cpy313.graphlib" 217 100,
 (100,Obj.mk (.type "code") none (.fields #[.str (Str.ofString "add") 311,.str (Str.ofString "TopologicalSorter.add") 312,.str (Str.ofString "/claim/cut.py") 313,.int 72 0,.int 2 0,.int 0 0,.int 0 0,.int 7 0,.ref 95,.bool true,.int 181 0,.ref 96,.none,.ref 97,.ref 98,.ref 99,.int 320 0,.int 72 0,.str (Str.ofString "/claim/cut.py") 321]) #[]),
 fO 106 (meth 10 3) "TopologicalSorter.prepare" .none "cpy313.graphlib" 217 105,
 (105,Obj.mk (.type "code") none (.fields #[.str (Str.ofString "prepare") 323,.str (Str.ofString "TopologicalSorter.prepare") 324,.str (Str.ofString "/claim/cut.py") 325,.int 81 0,.int 1 0,.int 0 0,.int 0 0,.int 3 0,.ref 102,.bool true,.int 181 0,.ref 103,.none,.none,.none,.ref 104,.int 326 0,.int 81 0,.str (Str.ofString "/claim/cut.py") 327]) #[]),
 fO 113 (meth 10 4) "TopologicalSorter.get_ready" .none "cpy313.graphlib" 217 112,
 (112,Obj.mk (.type "code") none (.fields #[.str (Str.ofString "get_ready") 329,.str (Str.ofString "TopologicalSorter.get_ready") 330,.str (Str.ofString "/claim/cut.py") 331,.int 89 0,.int 1 0,.int 0 0,.int 0 0,.int 3 0,.ref 107,.bool true,.int 181 0,.ref 108,.none,.ref 109,.ref 110,.ref 111,.int 336 0,.int 89 0,.str (Str.ofString "/claim/cut.py") 337]) #[]),
 fO 120 (meth 10 5) "TopologicalSorter.is_active" .none "cpy313.graphlib" 217 119,
 (119,Obj.mk (.type "code") none (.fields #[.str (Str.ofString "is_active") 339,.str (Str.ofString "TopologicalSorter.is_active") 340,.str (Str.ofString "/claim/cut.py") 341,.int 100 0,.int 1 0,.int 0 0,.int 0 0,.int 3 0,.ref 114,.bool true,.int 181 0,.ref 115,.none,.ref 116,.ref 117,.ref 118,.int 343 0,.int 100 0,.str (Str.ofString "/claim/cut.py") 344]) #[]),
 fO 134 (meth 10 7) "TopologicalSorter.done" .none "cpy313.graphlib" 217 133,
 (133,Obj.mk (.type "code") none (.fields #[.str (Str.ofString "done") 353,.str (Str.ofString "TopologicalSorter.done") 354,.str (Str.ofString "/claim/cut.py") 355,.int 108 0,.int 1 0,.int 0 0,.int 0 0,.int 7 0,.ref 128,.bool true,.int 181 0,.ref 129,.none,.ref 130,.ref 131,.ref 132,.int 364 0,.int 108 0,.str (Str.ofString "/claim/cut.py") 365]) #[]),
 fO 141 (meth 10 8) "TopologicalSorter._find_cycle" .none "cpy313.graphlib" 217 140,
 (140,Obj.mk (.type "code") none (.fields #[.str (Str.ofString "_find_cycle") 367,.str (Str.ofString "TopologicalSorter._find_cycle") 368,.str (Str.ofString "/claim/cut.py") 369,.int 131 0,.int 1 0,.int 0 0,.int 0 0,.int 3 0,.ref 135,.bool true,.int 181 0,.ref 136,.none,.ref 137,.ref 138,.ref 139,.int 377 0,.int 131 0,.str (Str.ofString "/claim/cut.py") 378]) #[]),
 fO 160 (top 12) "_law_behind" .none "law_il0171_01" 399 159,
 (159,Obj.mk (.type "code") none (.fields #[.str (Str.ofString "_law_behind") 401,.str (Str.ofString "_law_behind") 402,.str (Str.ofString "/claim/cut.py") 403,.int 163 0,.int 2 0,.int 0 0,.int 0 0,.int 3 0,.ref 156,.bool true,.int 181 0,.ref 157,.none,.none,.none,.ref 158,.int 404 0,.int 163 0,.str (Str.ofString "/claim/cut.py") 405]) #[]),
 fO 172 (top 14) "_law_record" .none "law_il0171_01" 399 171,
 (171,Obj.mk (.type "code") none (.fields #[.str (Str.ofString "_law_record") 419,.str (Str.ofString "_law_record") 420,.str (Str.ofString "/claim/cut.py") 421,.int 171 0,.int 3 0,.int 0 0,.int 0 0,.int 3 0,.ref 168,.bool true,.int 181 0,.ref 169,.none,.none,.none,.ref 170,.int 422 0,.int 171 0,.str (Str.ofString "/claim/cut.py") 423]) #[]),
 fO 177 (top 15) "law" .none "law_il0171_01" 399 176,
 (176,Obj.mk (.type "code") none (.fields #[.str (Str.ofString "law") 425,.str (Str.ofString "law") 426,.str (Str.ofString "/claim/cut.py") 427,.int 195 0,.int 1 0,.int 0 0,.int 0 0,.int 3 0,.ref 173,.bool true,.int 181 0,.ref 174,.none,.none,.none,.ref 175,.int 428 0,.int 195 0,.str (Str.ofString "/claim/cut.py") 429]) #[]),
 (53,Obj.mk (.type "dict") none (.dict #[e3 P "__module__" 232 (.str (Str.ofString "cpy313.graphlib") 217),e3 P "__firstlineno__" 236 (.int 47 235),e3 P "__slots__" 240 (.ref 43),e3 P "__init__" 248 (.ref 50),e3 P "__static_attributes__" 252 (.ref 51),e3 P "node" 254 (.ref 55),e3 P "npredecessors" 256 (.ref 56),e3 P "successors" 258 (.ref 57),e3 P "__doc__" 259 .none] 5) #[]),
 (54,Obj.mk (.type "type") none (.cls (ClassData.mk (Str.ofString "_NodeInfo") [.type "object"] [.ref 54,.type "object"] 53 (Str.ofString "_NodeInfo") false [Str.ofString "node",Str.ofString "npredecessors",Str.ofString "successors"] [] false none false)) #[none,none,some (.str (Str.ofString "_NodeInfo") 225),some (.str (Str.ofString "_NodeInfo") 233),some (.builtin "object.__new__"),some (.bool false)]),
 (55,Obj.mk (.type "member_descriptor") none (.fields #[.str (Str.ofString "node") 253,.ref 54,.builtin "proto.slot",.builtin "proto.slot#set",.int 2 0]) #[]),
 (56,Obj.mk (.type "member_descriptor") none (.fields #[.str (Str.ofString "npredecessors") 255,.ref 54,.builtin "proto.slot",.builtin "proto.slot#set",.int 1 0]) #[]),
 (57,Obj.mk (.type "member_descriptor") none (.fields #[.str (Str.ofString "successors") 257,.ref 54,.builtin "proto.slot",.builtin "proto.slot#set",.int 0 0]) #[]),
 (80,Obj.mk (.type "tuple") none (.seq #[.none]) #[]),
 (150,Obj.mk (.type "dict") none (.dict #[e3 P "__module__" 287 (.str (Str.ofString "cpy313.graphlib") 217),e3 P "__firstlineno__" 291 (.int 56 290),e3 P "__init__" 301 (.ref 87),e3 P "_get_nodeinfo" 310 (.ref 94),e3 P "add" 322 (.ref 101),e3 P "prepare" 328 (.ref 106),e3 P "get_ready" 338 (.ref 113),e3 P "is_active" 345 (.ref 120),e3 P "__bool__" 352 (.ref 127),e3 P "done" 366 (.ref 134),e3 P "_find_cycle" 379 (.ref 141),e3 P "static_order" 386 (.ref 148),e3 P "__static_attributes__" 391 (.ref 149),e3 P "__dict__" 393 (.ref 152),e3 P "__weakref__" 395 (.ref 153),e3 P "__doc__" 396 .none] 4) #[]),
 (151,Obj.mk (.type "type") none (.cls (ClassData.mk (Str.ofString "TopologicalSorter") [.type "object"] [.ref 151,.type "object"] 150 (Str.ofString "TopologicalSorter") true [] [] false none false)) #[none,none,some (.str (Str.ofString "TopologicalSorter") 280),some (.str (Str.ofString "TopologicalSorter") 288),some (.builtin "object.__new__"),some (.bool true)])]
noncomputable def asF:List Addr:=[0,1,2,3,4,30,34,162,166,35,167,28,27,50,49,87,86,94,93,101,100,106,105,113,112,120,119,134,133,141,140,160,159,172,171,177,176,53,54,55,56,57,80,150,151]
theorem hK_of {h:Heap} {P:Params} (X:Frag.In (hKF P) h):Frag.In (hK P) h:=λa o e=>X a o (by
 unfold hKF
 rw [List.lookup_append,e]
 rfl)
noncomputable def vq:Program:=PySem.W.view PySem.Challenge.pw_il0171_01 [0,2,4,6,7,8,9,10,12,13,14,15]
theorem asK_eq (P:Params):asF=(hKF P).map (·.1):=by kernel_rfl
noncomputable def oE (p:Program) (w:World) (N:Nat):Option Shared:=
 ((PySem.W.Fast.tw10274390034422433532 PySem.W.Fast.tw14364793385576792824 (opening p) w N (PySem.W.Fast.tw1435165496053646825 (opening p)).1 (PySem.W.Fast.tw1435165496053646825 (opening p)).2).bind (PySem.W.Fast.tw14289696077712309145 p)).bind λs=>
 bif s.heap.isNs mainGlobals && s.gens.size == 0 then (PySem.W.Fast.tw14082659384304107361 PySem.W.Fast.tw14364793385576792824 p w s.heap.objs.size (PySem.W.Fast.tw8920871248978507458 s.heap mainGlobals "__annotations__") N s (topStub p)).bind λt=>bif staticsOk (PySem.W.Fast.tw5923862056798008813 p.main.body) s.heap t.heap && namesBound p t.heap && gensDone t && laidKept s.heap t.heap then some t else none else none
theorem oE_eq (p:Program) (w:World) (N:Nat):openEnds treeTable p w N=oE p w N:=by
 delta oE
 rw [← PySem.W.Fast.te14364793385576792824,← PySem.W.Fast.te10274390034422433532,← PySem.W.Fast.te1435165496053646825,← PySem.W.Fast.te14289696077712309145,← PySem.W.Fast.te14082659384304107361,← PySem.W.Fast.te8920871248978507458,← PySem.W.Fast.te5923862056798008813]
 rfl
theorem lkO:looksOpen PySem.Challenge.rw_il0171_01.row.prog=true:=by
 delta looksOpen
 repeat' with_reducible refine look_both ?_ ?_
 all_goals decide +kernel
theorem okL:PySem.Challenge.rw_il0171_01.wellSaid=true:=by
 delta OpenLaw.wellSaid OpenRow.wellSaid OpenRow.partSaid
 rw [lkO]
 decide +kernel
end
end Mine.Internal
open PySem PySem.W PySem.W.X PyProof.Rows Mine.Internal
set_option maxRecDepth 1000000
theorem PySem.Challenge.cw_il0171_01_holds : PySem.Challenge.rw_il0171_01.Holds := by
 w_on;refine holds_law okL λsaid=>?_
 refine holds_open (q:=vq) (loose:=[Str.ofString "_NodeInfo"]) (Xt:=λs=>xlAt vq [] s && recOk (RowW.records (OpenRow.toRowW PySem.Challenge.rw_il0171_01.row)) s) (XP:=XL vq []) (Yf:=Hook.obs (kHook hKF asF asK_eq)) (Ya:=Hook.val (kHook hKF asF asK_eq)) (YP:=Hook.says (kHook hKF asF asK_eq)) (N:=2614) ?hl (Hook.of _) (Hook.keeps _) (λs e=>xl_of s (Bool.and_eq_true_iff.mp e).1) XL.keeps (by rfl) (by rfl) (by rfl) (λs e=>recFacts_of (Bool.and_eq_true_iff.mp e).2) (by rfl) (by first | assumption | decide +kernel) (by decide +kernel) ⟨rfl,rfl,rfl,rfl,rfl,by decide +kernel⟩ ?hw ?hc
 case hw=>w_witness2
 case hl=>
  intro w
  rw [oE_eq,PySem.W.Fast.te4187177175401517315,PySem.W.Fast.te5923862056798008813]
  kernel_rfl
 have served:∀ (w:World) (s:Shared) (r b:Addr) (o:Int) (t:Tok),Frag.In (hKF w.params) s.heap->
   wpAny (model PySem.Challenge.pw_il0171_01 w) ⟨none,600,none,none,3000⟩ (call (.ref 167) [.ref r,.ref b,.int o t]) (λv s'=>KOut s v s' r b o) (λ_ _=>False) s:=by
  intro w s r b o t KY
  exact servedA (hK_of KY)
 intro w s₀ s₁ mg mb G Y fa o pm cd doc dV kV ho hd hcd hD hmg hg args vals as hpre hlay hrd hwl hlo
 have KX:=kIn_of Y
 refine Ground.open G ?_
 intro T B D TE TW
 clear G Y
 wrow_args hpre hlay hrd hwl hlo
 x_fa T KX hmg
 (try all_lens)
 have XF:=Kf_in KX
 obtain ⟨mN,hmN⟩:=ns_ofIn XF (a:=150) (by kernel_rfl)
 have fr:∀ b o,s₁.heap.get? b=some o->b≠30->b≠162->(hideAll s₁.heap tabs2).get? b=some o:=λb o e n1 n2=>hideAll_get _ e (by simp [n1,n2])
 have Tg:(hideAll s₁.heap tabs2).Ns mainGlobals mg:=T.g.at' λo e=>fr _ _ e (by decide) (by decide)
 have Tb:(hideAll s₁.heap tabs2).Ns builtinsNs mb:=T.b.at' λo e=>fr _ _ e (by decide) (by decide)
 have lim:(hideAll s₁.heap tabs2).NoLimit:=by
  obtain ⟨mc,h1,h2⟩:=T.nolimit
  exact⟨mc,h1.at' λo e=>fr _ _ e (by decide) (by decide),h2⟩
 have S:St w mg mb mN (Kf (hKF w.params)) (hideAll s₁.heap tabs2):=by
  refine⟨lim,?_,Tg,Tb,cls_of XF (by kernel_rfl) hmN,XF,?_,?_,?_,?_,?_,?_,?_,?_,?_,?_,?_,?_,?_⟩
  ·exact⟨_,XF sysModules ⟨.type "dict",dIn (Kf (hKF w.params)) sysModules,((Kf (hKF w.params)).lookup sysModules).elim .plain (·.data),slIn (Kf (hKF w.params)) sysModules⟩ (by kernel_rfl)⟩
  ·exact fn_of XF (by kernel_rfl) (by kernel_rfl)
  ·exact fn_of XF (by kernel_rfl) (by kernel_rfl)
  ·exact⟨_,XF 80 ⟨.type "tuple",dIn (Kf (hKF w.params)) 80,.seq #[.none] 0,slIn (Kf (hKF w.params)) 80⟩ (by kernel_rfl),rfl,0,rfl⟩
  ·exact fn_of XF (by kernel_rfl) (by kernel_rfl)
  ·exact fn_of XF (by kernel_rfl) (by kernel_rfl)
  ·exact fn_of XF (by kernel_rfl) (by kernel_rfl)
  ·exact fn_of XF (by kernel_rfl) (by kernel_rfl)
  ·exact fn_of XF (by kernel_rfl) (by kernel_rfl)
  ·exact fn_of XF (by kernel_rfl) (by kernel_rfl)
  ·exact fn_of XF (by kernel_rfl) (by kernel_rfl)
  ·exact fn_of XF (by kernel_rfl) (by kernel_rfl)
  ·exact fn_of XF (by kernel_rfl) (by kernel_rfl)
  ·exact fn_of XF (by kernel_rfl) (by kernel_rfl)
 have C:Con mg mb mN (Kf (hKF w.params)):=by
  have b1:∀ x,x∈([Str.ofString "range",Str.ofString "len",Str.ofString "min",Str.ofString "max",Str.ofString "sorted",Str.ofString "enumerate",Str.ofString "tuple",Str.ofString "bool",Str.ofString "set",Str.ofString "iter",Str.ofString "StopIteration"]:List Str)->mg x=none/\mb x=bootBuiltins x:=by
   intro x hx
   simp only [List.mem_cons,List.not_mem_nil,or_false] at hx
   obtain rfl | rfl | rfl | rfl | rfl | rfl | rfl | rfl | rfl | rfl | rfl:=hx
   all_goals exact⟨m_of XF Tg (by kernel_rfl),T.builtins _ (by decide)⟩
  have m1:∀ x,x∈([Str.ofString "__getattribute__",Str.ofString "__getattr__",Str.ofString "__setattr__",Str.ofString "_node2info",Str.ofString "_ready_nodes",Str.ofString "_npassedout",Str.ofString "_nfinished"]:List Str)->mN x=none:=by
   intro x hx
   simp only [List.mem_cons,List.not_mem_nil,or_false] at hx
   obtain rfl | rfl | rfl | rfl | rfl | rfl | rfl:=hx
   all_goals exact m_of XF hmN (by kernel_rfl)
  refine⟨⟨⟨?_,?_,?_,?_,?_,?_,?_,?_,?_,?_⟩,⟨?_,?_,?_,?_,?_,?_,?_,?_,?_,?_⟩,⟨?_,?_,?_,?_,?_,?_,?_,?_,?_,?_⟩,?_,?_,?_,?_⟩,m_of XF Tg (by kernel_rfl),m_of XF Tg (by kernel_rfl),int_of XF Tg (by kernel_rfl),int_of XF Tg (by kernel_rfl),m_of XF Tg (by kernel_rfl),m_of XF Tg (by kernel_rfl),m_of XF Tg (by kernel_rfl),m_of XF Tg (by kernel_rfl),b1,m1,m_of XF hmN (by kernel_rfl),m_of XF hmN (by kernel_rfl),m_of XF hmN (by kernel_rfl),m_of XF hmN (by kernel_rfl),m_of XF hmN (by kernel_rfl),m_of XF hmN (by kernel_rfl),m_of XF hmN (by kernel_rfl),m_of XF hmN (by kernel_rfl),?_,?_,?_,?_,?_⟩
  all_goals kernel_rfl
 have C2:Con2 (Kf (hKF w.params)):=⟨by kernel_rfl,by kernel_rfl,by kernel_rfl,by kernel_rfl,by kernel_rfl,by kernel_rfl,by kernel_rfl⟩
 have F28:∃ pm cd,FnAt (hideAll s₁.heap tabs2) 28 (gnFd pm cd):=fn_of XF (by kernel_rfl) (by kernel_rfl)
 have F177:∃ pm cd,FnAt (hideAll s₁.heap tabs2) 177 (lawFd pm cd):=fn_of XF (by kernel_rfl) (by kernel_rfl)
 have t1:=tab_of KX 34 (P:=30) (by kernel_rfl) (by kernel_rfl) (by kernel_rfl)
 have t2:=tab_of KX 166 (P:=162) (by kernel_rfl) (by kernel_rfl) (by kernel_rfl)
 have tt:∀ a∈tabs2,isCodeTable s₁.heap a/\∃ ps,s₁.heap.get? a=some (tableObj ps):=λa ha=>by
  simp only [List.mem_cons,List.not_mem_nil,or_false] at ha
  obtain rfl | rfl:=ha
  ·exact t1
  ·exact t2
 have SV:Served w s₁.heap:=λA s r b o t hH h1 h2 h3=>wp_around (B:=⟨none,600,none,none,3000⟩) h1 h2 rfl rfl h3 (served w s r b o t (Frag.In.keeps KX hH.get))
 refine wpAny_call (codeAny_mono (law_call (n:=20) (b₀:=hideAll s₁.heap tabs2) (K:=Kf (hKF w.params)) ⟨rfl,by decide +kernel,by decide +kernel⟩ (by decide +kernel) (by decide +kernel) rfl S C C2 F28 F177 SV ⟨λa o e=>of_hideAll _ e⟩ (λa ha=>⟨(tt a ha).2,hideAll_none _ ha⟩) (by assumption) (by assumption) (by omega) (plain_law _)) λr s' q=>?_)
 obtain ⟨rfl,⟨h',tk',rfl⟩,hkeep,ga,gb⟩:=q
 refine⟨.inl ⟨_,_,[],rfl,(λ_=>rfl),ReadsW.bool true,(by first | rfl | wrow_post),λ_=>⟨List.nodup_nil,λ_ hm=>(nomatch hm)⟩⟩,oldK_of hkeep (λa ha=>⟨(tt a ha).1,?_⟩),rfl,?_⟩
 ·simp only [List.mem_cons,List.not_mem_nil,or_false] at ha
  obtain rfl | rfl:=ha
  ·exact ga
  ·exact gb
 ·exact AllBare.push (.of_eq hg) rfl
