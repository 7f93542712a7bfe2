import PyProof.Rows.All
import Wide.All
import OpenK.AllK
import Wide.FinOn
import KE.KTurns
import PyProof.CompFree
import PyProof.CompObj
import Lean
import PySem.Challenge.RW_in0310_01
set_option tactic.hygienic false
set_option Elab.async false
set_option maxRecDepth 100000
set_option maxHeartbeats 4000000
set_option linter.all false
set_option compiler.extract_closed false
namespace MineH
theorem kb {a b:Nat}(h:Nat.ble a b=true):a<=b:=Nat.le_of_ble_eq_true h
theorem ex1.{u0}{A:Sort u0}{p:A ->Prop}(h:∃a,p a){G:Prop}(z:∀a,p a ->G):G:=by
 obtain⟨a,h⟩:=h
 exact z a h
theorem ex2.{u0,u1}{A:Sort u0}{B:Sort u1}{p:A ->B ->Prop}(h:∃a b,p a b){G:Prop}(z:∀a b,p a b ->G):G:=by
 obtain⟨a,b,h⟩:=h
 exact z a b h
theorem ex3.{u0,u1,u2}{A:Sort u0}{B:Sort u1}{C:Sort u2}{p:A ->B ->C ->Prop}(h:∃a b c,p a b c){G:Prop}(z:∀a b c,p a b c ->G):G:=by
 obtain⟨a,b,c,h⟩:=h
 exact z a b c h
theorem ex4.{u0,u1,u2,u3}{A:Sort u0}{B:Sort u1}{C:Sort u2}{D:Sort u3}{p:A ->B ->C ->D ->Prop}(h:∃a b c d,p a b c d){G:Prop}(z:∀a b c d,p a b c d ->G):G:=by
 obtain⟨a,b,c,d,h⟩:=h
 exact z a b c d h
theorem ex5.{u0,u1,u2,u3,u4}{A:Sort u0}{B:Sort u1}{C:Sort u2}{D:Sort u3}{E:Sort u4}{p:A ->B ->C ->D ->E ->Prop}(h:∃a b c d e,p a b c d e){G:Prop}(z:∀a b c d e,p a b c d e ->G):G:=by
 obtain⟨a,b,c,d,e,h⟩:=h
 exact z a b c d e h
theorem ex6.{u0,u1,u2,u3,u4,u5}{A:Sort u0}{B:Sort u1}{C:Sort u2}{D:Sort u3}{E:Sort u4}{F:Sort u5}{p:A ->B ->C ->D ->E ->F ->Prop}(h:∃a b c d e f,p a b c d e f){G:Prop}(z:∀a b c d e f,p a b c d e f ->G):G:=by
 obtain⟨a,b,c,d,e,f,h⟩:=h
 exact z a b c d e f h
theorem ex7.{u0,u1,u2,u3,u4,u5,u6}{A:Sort u0}{B:Sort u1}{C:Sort u2}{D:Sort u3}{E:Sort u4}{F:Sort u5}{H:Sort u6}{p:A ->B ->C ->D ->E ->F ->H ->Prop}(h:∃a b c d e f g,p a b c d e f g){G:Prop}(z:∀a b c d e f g,p a b c d e f g ->G):G:=by
 obtain⟨a,b,c,d,e,f,g,h⟩:=h
 exact z a b c d e f g h
theorem ex8.{u0,u1,u2,u3,u4,u5,u6,u7}{A:Sort u0}{B:Sort u1}{C:Sort u2}{D:Sort u3}{E:Sort u4}{F:Sort u5}{H:Sort u6}{I:Sort u7}{p:A ->B ->C ->D ->E ->F ->H ->I ->Prop}(h:∃a b c d e f g i,p a b c d e f g i){G:Prop}(z:∀a b c d e f g i,p a b c d e f g i ->G):G:=by
 obtain⟨a,b,c,d,e,f,g,i,h⟩:=h
 exact z a b c d e f g i h
theorem ex9.{u0,u1,u2,u3,u4,u5,u6,u7,u8}{A:Sort u0}{B:Sort u1}{C:Sort u2}{D:Sort u3}{E:Sort u4}{F:Sort u5}{H:Sort u6}{I:Sort u7}{J:Sort u8}{p:A ->B ->C ->D ->E ->F ->H ->I ->J ->Prop}(h:∃a b c d e f g i j,p a b c d e f g i j){G:Prop}(z:∀a b c d e f g i j,p a b c d e f g i j ->G):G:=by
 obtain⟨a,b,c,d,e,f,g,i,j,h⟩:=h
 exact z a b c d e f g i j h
theorem ex10.{u0,u1,u2,u3,u4,u5,u6,u7,u8,u9}{A:Sort u0}{B:Sort u1}{C:Sort u2}{D:Sort u3}{E:Sort u4}{F:Sort u5}{H:Sort u6}{I:Sort u7}{J:Sort u8}{K:Sort u9}{p:A ->B ->C ->D ->E ->F ->H ->I ->J ->K ->Prop}(h:∃a b c d e f g i j k,p a b c d e f g i j k){G:Prop}(z:∀a b c d e f g i j k,p a b c d e f g i j k ->G):G:=by
 obtain⟨a,b,c,d,e,f,g,i,j,k,h⟩:=h
 exact z a b c d e f g i j k h
theorem an2 {a b:Prop}(h:a∧b){G:Prop}(z:a ->b ->G):G:=z h.1 h.2
theorem an3 {a b c:Prop}(h:a∧b∧c){G:Prop}(z:a ->b ->c ->G):G:=z h.1 h.2.1 h.2.2
theorem an4 {a b c d:Prop}(h:a∧b∧c∧d){G:Prop}(z:a ->b ->c ->d ->G):G:=z h.1 h.2.1 h.2.2.1 h.2.2.2
theorem an5 {a b c d e:Prop}(h:a∧b∧c∧d∧e){G:Prop}(z:a ->b ->c ->d ->e ->G):G:=z h.1 h.2.1 h.2.2.1 h.2.2.2.1 h.2.2.2.2
theorem an6 {a b c d e f:Prop}(h:a∧b∧c∧d∧e∧f){G:Prop}(z:a ->b ->c ->d ->e ->f ->G):G:=z h.1 h.2.1 h.2.2.1 h.2.2.2.1 h.2.2.2.2.1 h.2.2.2.2.2
theorem an7 {a b c d e f g:Prop}(h:a∧b∧c∧d∧e∧f∧g){G:Prop}(z:a ->b ->c ->d ->e ->f ->g ->G):G:=z h.1 h.2.1 h.2.2.1 h.2.2.2.1 h.2.2.2.2.1 h.2.2.2.2.2.1 h.2.2.2.2.2.2
theorem an8 {a b c d e f g i:Prop}(h:a∧b∧c∧d∧e∧f∧g∧i){G:Prop}(z:a ->b ->c ->d ->e ->f ->g ->i ->G):G:=z h.1 h.2.1 h.2.2.1 h.2.2.2.1 h.2.2.2.2.1 h.2.2.2.2.2.1 h.2.2.2.2.2.2.1 h.2.2.2.2.2.2.2
theorem an9 {a b c d e f g i j:Prop}(h:a∧b∧c∧d∧e∧f∧g∧i∧j){G:Prop}(z:a ->b ->c ->d ->e ->f ->g ->i ->j ->G):G:=z h.1 h.2.1 h.2.2.1 h.2.2.2.1 h.2.2.2.2.1 h.2.2.2.2.2.1 h.2.2.2.2.2.2.1 h.2.2.2.2.2.2.2.1 h.2.2.2.2.2.2.2.2
theorem x1a2.{u0}{A:Sort u0}{p q:A ->Prop}(h:∃a,p a∧q a){G:Prop}(z:∀a,p a ->q a ->G):G:=ex1 h fun a h=>an2 h (z a)
theorem x1a3.{u0}{A:Sort u0}{p q r:A ->Prop}(h:∃a,p a∧q a∧r a){G:Prop}(z:∀a,p a ->q a ->r a ->G):G:=ex1 h fun a h=>an3 h (z a)
theorem x1a4.{u0}{A:Sort u0}{p q r s:A ->Prop}(h:∃a,p a∧q a∧r a∧s a){G:Prop}(z:∀a,p a ->q a ->r a ->s a ->G):G:=ex1 h fun a h=>an4 h (z a)
theorem x1a5.{u0}{A:Sort u0}{p q r s t:A ->Prop}(h:∃a,p a∧q a∧r a∧s a∧t a){G:Prop}(z:∀a,p a ->q a ->r a ->s a ->t a ->G):G:=ex1 h fun a h=>an5 h (z a)
theorem x1a6.{u0}{A:Sort u0}{p q r s t u:A ->Prop}(h:∃a,p a∧q a∧r a∧s a∧t a∧u a){G:Prop}(z:∀a,p a ->q a ->r a ->s a ->t a ->u a ->G):G:=ex1 h fun a h=>an6 h (z a)
theorem x2a2.{u0,u1}{A:Sort u0}{B:Sort u1}{p q:A ->B ->Prop}(h:∃a b,p a b∧q a b){G:Prop}(z:∀a b,p a b ->q a b ->G):G:=ex2 h fun a b h=>an2 h (z a b)
theorem x2a3.{u0,u1}{A:Sort u0}{B:Sort u1}{p q r:A ->B ->Prop}(h:∃a b,p a b∧q a b∧r a b){G:Prop}(z:∀a b,p a b ->q a b ->r a b ->G):G:=ex2 h fun a b h=>an3 h (z a b)
theorem x2a4.{u0,u1}{A:Sort u0}{B:Sort u1}{p q r s:A ->B ->Prop}(h:∃a b,p a b∧q a b∧r a b∧s a b){G:Prop}(z:∀a b,p a b ->q a b ->r a b ->s a b ->G):G:=ex2 h fun a b h=>an4 h (z a b)
theorem x2a5.{u0,u1}{A:Sort u0}{B:Sort u1}{p q r s t:A ->B ->Prop}(h:∃a b,p a b∧q a b∧r a b∧s a b∧t a b){G:Prop}(z:∀a b,p a b ->q a b ->r a b ->s a b ->t a b ->G):G:=ex2 h fun a b h=>an5 h (z a b)
theorem x2a6.{u0,u1}{A:Sort u0}{B:Sort u1}{p q r s t u:A ->B ->Prop}(h:∃a b,p a b∧q a b∧r a b∧s a b∧t a b∧u a b){G:Prop}(z:∀a b,p a b ->q a b ->r a b ->s a b ->t a b ->u a b ->G):G:=ex2 h fun a b h=>an6 h (z a b)
theorem x2a7.{u0,u1}{A:Sort u0}{B:Sort u1}{p q r s t u v:A ->B ->Prop}(h:∃a b,p a b∧q a b∧r a b∧s a b∧t a b∧u a b∧v a b){G:Prop}(z:∀a b,p a b ->q a b ->r a b ->s a b ->t a b ->u a b ->v a b ->G):G:=ex2 h fun a b h=>an7 h (z a b)
theorem x3a2.{u0,u1,u2}{A:Sort u0}{B:Sort u1}{C:Sort u2}{p q:A ->B ->C ->Prop}(h:∃a b c,p a b c∧q a b c){G:Prop}(z:∀a b c,p a b c ->q a b c ->G):G:=ex3 h fun a b c h=>an2 h (z a b c)
theorem x3a3.{u0,u1,u2}{A:Sort u0}{B:Sort u1}{C:Sort u2}{p q r:A ->B ->C ->Prop}(h:∃a b c,p a b c∧q a b c∧r a b c){G:Prop}(z:∀a b c,p a b c ->q a b c ->r a b c ->G):G:=ex3 h fun a b c h=>an3 h (z a b c)
theorem x3a4.{u0,u1,u2}{A:Sort u0}{B:Sort u1}{C:Sort u2}{p q r s:A ->B ->C ->Prop}(h:∃a b c,p a b c∧q a b c∧r a b c∧s a b c){G:Prop}(z:∀a b c,p a b c ->q a b c ->r a b c ->s a b c ->G):G:=ex3 h fun a b c h=>an4 h (z a b c)
theorem x4a2.{u0,u1,u2,u3}{A:Sort u0}{B:Sort u1}{C:Sort u2}{D:Sort u3}{p q:A ->B ->C ->D ->Prop}(h:∃a b c d,p a b c d∧q a b c d){G:Prop}(z:∀a b c d,p a b c d ->q a b c d ->G):G:=ex4 h fun a b c d h=>an2 h (z a b c d)
theorem x4a4.{u0,u1,u2,u3}{A:Sort u0}{B:Sort u1}{C:Sort u2}{D:Sort u3}{p q r s:A ->B ->C ->D ->Prop}(h:∃a b c d,p a b c d∧q a b c d∧r a b c d∧s a b c d){G:Prop}(z:∀a b c d,p a b c d ->q a b c d ->r a b c d ->s a b c d ->G):G:=ex4 h fun a b c d h=>an4 h (z a b c d)
theorem x4a5.{u0,u1,u2,u3}{A:Sort u0}{B:Sort u1}{C:Sort u2}{D:Sort u3}{p q r s t:A ->B ->C ->D ->Prop}(h:∃a b c d,p a b c d∧q a b c d∧r a b c d∧s a b c d∧t a b c d){G:Prop}(z:∀a b c d,p a b c d ->q a b c d ->r a b c d ->s a b c d ->t a b c d ->G):G:=ex4 h fun a b c d h=>an5 h (z a b c d)
theorem x4a6.{u0,u1,u2,u3}{A:Sort u0}{B:Sort u1}{C:Sort u2}{D:Sort u3}{p q r s t u:A ->B ->C ->D ->Prop}(h:∃a b c d,p a b c d∧q a b c d∧r a b c d∧s a b c d∧t a b c d∧u a b c d){G:Prop}(z:∀a b c d,p a b c d ->q a b c d ->r a b c d ->s a b c d ->t a b c d ->u a b c d ->G):G:=ex4 h fun a b c d h=>an6 h (z a b c d)
theorem x4a7.{u0,u1,u2,u3}{A:Sort u0}{B:Sort u1}{C:Sort u2}{D:Sort u3}{p q r s t u v:A ->B ->C ->D ->Prop}(h:∃a b c d,p a b c d∧q a b c d∧r a b c d∧s a b c d∧t a b c d∧u a b c d∧v a b c d){G:Prop}(z:∀a b c d,p a b c d ->q a b c d ->r a b c d ->s a b c d ->t a b c d ->u a b c d ->v a b c d ->G):G:=ex4 h fun a b c d h=>an7 h (z a b c d)
theorem x5a3.{u0,u1,u2,u3,u4}{A:Sort u0}{B:Sort u1}{C:Sort u2}{D:Sort u3}{E:Sort u4}{p q r:A ->B ->C ->D ->E ->Prop}(h:∃a b c d e,p a b c d e∧q a b c d e∧r a b c d e){G:Prop}(z:∀a b c d e,p a b c d e ->q a b c d e ->r a b c d e ->G):G:=ex5 h fun a b c d e h=>an3 h (z a b c d e)
theorem x5a5.{u0,u1,u2,u3,u4}{A:Sort u0}{B:Sort u1}{C:Sort u2}{D:Sort u3}{E:Sort u4}{p q r s t:A ->B ->C ->D ->E ->Prop}(h:∃a b c d e,p a b c d e∧q a b c d e∧r a b c d e∧s a b c d e∧t a b c d e){G:Prop}(z:∀a b c d e,p a b c d e ->q a b c d e ->r a b c d e ->s a b c d e ->t a b c d e ->G):G:=ex5 h fun a b c d e h=>an5 h (z a b c d e)
theorem x5a6.{u0,u1,u2,u3,u4}{A:Sort u0}{B:Sort u1}{C:Sort u2}{D:Sort u3}{E:Sort u4}{p q r s t u:A ->B ->C ->D ->E ->Prop}(h:∃a b c d e,p a b c d e∧q a b c d e∧r a b c d e∧s a b c d e∧t a b c d e∧u a b c d e){G:Prop}(z:∀a b c d e,p a b c d e ->q a b c d e ->r a b c d e ->s a b c d e ->t a b c d e ->u a b c d e ->G):G:=ex5 h fun a b c d e h=>an6 h (z a b c d e)
theorem x5a7.{u0,u1,u2,u3,u4}{A:Sort u0}{B:Sort u1}{C:Sort u2}{D:Sort u3}{E:Sort u4}{p q r s t u v:A ->B ->C ->D ->E ->Prop}(h:∃a b c d e,p a b c d e∧q a b c d e∧r a b c d e∧s a b c d e∧t a b c d e∧u a b c d e∧v a b c d e){G:Prop}(z:∀a b c d e,p a b c d e ->q a b c d e ->r a b c d e ->s a b c d e ->t a b c d e ->u a b c d e ->v a b c d e ->G):G:=ex5 h fun a b c d e h=>an7 h (z a b c d e)
theorem x5a8.{u0,u1,u2,u3,u4}{A:Sort u0}{B:Sort u1}{C:Sort u2}{D:Sort u3}{E:Sort u4}{p q r s t u v w:A ->B ->C ->D ->E ->Prop}(h:∃a b c d e,p a b c d e∧q a b c d e∧r a b c d e∧s a b c d e∧t a b c d e∧u a b c d e∧v a b c d e∧w a b c d e){G:Prop}(z:∀a b c d e,p a b c d e ->q a b c d e ->r a b c d e ->s a b c d e ->t a b c d e ->u a b c d e ->v a b c d e ->w a b c d e ->G):G:=ex5 h fun a b c d e h=>an8 h (z a b c d e)
theorem x5a9.{u0,u1,u2,u3,u4}{A:Sort u0}{B:Sort u1}{C:Sort u2}{D:Sort u3}{E:Sort u4}{p q r s t u v w x:A ->B ->C ->D ->E ->Prop}(h:∃a b c d e,p a b c d e∧q a b c d e∧r a b c d e∧s a b c d e∧t a b c d e∧u a b c d e∧v a b c d e∧w a b c d e∧x a b c d e){G:Prop}(z:∀a b c d e,p a b c d e ->q a b c d e ->r a b c d e ->s a b c d e ->t a b c d e ->u a b c d e ->v a b c d e ->w a b c d e ->x a b c d e ->G):G:=ex5 h fun a b c d e h=>an9 h (z a b c d e)
theorem x6a6.{u0,u1,u2,u3,u4,u5}{A:Sort u0}{B:Sort u1}{C:Sort u2}{D:Sort u3}{E:Sort u4}{F:Sort u5}{p q r s t u:A ->B ->C ->D ->E ->F ->Prop}(h:∃a b c d e f,p a b c d e f∧q a b c d e f∧r a b c d e f∧s a b c d e f∧t a b c d e f∧u a b c d e f){G:Prop}(z:∀a b c d e f,p a b c d e f ->q a b c d e f ->r a b c d e f ->s a b c d e f ->t a b c d e f ->u a b c d e f ->G):G:=ex6 h fun a b c d e f h=>an6 h (z a b c d e f)
theorem x6a8.{u0,u1,u2,u3,u4,u5}{A:Sort u0}{B:Sort u1}{C:Sort u2}{D:Sort u3}{E:Sort u4}{F:Sort u5}{p q r s t u v w:A ->B ->C ->D ->E ->F ->Prop}(h:∃a b c d e f,p a b c d e f∧q a b c d e f∧r a b c d e f∧s a b c d e f∧t a b c d e f∧u a b c d e f∧v a b c d e f∧w a b c d e f){G:Prop}(z:∀a b c d e f,p a b c d e f ->q a b c d e f ->r a b c d e f ->s a b c d e f ->t a b c d e f ->u a b c d e f ->v a b c d e f ->w a b c d e f ->G):G:=ex6 h fun a b c d e f h=>an8 h (z a b c d e f)
theorem x7a5.{u0,u1,u2,u3,u4,u5,u6}{A:Sort u0}{B:Sort u1}{C:Sort u2}{D:Sort u3}{E:Sort u4}{F:Sort u5}{H:Sort u6}{p q r s t:A ->B ->C ->D ->E ->F ->H ->Prop}(h:∃a b c d e f g,p a b c d e f g∧q a b c d e f g∧r a b c d e f g∧s a b c d e f g∧t a b c d e f g){G:Prop}(z:∀a b c d e f g,p a b c d e f g ->q a b c d e f g ->r a b c d e f g ->s a b c d e f g ->t a b c d e f g ->G):G:=ex7 h fun a b c d e f g h=>an5 h (z a b c d e f g)
theorem x8a9.{u0,u1,u2,u3,u4,u5,u6,u7}{A:Sort u0}{B:Sort u1}{C:Sort u2}{D:Sort u3}{E:Sort u4}{F:Sort u5}{H:Sort u6}{I:Sort u7}{p q r s t u v w x:A ->B ->C ->D ->E ->F ->H ->I ->Prop}(h:∃a b c d e f g i,p a b c d e f g i∧q a b c d e f g i∧r a b c d e f g i∧s a b c d e f g i∧t a b c d e f g i∧u a b c d e f g i∧v a b c d e f g i∧w a b c d e f g i∧x a b c d e f g i){G:Prop}(z:∀a b c d e f g i,p a b c d e f g i ->q a b c d e f g i ->r a b c d e f g i ->s a b c d e f g i ->t a b c d e f g i ->u a b c d e f g i ->v a b c d e f g i ->w a b c d e f g i ->x a b c d e f g i ->G):G:=ex8 h fun a b c d e f g i h=>an9 h (z a b c d e f g i)
theorem x9a5.{u0,u1,u2,u3,u4,u5,u6,u7,u8}{A:Sort u0}{B:Sort u1}{C:Sort u2}{D:Sort u3}{E:Sort u4}{F:Sort u5}{H:Sort u6}{I:Sort u7}{J:Sort u8}{p q r s t:A ->B ->C ->D ->E ->F ->H ->I ->J ->Prop}(h:∃a b c d e f g i j,p a b c d e f g i j∧q a b c d e f g i j∧r a b c d e f g i j∧s a b c d e f g i j∧t a b c d e f g i j){G:Prop}(z:∀a b c d e f g i j,p a b c d e f g i j ->q a b c d e f g i j ->r a b c d e f g i j ->s a b c d e f g i j ->t a b c d e f g i j ->G):G:=ex9 h fun a b c d e f g i j h=>an5 h (z a b c d e f g i j)
theorem x10a6.{u0,u1,u2,u3,u4,u5,u6,u7,u8,u9}{A:Sort u0}{B:Sort u1}{C:Sort u2}{D:Sort u3}{E:Sort u4}{F:Sort u5}{H:Sort u6}{I:Sort u7}{J:Sort u8}{K:Sort u9}{p q r s t u:A ->B ->C ->D ->E ->F ->H ->I ->J ->K ->Prop}(h:∃a b c d e f g i j k,p a b c d e f g i j k∧q a b c d e f g i j k∧r a b c d e f g i j k∧s a b c d e f g i j k∧t a b c d e f g i j k∧u a b c d e f g i j k){G:Prop}(z:∀a b c d e f g i j k,p a b c d e f g i j k ->q a b c d e f g i j k ->r a b c d e f g i j k ->s a b c d e f g i j k ->t a b c d e f g i j k ->u a b c d e f g i j k ->G):G:=ex10 h fun a b c d e f g i j k h=>an6 h (z a b c d e f g i j k)
theorem hide {G:Prop}(h:∀G':Prop,(G ->G') ->G'):G:=h G id
theorem k9p {P:Nat ->Prop}(h0:P 0)(h1:P 1){i:Nat}(h:i<2):P i:=
 match i,h with
 |0,_=>h0
 |1,_=>h1
@[elab_as_elim] theorem eq2.{u,v}{α:Sort u}{β:Sort v}{P:α ->β ->Prop}{a a':α}{b b':β}(e1:a=a')(e2:b=b')(h:P a' b'):P a b:=by
 subst e1 e2;exact h
def aT (a:Array Lean.Syntax):Lean.Syntax:=.node .none `Lean.Parser.Tactic.tacticSeq #[.node .none `Lean.Parser.Tactic.tacticSeq1Indented #[.node .none `null a]]
def aA (k:Lean.Name)(s:String)(a:Array Lean.Syntax):Lean.Syntax:=.node .none k (#[.atom .none s]++a)
def aC:Lean.Syntax:=.node .none `Lean.Parser.Tactic.optConfig #[.node .none `null #[]]
def aH (a:Array Lean.Syntax):Lean.Syntax:=aA `Lean.Parser.Tactic.intro "intro" #[.node .none `null a]
def aW:Lean.Syntax:=aA `Lean.Parser.Term.hole "_" #[]
def aR:Lean.Syntax:=aT #[aA `Lean.Parser.Tactic.tacticRfl "rfl" #[]]
def aK:Lean.Syntax:=aT #[aA `PySem.W.tacticK_is "k_is" #[]]
def aD:Lean.Syntax:=aT #[aA `Lean.Parser.Tactic.decide "decide" #[aC]]
def aE:Lean.Syntax:=aT #[aA `Lean.Parser.Tactic.decide "decide" #[.node .none `Lean.Parser.Tactic.optConfig #[.node .none `null #[.node .none `Lean.Parser.Tactic.configItem #[aA `Lean.Parser.Tactic.posConfigItem "+" #[.ident .none "kernel".toRawSubstring `kernel []]]]]]]
def aV:Lean.Syntax:=aA `Lean.Parser.Tactic.withUnfoldingAll "with_unfolding_all" #[aR]
def aU:Lean.Syntax:=aT #[aV]
def aI:Lean.Syntax:=aT #[aH #[aW],.atom .none ";",aA `Lean.Parser.Tactic.tacticRfl "rfl" #[]]
def aJ:Lean.Syntax:=aT #[aH #[aW],.atom .none ";",aV]
def aJJ:Lean.Syntax:=aT #[aH #[aW,aW],.atom .none ";",aV]
theorem dd12 {d e:Nat}(h0:d=1∨d=2)(h1:e<d):e<=1:=Nat.le_of_lt_succ (Nat.lt_of_lt_of_le h1 (h0.elim (fun h=>Nat.le_trans (Nat.le_of_eq h) (kb rfl)) Nat.le_of_eq))
theorem i62 {a:Nat}(h:a<=1000000):(a:Int)<2^62:=Int.lt_of_le_of_lt (Int.ofNat_le.mpr h) (by decide)
theorem i63 {a:Nat}(h:a<=1000000):(a:Int)<2^63:=Int.lt_of_le_of_lt (Int.ofNat_le.mpr h) (by decide)
section
variable {a b c d e f g:Nat}
theorem om0 (h0:a<c)(h1:b=c):a<b:=Nat.lt_of_lt_of_le h0 (Nat.le_of_eq h1.symm)
theorem om1 (h0:a<=1000):a<=16777216:=Nat.le_trans h0 (kb rfl)
theorem om2 (h0:(a-b)=(c+1)):(a-(b+1))=c:=(Nat.sub_succ a b).trans (congrArg Nat.pred h0)
theorem om3 (h0:b<a):((a+1)-(b+1))<((a+1)-b):=Nat.sub_succ_lt_self (a+1) b (Nat.lt_succ_of_lt h0)
theorem om4:(min ((min (a-1) a)-b) (a-1))=(a-(b+1)):=by rw[Nat.min_eq_left (Nat.sub_le a 1),Nat.min_eq_left (Nat.sub_le _ b),Nat.sub_sub,Nat.add_comm 1 b]
theorem om5 (h0:(a+(b+1))=c):((a+1)+b)=c:=by subst_vars;exact Nat.succ_add_eq_add_succ a b
theorem om6 (h0:b<=1000)(h1:a<=b):a<=16777216:=Nat.le_trans h1 (Nat.le_trans h0 (kb rfl))
theorem om7:(0:Int)<=(a:Int):=Int.natCast_nonneg a
theorem om8 (h0:b=a)(h1:b<=10000):a<=16777216:=Nat.le_trans (Nat.le_of_eq h0.symm) (Nat.le_trans h1 (kb rfl))
theorem om9 (h0:(a-(b+1))=(c+1)):(a-((b+1)+1))=c:=om2 h0
theorem om10:(Int.toNat ((a:Int)-(b:Int)))=(a-b):=Int.toNat_sub a b
theorem om11 (h0:b<a):0<a:=Nat.zero_lt_of_lt h0
theorem om30 (h0:(48<=a)∧(a<=57)):(a=48)∨((a=49)∨((a=50)∨((a=51)∨((a=52)∨((a=53)∨((a=54)∨((a=55)∨((a=56)∨(a=57))))))))):=by have h:=Nat.lt_succ_of_le h0.2;revert h0;revert h;revert a;decide+kernel
theorem om12:((a=48)∨((a=49)∨((a=50)∨((a=51)∨((a=52)∨((a=53)∨((a=54)∨((a=55)∨((a=56)∨(a=57))))))))))↔((48<=a)∧(a<=57)):=⟨fun h=>by rcases h with rfl|rfl|rfl|rfl|rfl|rfl|rfl|rfl|rfl|rfl<;>exact⟨kb rfl,kb rfl⟩,om30⟩
theorem om13 (h0:a=(b-c)):(a-1)=(b-(c+1)):=by subst_vars;exact Nat.sub_sub b c 1
theorem om15 (h0:a<c)(h1:c=b):a<b:=Nat.lt_of_lt_of_le h0 (Nat.le_of_eq h1)
theorem om16 (h0:b<=a):((a+1)-b)=((a-b)+1):=Nat.sub_add_comm h0
theorem om17:(Int.toNat ((-(1:Int))+((a:Int)+(1:Int))))=a:=by simp+arith [*]at*
theorem om18:¬((a+1)<a):=Nat.not_succ_lt_self
theorem om19 (h0:0<b)(h1:a<=(b-1)):a<b:=Nat.lt_of_le_pred h0 h1
theorem om20 (h0:a<=b):a<=b:=h0
theorem om21 (h0:(b-a)=(c+1)):a<b:=Nat.lt_of_sub_eq_succ h0
theorem om22 (h0:a<=b)(h1:¬(a<b)):a=b:=Nat.le_antisymm h0 (Nat.le_of_not_lt h1)
theorem om23 (h0:b<a):(a-(b+1))<(a-b):=Nat.sub_succ_lt_self a b h0
theorem om24 (h0:a=b)(h1:b<=5):a<=10000:=Nat.le_trans (Nat.le_of_eq h0) (Nat.le_trans h1 (kb rfl))
theorem om25:(-(a:Int))<=(b:Int):=Int.neg_natCast_le_natCast a b
theorem om26 (h0:a<=3):a<=1000:=Nat.le_trans h0 (kb rfl)
theorem om27 (h0:((min (a-b) a)-c)=(d-0))(h1:(c+b)<=a):(a-b)=(c+d):=by rw[Nat.min_eq_left (Nat.sub_le a b)]at h0;exact(Nat.sub_eq_iff_eq_add' (Nat.le_sub_of_add_le h1)).mp h0
theorem om28 (h0:a=1)(h1:b<=2000000):(a+b)<=16777216:=by subst_vars;lia
theorem om29 (h0:¬(a=34))(h1:¬(a=40))(h2:¬(a=41))(h3:¬(a=45))(h4:¬(a=47))(h5:¬(a=58))(h6:¬(a=59))(h7:¬(a=92)):¬((a=45)∨((a=47)∨((a=92)∨((a=58)∨((a=59)∨((a=34)∨((a=40)∨(a=41)))))))):=by simp+arith [*]at*
theorem om31 (h0:b<c)(h1:a=b)(h2:c<=5):a<=10000:=Nat.le_trans (Nat.le_of_eq h1) (Nat.le_trans (Nat.le_of_lt h0) (Nat.le_trans h2 (kb rfl)))
theorem om108:((a-1)+(min 1 a))=a:=by cases a with|zero=>rfl|succ n=>rw[Nat.add_sub_cancel,Nat.min_eq_left (Nat.succ_le_succ (Nat.zero_le n))]
theorem om32 (h0:a=b)(h1:b<=5):((a-1)+(min 1 a))<=10000:=Nat.le_trans (Nat.le_of_eq (om108.trans h0)) (Nat.le_trans h1 (kb rfl))
theorem om34 (h0:b<(c-a)):(a+b)<c:=Nat.add_lt_of_lt_sub' h0
theorem om36 (h0:(a:Int)<(b:Int)):a<b:=Int.ofNat_lt.mp h0
theorem om37 (h0:a<b):¬(a=(b+5)):=by grind
theorem om39 (h0:(c-b)=0)(h1:c=a):a<=b:=by subst_vars;exact Nat.le_of_sub_eq_zero h0
theorem om40 (h0:(a-b)=0):a<=b:=Nat.le_of_sub_eq_zero h0
theorem om41 (h0:a<b):(a-(b-1))=0:=Nat.sub_eq_zero_of_le (Nat.le_sub_one_of_lt h0)
theorem om42 (h0:a<c)(h1:c<=b):(a+(((b-a)-1)-(b-c)))=(c-1):=by rw[Nat.sub_sub b a 1,Nat.sub_right_comm,Nat.sub_sub_self h1,Nat.add_comm a 1,<-Nat.sub_sub,Nat.add_sub_cancel' (Nat.le_sub_one_of_lt h0)]
theorem om43 (h0:b<c)(h1:a=(c-b)):(a-1)<a:=Nat.sub_one_lt (h1▸Nat.sub_ne_zero_of_lt h0)
theorem om44 (h0:1<=b)(h1:a=b):0<a:=Nat.lt_of_lt_of_eq h0 (id (Eq.symm h1))
theorem om45 (h0:a<=10000):a<=16777216:=Nat.le_trans h0 (kb rfl)
theorem om46 (h0:a=c)(h1:b=c):a=b:=by subst_vars;exact Nat.add_zero c
theorem om47 (h0:(a+1)<=b)(h1:b<c)(h2:c<=(d+2))(h3:e<=900)(h4:d<=e):a<=9999:=Nat.le_trans (Nat.le_trans (Nat.le_of_lt (Nat.lt_trans h0 h1)) (Nat.le_trans h2 (Nat.add_le_add_right (Nat.le_trans h4 h3) 2))) (kb rfl)
theorem om48 (h0:(a+1)<=b):a<=b:=Nat.le_of_succ_le h0
theorem om49:(-((2:Int)^62))<=(a:Int):=Int.neg_ofNat_le_natCast (2^62) a
theorem om50:(((a+1)+b)-a)=(b+1):=by rw[Nat.add_assoc,Nat.add_sub_cancel_left,Nat.add_comm]
theorem om51 (h0:a<=400):a<=16777216:=Nat.le_trans h0 (kb rfl)
theorem om52 (h0:a<=((b+1)+c)):a<=(b+(c+1)):=by lia
theorem om53 (h0:0<a):((a:Int)-(1:Int))=(((a-1):Nat):Int):=(Int.ofNat_sub h0).symm
theorem om54 (h0:c<a):((a+(b+1))-c)=((a-c)+(1+b)):=Nat.add_comm b 1▸Nat.sub_add_comm (Nat.le_of_lt h0)
theorem om55 (h0:a<=b):(a+(b-a))=b:=Nat.add_sub_of_le h0
theorem om56 {a b:Int}:(Int.natAbs (a-b))<=((Int.natAbs a)+(Int.natAbs b)):=Int.natAbs_sub_le a b
theorem om57:(a+(b+1))=((a+1)+b):=Eq.symm (Nat.succ_add_eq_add_succ a b)
theorem om58 (h0:(min d (c+1))=d)(h1:b<=(c-(d-1)))(h2:a<=d):(a+b)<=((c+1)-0):=by have h:=Nat.le_trans (Nat.le_of_eq h0.symm) (Nat.min_le_right _ _);refine Nat.le_trans (Nat.add_le_add h2 h1) ?_;cases d with|zero=>rw[Nat.zero_add];exact Nat.le_succ c|succ e=>rw[Nat.add_sub_cancel,Nat.add_right_comm,Nat.add_sub_cancel' (Nat.le_of_succ_le_succ h)];exact Nat.le_refl _
theorem om59 (h0:a<b):((a+((b-a)+(1+c)))-b)=(c+1):=by rw[<-Nat.add_assoc,Nat.add_sub_cancel' (Nat.le_of_lt h0),Nat.add_sub_cancel_left,Nat.add_comm]
theorem om60 (h0:(a=32)∨(a=9))(h1:¬(a=9)):a=32:=by grind
theorem om61:((a-b)-c)=((a-c)-b):=Nat.sub_right_comm a b c
theorem om62 (h0:a=c)(h1:¬(b<c)):a<=b:=by subst_vars;exact Nat.le_of_not_lt h1
theorem om63:(Int.toNat (((((a:Int)-(b:Int))+(1:Int))-(1:Int))/(1:Int)))=(a-b):=by simp[*]
theorem om64 (h0:(c:Int)<(b:Int)):(-(a:Int))<=((b:Int)-(1:Int)):=Int.le_trans (Int.neg_nonpos_of_nonneg (Int.natCast_nonneg a)) (Int.le_sub_one_of_lt (Int.lt_of_le_of_lt (Int.natCast_nonneg c) h0))
theorem om65 (h0:(((a+1)+1)+1)=b)(h1:b<=2):False:=by subst_vars;lia
theorem om66 (h0:(c+d)=a):((a-b)-c)=(d-b):=by rw[<-h0,Nat.sub_right_comm,Nat.add_sub_cancel_left]
theorem om67 (h0:a<b)(h1:b<=802):(a:Int)<((2:Int)^63):=i63 (Nat.le_trans (Nat.le_of_lt h0) (Nat.le_trans h1 (kb rfl)))
theorem p4v (h0:b<a):(a-b)=(((a-b)-1)+1):=(Nat.sub_add_cancel (Nat.sub_pos_of_lt h0)).symm
theorem om68 (h0:a<60):(60-a)=((60-(a+1))+1):=p4v h0
theorem om69 (h0:a<30):(30-a)=((30-(a+1))+1):=p4v h0
theorem om70 {a:Int}(h0:((0:Int)<=a)∧(a<(12:Int))):a<((2:Int)^63):=Int.lt_trans h0.2 (by decide)
theorem om71 (h0:(c-a)=(d+1))(h1:c=b):a<b:=by subst_vars;exact Nat.lt_of_sub_eq_succ h0
theorem om72 {a:Int}(h0:((0:Int)<=a)∧(a<(10:Int))):a<((2:Int)^63):=Int.lt_trans h0.2 (by decide)
theorem om73 (h0:a<b)(h1:b<=1000):(a:Int)<((2:Int)^63):=i63 (Nat.le_trans (Nat.le_of_lt h0) (Nat.le_trans h1 (kb rfl)))
theorem om75 (h0:¬(b<=a)):a<=(((min b a)-(min c a))+c):=by rw[Nat.min_eq_right (Nat.le_of_not_le h0)];exact Nat.le_trans (Nat.sub_le_iff_le_add.mp (Nat.le_refl _)) (Nat.add_le_add_left (Nat.min_le_left c a) _)
theorem om76 (h0:(c+0)=a):(a-b)=(c-b):=by subst_vars;rfl
theorem om77 (h0:(a=1)∨(a=2))(h1:a=(((b+1)+1)+1)):False:=by subst_vars;lia
theorem om78 (h0:a<=3)(h1:c<=3):((a-b)+(c-b))<=10000:=Nat.le_trans (Nat.add_le_add (Nat.le_trans (Nat.sub_le a b) h0) (Nat.le_trans (Nat.sub_le c b) h1)) (kb rfl)
theorem om79 (h0:b<(d-a))(h1:d<=c):(a+b)<c:=Nat.lt_of_lt_of_le (Nat.add_lt_of_lt_sub' h0) h1
theorem om80 (h0:(a=1)∨(a=2))(h1:0=a):False:=by subst_vars;lia
theorem om81 {a:Int}(h0:(Int.natAbs a)<c)(h1:b=(c*10)):(Int.natAbs (a-(3:Int)))<b:=h1▸Nat.lt_of_le_of_lt (Int.natAbs_sub_le a 3) (Nat.lt_of_lt_of_le (Nat.add_lt_add_right h0 3) (Nat.add_comm 3 c▸Nat.add_le_add_right (Nat.le_trans (kb rfl) (Nat.le_mul_of_pos_left 9 (Nat.zero_lt_of_lt h0))) c))
theorem om82 (h0:(a+(b+1))<c):((a+1)+b)<c:=Nat.lt_of_le_of_lt (Nat.le_of_eq (Nat.succ_add_eq_add_succ a b)) h0
theorem om83 (h0:(b-a)=0)(h1:a<=b):a=b:=Nat.le_antisymm h1 (Nat.le_of_sub_eq_zero h0)
theorem om84 (h0:c<=((d-b)*101))(h1:a<=3)(h2:d<=3):(((a-b)*3)+c)<=400:=Nat.le_trans (Nat.add_le_add (Nat.mul_le_mul_right 3 (Nat.le_trans (Nat.sub_le a b) h1)) (Nat.le_trans h0 (Nat.mul_le_mul_right 101 (Nat.le_trans (Nat.sub_le d b) h2)))) (kb rfl)
theorem om85 {a:Int}(h0:((0:Int)<=a)∧(a<(12:Int)))(h1:b=12):(Int.toNat a)<b:=by simp[*]
theorem om86 (h0:a=c):(Int.toNat ((a:Int)-(b:Int)))=(c-b):=by subst_vars;exact Int.toNat_sub c b
theorem om87 (h0:b<=400)(h1:a<=b):a<=16777216:=Nat.le_trans h1 (Nat.le_trans h0 (kb rfl))
theorem om88 (h0:b<=400)(h1:a<=b):a<=10000:=Nat.le_trans h1 (Nat.le_trans h0 (kb rfl))
theorem om89 (h0:(a:Int)<(b:Int)):(a:Int)<(b:Int):=by simp+arith [*]at*
theorem om90 (h0:b<=(c+2))(h1:d<=900)(h2:c<=d)(h3:a<=b):a<=1000:=Nat.le_trans h3 (Nat.le_trans h0 (Nat.le_trans (Nat.add_le_add_right (Nat.le_trans h2 h1) 2) (kb rfl)))
theorem om91 (h0:(a+1)<=b)(h1:(b-(a+1))=0):(a+1)=b:=Nat.le_antisymm h0 (Nat.le_of_sub_eq_zero h1)
theorem om92 (h0:(b-a)=c)(h1:a<=(b-d)):a=(b-c):=h0▸(Nat.sub_sub_self (Nat.le_trans h1 (Nat.sub_le b d))).symm
theorem om93 (h0:(b-(a+1))=(c+1)):(a+1)<b:=Nat.lt_of_sub_eq_succ h0
theorem om94:(min 3 a)<=1000:=Nat.le_trans (Nat.min_le_left 3 a) (kb rfl)
theorem om95 (h0:¬(b<a)):a<=b:=Nat.le_of_not_lt h0
theorem om96 {a:Int}(h0:((0:Int)<=a)∧(a<(10:Int)))(h1:b=10):(Int.toNat a)<b:=by simp[*]
theorem om97 (h0:a<=b):a<=(b+1):=Nat.le_add_right_of_le h0
theorem om98 (h0:a<=100):a<=1000:=Nat.le_trans h0 (kb rfl)
theorem om99 (h0:(a-c)<b)(h1:b<=a):(a-b)<c:=Nat.lt_of_not_le fun h=>Nat.not_le_of_lt h0 (Nat.le_sub_of_add_le' (Nat.add_le_of_le_sub h1 h))
theorem om100 (h0:¬((5:Int)<(a:Int))):(Int.toNat ((a:Int)-(0:Int)))=(min a 5):=by lia
theorem p4m {b c:Int}(h0:((c+(1:Int))+(a:Int))<b):a<(Int.toNat ((b-c)-(1:Int))):=Int.lt_toNat.mpr (Int.lt_sub_left_of_add_lt (Int.lt_sub_left_of_add_lt (Int.add_assoc c 1 a▸h0)))
theorem om101 {a b:Int}(h0:((b+(1:Int))+(c:Int))<a):((Int.toNat ((a-b)-(1:Int)))-(c+1))<((Int.toNat ((a-b)-(1:Int)))-c):=Nat.sub_succ_lt_self _ c (p4m h0)
theorem om103 (h0:d<=(b+1))(h1:a<=(d+c)):a<=(b+(c+1)):=Nat.le_trans h1 (Nat.le_trans (Nat.add_le_add_right h0 c) (Nat.le_of_eq (Nat.succ_add_eq_add_succ b c)))
theorem om104 (h0:a=c)(h1:b=c):((a-1)+(min 1 a))=b:=om108.trans (h0.trans h1.symm)
theorem om105 (h0:(min d (c+1))=d)(h1:a<d)(h2:b<=(c-(d-1))):(a+b)<(c+1):=by cases d with|zero=>exact absurd h1 (Nat.not_lt_zero a)|succ e=>exact Nat.lt_succ_of_le (Nat.le_trans (Nat.add_le_add (Nat.le_of_lt_succ h1) h2) (Nat.le_of_eq (Nat.add_sub_cancel' (Nat.le_of_succ_le_succ (Nat.le_trans (Nat.le_of_eq h0.symm) (Nat.min_le_right _ _))))))
theorem om106 (h0:a<=(0+c)):a<=(b+(c+1)):=Nat.le_trans (Nat.le_trans h0 (Nat.le_of_eq (Nat.zero_add c))) (Nat.le_trans (Nat.le_succ c) (Nat.le_add_left _ b))
theorem om107 (h0:a<=410)(h1:c<=410):((a-b)+(c-b))<=10000:=Nat.le_trans (Nat.add_le_add (Nat.le_trans (Nat.sub_le a b) h0) (Nat.le_trans (Nat.sub_le c b) h1)) (kb rfl)
theorem p4u (h0:(a+1)<=(b+1)):a<=b:=Nat.le_of_lt_succ h0
theorem om110 (h0:a<(b+(0+1))):(a-b)=0:=Nat.sub_eq_zero_of_le (Nat.le_of_lt_succ h0)
theorem om111:((a+((b+(c+1))+1))-(b+(c+1)))=(a+1):=by rw[Nat.add_left_comm,Nat.add_sub_cancel_left]
theorem om112 (h0:(a=1)∨(a=2))(h1:a=0):False:=by simp+arith [*]at*
theorem om113 (h0:a<=(b-c)):a<=((b+1)-(c+1)):=by simp+arith [*]at*
theorem om114:(1:Int)<=((a:Int)+(1:Int)):=by simp+arith [*]at*
theorem om115 (h0:b<=1)(h1:a<=3):(a+b)<=10000:=by grind
theorem om117 (h0:a<=410)(h1:c<=410):((a-b)+(c-b))<=820:=Nat.le_trans (Nat.add_le_add (Nat.le_trans (Nat.sub_le a b) h0) (Nat.le_trans (Nat.sub_le c b) h1)) (kb rfl)
theorem om118 (h0:a<=3)(h1:c<=3):((a-b)+(c-b))<=6:=Nat.le_trans (Nat.add_le_add (Nat.le_trans (Nat.sub_le a b) h0) (Nat.le_trans (Nat.sub_le c b) h1)) (kb rfl)
theorem om119 (h0:a<=(b+2))(h1:c<=400)(h2:b<=c):a<=410:=Nat.le_trans h0 (Nat.le_trans (Nat.add_le_add_right (Nat.le_trans h2 h1) 2) (kb rfl))
theorem om120 {a:Int}(h0:(0:Int)<=a):(-((2:Int)^63))<=a:=by lia
theorem om121 (h0:(min a b)=a):a<=b:=Nat.le_trans (Nat.le_of_eq h0.symm) (Nat.min_le_right a b)
theorem om122 (h0:(b-c)<=a)(h1:c<b):a=((a-1)+1):=(Nat.sub_add_cancel (Nat.le_trans (Nat.sub_pos_of_lt h1) h0)).symm
theorem om123 (h0:(c+1)<=(b+1))(h1:(d+e)<=b)(h2:d=f)(h3:a<=((g+e)+(c+1)))(h4:g<=(f+2)):a<=((2*b)+3):=by grind
theorem p4t (h0:a<=1048576):a<=16777216:=Nat.le_trans h0 (kb rfl)
theorem om125 (h0:c<d)(h1:e=f)(h2:a<=((401*c)+1))(h3:d<=2)(h4:e<=400)(h5:b<=f):(a+b)<=100000:=Nat.le_trans (Nat.add_le_add (Nat.le_trans h2 (Nat.add_le_add_right (Nat.mul_le_mul_left 401 (Nat.le_of_lt_succ (Nat.lt_of_lt_of_le h0 h3))) 1)) (Nat.le_trans h5 (Nat.le_trans (Nat.le_of_eq h1.symm) h4))) (kb rfl)
theorem om126 (h0:(d=1)∨(d=2))(h1:e<d)(h2:b=1)(h3:a<=(1000+(1001*e)))(h4:c<=1000):(a+(b+c))<=16777216:=Nat.le_trans (Nat.add_le_add (Nat.le_trans h3 (Nat.add_le_add_left (Nat.mul_le_mul_left 1001 (dd12 h0 h1)) 1000)) (Nat.add_le_add (Nat.le_of_eq h2) h4)) (kb rfl)
theorem om127 (h0:b=c)(h1:a<=c):((a:Int)-(1:Int))<(b:Int):=Int.sub_one_lt_iff.mpr (Int.ofNat_le.mpr (Nat.le_trans h1 (Nat.le_of_eq h0.symm)))
theorem om128 (h0:(c:Int)<(b:Int))(h1:(a:Int)<(c:Int)):a<b:=by lia
theorem om129 (h0:a=b):a=b:=by omega
theorem p4s (h0:a<=1000):a<=10000:=Nat.le_trans h0 (kb rfl)
theorem om132 (h0:(a+1)<=(b+2))(h1:b<=300):a<=9999:=by lia
theorem om133 (h0:(b-c)<=a)(h1:c<=(b-d))(h2:d<=b)(h3:¬(d<a)):a=(b-c):=Nat.le_antisymm (Nat.le_trans (Nat.le_of_not_lt h3) (Nat.le_sub_of_add_le' (Nat.add_le_of_le_sub h2 h1))) h0
theorem om134 (h0:(5:Int)<(a:Int)):(Int.toNat ((5:Int)-(0:Int)))=(min a 5):=by grind
theorem om135 (h0:(a:Int)<(c:Int))(h1:¬((b:Int)<(c:Int))):a<b:=by lia
theorem om136 (h0:a<=(401*b)):a<=(401*(b+1)):=Nat.le_trans h0 (Nat.le_add_right _ 401)
theorem om137:a<=((2*a)+3):=by simp+arith [*]at*
theorem p4r (h0:¬(b<=a)):a<=b:=Nat.le_of_not_ge h0
theorem om139 (h0:(a-1)<b):a<=b:=Nat.le_of_pred_lt h0
theorem om140 (h0:(a+(b+1))<c):(a+b)<c:=Nat.lt_of_succ_lt h0
theorem om141 (h0:(min 7 (b-a))=7):(a+7)<=b:=Nat.lt_sub_iff_add_lt'.mp (Nat.le_trans (Nat.le_of_eq h0.symm) (Nat.min_le_right _ _))
theorem om142 (h0:a<c)(h1:b=c):(a+1)<=b:=le_of_le_of_eq h0 (id (Eq.symm h1))
theorem om143 (h0:e=f)(h1:a<=(401*d))(h2:b<=1)(h3:e<=400)(h4:c<=f):(a+(b+c))<=(401*(d+1)):=Nat.le_trans (Nat.add_le_add h1 (Nat.add_le_add h2 (Nat.le_trans h4 (Nat.le_trans (Nat.le_of_eq h0.symm) h3)))) (Nat.le_refl (401*(d+1)))
theorem om144 (h0:a<b)(h1:b<=a):False:=by lia
theorem om145 (h0:b=e)(h1:a=d)(h2:b<=a):(((a:Int)-(b:Int))+(c:Int))=((((d-e)+c):Nat):Int):=by subst h0 h1;exact congrArg (· +(c:Int)) (Int.ofNat_sub h2).symm
theorem om146 {a:Int}:(Int.toNat (max (0:Int) (min a (b:Int))))<=b:=Int.toNat_le.mpr (Int.max_le.mpr ⟨Int.natCast_nonneg b,Int.min_le_right a b⟩)
theorem om148 (h0:a<=1000):a<=1000000:=Nat.le_trans h0 (kb rfl)
theorem p4q (h0:a<=900):a<=10000:=Nat.le_trans h0 (kb rfl)
theorem om150:(((a+(b+1))-b)+b)=(a+(b+1)):=by simp+arith [*]at*
theorem om151 (h0:(b-a)=(c+1)):(a+1)<=b:=Nat.lt_of_sub_eq_succ h0
theorem p4p (h0:a<=100):a<=200:=Nat.le_trans h0 (kb rfl)
theorem om153 (h0:b<=900)(h1:a<=b):a<=1000:=Nat.le_trans h1 (Nat.le_trans h0 (kb rfl))
theorem om154:(Int.toNat ((a:Int)+((1:Int)*(b:Int))))=(a+b):=by rw[Int.one_mul];rfl
theorem om155 (h0:(b-a)=c)(h1:b<=c)(h2:¬(c=0)):a=0:=Nat.eq_zero_of_not_pos fun h=>Nat.not_le_of_lt (Nat.lt_of_le_of_lt (Nat.le_of_eq h0.symm) (Nat.sub_lt (Nat.lt_of_lt_of_le (Nat.pos_of_ne_zero h2) (Nat.le_trans (Nat.le_of_eq h0.symm) (Nat.sub_le b a))) h)) h1
theorem om156 (h0:(a-b)<=(c+1)):(a-(b+1))<=c:=Nat.le_trans (Nat.le_of_eq (Nat.sub_add_eq a b 1)) (Nat.sub_le_of_le_add h0)
theorem om157 {a b:Int}(h0:(Int.natAbs a)<d)(h1:(Int.natAbs b)<=10)(h2:(e+10)<c)(h3:d<=e):(Int.natAbs (a-b))<c:=Nat.lt_of_le_of_lt (Int.natAbs_sub_le a b) (Nat.lt_of_le_of_lt (Nat.add_le_add (Nat.le_trans (Nat.le_of_lt h0) h3) h1) h2)
theorem p4o (h0:a<=900):a<=1000:=Nat.le_trans h0 (kb rfl)
theorem om159 (h0:(a-b)<=(c+1)):(a-(b+7))<=c:=Nat.le_trans (Nat.sub_le_sub_left (Nat.add_le_add_left (kb rfl) b) a) (om156 h0)
theorem om160 (h0:(Int.toNat ((b:Int)-(c:Int)))=(d-c))(h1:a<=(d-c))(h2:e<=1000)(h3:b<=e):a<=9999:=Nat.le_trans h1 (Nat.le_trans (Nat.le_of_eq (h0.symm.trans (Int.toNat_sub b c))) (Nat.le_trans (Nat.sub_le b c) (Nat.le_trans h3 (Nat.le_trans h2 (kb rfl)))))
theorem om161 (h0:a<(c+(0+1)))(h1:c=d)(h2:b=d)(h3:c<=a):a=b:=by subst_vars;exact Nat.eq_of_le_of_lt_succ h3 h0
theorem om162 (h0:b=(a+(c+1))):((a+1)-b)=0:=by simp[*]
theorem om163 (h0:b<=(c*101))(h1:a<=(b+d))(h2:c<=3)(h3:d<=400):(a+1)<=900:=Nat.le_trans (Nat.succ_le_succ (Nat.le_trans h1 (Nat.add_le_add (Nat.le_trans h0 (Nat.mul_le_mul_right 101 h2)) h3))) (kb rfl)
theorem om164 (h0:b=(a+(c+1))):(a-b)=0:=by subst_vars;exact Nat.sub_self_add a (c+1)
theorem om166:(Int.toNat ((((((a+1)+b):Nat):Int)-(a:Int))-(1:Int)))=b:=by simp+arith [*]at*
theorem om167 (h0:a<=((c+d)+1))(h1:c<=(1000+(1001*b)))(h2:d<=1000):a<=(1000+(1001*(b+1))):=Nat.le_trans h0 (Nat.le_trans (Nat.add_le_add_right (Nat.add_le_add h1 h2) 1) (Nat.le_of_eq (Nat.add_assoc 1000 (1001*b) 1001)))
theorem om168 (h0:a<b):(a+1)<=b:=Nat.succ_le_of_lt h0
theorem om169 (h0:(a+1)<=b)(h1:b<c)(h2:c<=(d+2))(h3:e<=900)(h4:d<=e):a<=10000:=Nat.le_succ_of_le (om47 h0 h1 h2 h3 h4)
theorem om170:a<=((a+b)+c):=by simp+arith [*]at*
theorem p4n (h0:(a+1)<=0):False:=Nat.not_succ_le_zero a h0
theorem om172 (h0:((c:Int)<(a:Int))∧((d=32)∨(d=9)))(h1:b=a):(a-1)<b:=Nat.lt_of_lt_of_eq (Nat.sub_one_lt (Nat.ne_of_gt (Nat.zero_lt_of_lt (Int.ofNat_lt.mp h0.1)))) h1.symm
theorem om173 {b c:Int}(h0:((c+(1:Int))+(a:Int))<b):(a+1)<=(Int.toNat ((b-c)-(1:Int))):=p4m h0
theorem om174 (h0:(c+d)<=98)(h1:c=e)(h2:d=b)(h3:a<=(0+(e+1))):(a+(b+1))<=100:=by subst h1 h2;rw[Nat.zero_add]at h3;exact Nat.le_trans (Nat.add_le_add_right h3 (d+1)) (by rw[Nat.add_add_add_comm];exact Nat.add_le_add_right h0 2)
theorem om175 (h0:b<=a):(0:Int)<=((a:Int)-(b:Int)):=by simp+arith [*]at*
theorem om177 (h0:a<c)(h1:c<=b):a<=(b-1):=Nat.le_sub_one_of_lt (Nat.lt_of_lt_of_le h0 h1)
theorem om178 (h0:(a<b) ->(¬(c=46)))(h1:a<d)(h2:c=46)(h3:b=d):False:=by simp+arith [*]at*
theorem om179 (h0:a<b)(h1:c=b)(h2:c<=a):False:=by subst_vars;lia
theorem om180 (h0:¬((b:Int)<(a:Int))):(Int.toNat (0:Int))=(a-b):=by simp_all
theorem om182 (h0:(b=1)∨(b=2))(h1:c<b)(h2:a<=(1000+(1001*c))):a<=16777216:=Nat.le_trans h2 (Nat.le_trans (Nat.add_le_add_left (Nat.mul_le_mul_left 1001 (dd12 h0 h1)) 1000) (kb rfl))
theorem om183 (h0:(a-1)<b):(a-1)<=b:=Nat.le_of_lt h0
theorem om184 (h0:(a+(d+1))=c)(h1:b<=(d+1)):((a+1)+(b-1))<=c:=h0▸Nat.le_trans (Nat.add_le_add_left (Nat.sub_le_of_le_add h1) (a+1)) (Nat.le_of_eq (Nat.succ_add_eq_add_succ a d))
theorem om185:a<=(a+2):=Nat.le_add_right a 2
theorem om186:a<=(a+3):=Nat.le_add_right a 3
theorem om187:a<=(a+1):=Nat.le_add_right a 1
theorem om188 (h0:b<c)(h1:c<=(d+2))(h2:e<=900)(h3:d<=e)(h4:a<=b):a<=10000:=Nat.le_trans h4 (Nat.le_trans (Nat.le_of_lt h0) (Nat.le_trans h1 (Nat.le_trans (Nat.add_le_add_right (Nat.le_trans h3 h2) 2) (kb rfl))))
theorem om189 (h0:(b+7)<=a):(a-(b+7))<(a-b):=Nat.sub_lt_sub_left (Nat.lt_of_lt_of_le (Nat.lt_add_of_pos_right (kb rfl)) h0) (Nat.lt_add_of_pos_right (kb rfl))
theorem om190 (h0:b<=(5*(c+1)))(h1:a<=4):((a+1)+b)<=(5*((c+1)+1)):=Nat.le_trans (Nat.add_le_add (Nat.succ_le_succ h1) h0) (Nat.le_of_eq (Nat.add_comm 5 (5*(c+1))))
theorem om191 {c d:Int}(h0:a<(Int.toNat ((c-d)-(1:Int))))(h1:¬(((d+(1:Int))+(b:Int))<c)):a<b:=Int.ofNat_lt.mp (Int.lt_of_lt_of_le (Int.lt_toNat.mp h0) (Int.sub_left_le_of_le_add (Int.sub_left_le_of_le_add (Int.add_assoc d 1 b▸Int.not_lt.mp h1))))
theorem om192 (h0:b<=(d+(2*e)))(h1:a<=(c+2)):(a+b)<=((c+d)+(2*(e+1))):=Nat.le_trans (Nat.add_le_add h1 h0) (Nat.le_of_eq ((Nat.add_add_add_comm c 2 d (2*e)).trans (congrArg (c+d+ ·) (Nat.add_comm 2 (2*e)))))
theorem om193 (h0:(a+1)<b):(a+1)<b:=h0
theorem om195:((a+(b+1))-b)=(a+1):=by rw[Nat.add_left_comm,Nat.add_sub_cancel_left]
theorem om196 (h0:(Int.toNat ((c:Int)-(b:Int)))=(a-b))(h1:d<=1000)(h2:c<=d):(a-b)<=10000:=Nat.le_trans (Nat.le_of_eq h0.symm) (Nat.le_trans (Nat.le_of_eq (Int.toNat_sub c b)) (Nat.le_trans (Nat.sub_le c b) (Nat.le_trans h2 (Nat.le_trans h1 (kb rfl)))))
theorem om197 (h0:a<b):(a+1)<(b+1):=Nat.add_lt_add_right h0 1
theorem om198 (h0:b<=1000)(h1:a<=b):a<=1000:=Nat.le_trans h1 h0
theorem om199 (h0:1<=b):(a+b)=((a+1)+(b-1)):=by simp+arith [*]at*
theorem om200:a<=(b+((a-b)+(1+c))):=Nat.sub_le_iff_le_add'.mp (Nat.le_add_right _ _)
theorem om201 (h0:(a-c)=0)(h1:c<d)(h2:b=d):a<b:=Nat.lt_of_le_of_lt (Nat.le_of_sub_eq_zero h0) (Nat.lt_of_lt_of_eq h1 h2.symm)
theorem om202 (h0:e<=(c+d))(h1:b<=3)(h2:a<=e):(a+(2*b))<=((c+d)+6):=Nat.add_le_add (Nat.le_trans h2 h0) (Nat.mul_le_mul_left 2 h1)
theorem om203 (h0:a<=(b+1))(h1:b<=100):(1+(a-1))<=10000:=Nat.le_trans (Nat.add_le_add_left (Nat.le_trans (Nat.sub_le a 1) (Nat.le_trans h0 (Nat.succ_le_succ h1))) 1) (kb rfl)
theorem om204 (h0:b<c)(h1:c<=a):(a-1)<a:=Nat.sub_one_lt (Nat.ne_of_gt (Nat.lt_of_lt_of_le (Nat.zero_lt_of_lt h0) h1))
theorem om205 (h0:a<=(b+1))(h1:b<=100):((a-1)+1)<=1000:=Nat.le_trans (Nat.succ_le_succ (Nat.le_trans (Nat.sub_le a 1) (Nat.le_trans h0 (Nat.succ_le_succ h1)))) (kb rfl)
theorem om206 (h0:b=(c+(a+1))):(0<a) ->(b=((c+1)+a)):=by simp+arith [*]at*
theorem om207 (h0:(b*1000)<=(1000*1000))(h1:c<=(1000*10))(h2:d<=(b*1000))(h3:a<=(d+c)):a<=2000000:=Nat.le_trans h3 (Nat.le_trans (Nat.add_le_add (Nat.le_trans h2 h0) h1) (kb rfl))
theorem om208:a<=((a+1)+b):=by simp+arith [*]at*
theorem om209 (h0:a<=1001):(min a b)<=10000:=Nat.le_trans (Nat.min_le_left a b) (Nat.le_trans h0 (kb rfl))
theorem om211 (h0:a<(b*10)):(a/10)<b:=Nat.div_lt_of_lt_mul (Nat.mul_comm b 10▸h0)
theorem om212 (h0:c=a)(h1:b<=(d+(e+1))):((a+(0+1))+b)<=((c+d)+((e+1)+1)):=by subst_vars;lia
theorem om215 (h0:a<=4):a<=1000:=Nat.le_trans h0 (kb rfl)
theorem om216 (h0:¬(c<=b)):(min a b)<=(min c b):=Nat.le_min.mpr ⟨Nat.le_trans (Nat.min_le_right a b) (Nat.le_of_not_le h0),Nat.min_le_right a b⟩
theorem om217 (h0:b<=((2*c)+3))(h1:c<=21)(h2:a<=7):(a+b)<=98:=Nat.le_trans (Nat.add_le_add h2 (Nat.le_trans h0 (Nat.add_le_add_right (Nat.mul_le_mul_left 2 h1) 3))) (kb rfl)
theorem om218 (h0:(b-c)=0)(h1:c<=a):¬(a<b):=Nat.not_lt_of_le (Nat.le_trans (Nat.le_of_sub_eq_zero h0) h1)
theorem om219 (h0:d<=((b+c)+6))(h1:a<=(d+e))(h2:e<=3):a<=((b+c)+9):=Nat.le_trans h1 (show _<=b+c+6+3 from Nat.add_le_add h0 h2)
theorem om221 (h0:b<a):a=((a-1)+1):=(Nat.sub_add_cancel (Nat.zero_lt_of_lt h0)).symm
theorem om222 (h0:(min 1 a)=1)(h1:b=a)(h2:b<=(a-1)):False:=Nat.not_le_of_lt (Nat.sub_one_lt (Nat.ne_of_gt (Nat.le_trans (Nat.le_of_eq h0.symm) (Nat.min_le_right 1 a)))) (Nat.le_trans (Nat.le_of_eq h1.symm) h2)
theorem om224:((min 200 a)-0)<=200:=Nat.min_le_left 200 a
theorem om225 (h0:b<=400)(h1:a<=b):a<=400:=Nat.le_trans h1 h0
theorem om226 (h0:c<b)(h1:b<=a):(a-b)<(a-c):=Nat.sub_lt_sub_left (Nat.lt_of_lt_of_le h0 h1) h0
theorem om227 (h0:(a:Int)<(((c-d):Nat):Int))(h1:b=c):(a:Int)<(b:Int):=Int.ofNat_lt.mpr (Nat.lt_of_lt_of_le (Int.ofNat_lt.mp h0) (Nat.le_trans (Nat.sub_le c d) (Nat.le_of_eq h1.symm)))
theorem om228:(0<(a-1)) ->((b+a)=((b+1)+(a-1))):=fun h=>by rw[Nat.add_assoc,Nat.add_comm 1,Nat.sub_add_cancel (Nat.le_of_lt (Nat.lt_of_sub_pos h))]
theorem om229 (h0:c<=(b+1))(h1:a<=(d+c))(h2:d<=b):a<=((2*b)+3):=Nat.le_trans h1 (Nat.le_trans (Nat.add_le_add h2 h0) ((Nat.two_mul b).symm▸Nat.add_le_add_left (kb rfl:1<=3) (b+b)))
theorem om230 (h0:a<(b-c)):a<b:=Nat.lt_of_lt_of_le h0 (Nat.sub_le b c)
theorem om232 (h0:(a+(b+1))<=c):((a+1)+b)<=c:=by lia
theorem om234 (h0:a=0):(a:Int)=(0:Int):=Int.ofNat_eq_zero.mpr h0
theorem om235 (h0:(a:Int)<(((b-c):Nat):Int)):a<b:=Nat.lt_of_lt_of_le (Int.ofNat_lt.mp h0) (Nat.sub_le b c)
theorem om236 (h0:b<=(c+2))(h1:c<=900)(h2:a<=b):a<=1000:=by lia
theorem om237 (h0:(97<=b)∧(b<=122))(h1:(b-87)=a):¬(a<10):=fun h=>Nat.not_le_of_lt h (h1▸Nat.sub_le_sub_right h0.1 87)
theorem om238 (h0:(65<=b)∧(b<=90))(h1:(b-55)=a):¬(a<10):=fun h=>Nat.not_le_of_lt h (h1▸Nat.sub_le_sub_right h0.1 55)
theorem om239 {a:Int}(h0:((0:Int)<=a)∧(a<(6:Int))):(Int.toNat a)<6:=by simp[*]
theorem om240 (h0:b<=10000):(min a b)<=16777216:=Nat.le_trans (Nat.min_le_right a b) (Nat.le_trans h0 (kb rfl))
theorem om241 (h0:a<b):a<b:=h0
theorem om243 (h0:a<b):(a+(b-a))=b:=Nat.add_sub_cancel' (Nat.le_of_lt h0)
theorem om244 (h0:(b*400)<=(2*400))(h1:c<=(b*400))(h2:a<=(c+(b*1))):a<=1000:=Nat.le_trans h2 (Nat.le_trans (Nat.add_le_add (Nat.le_trans h1 h0) (Nat.mul_le_mul_right 1 (Nat.le_of_mul_le_mul_right h0 (kb rfl)))) (kb rfl))
theorem om245 (h0:a<=410):a<=1000:=Nat.le_trans h0 (kb rfl)
theorem om246 (h0:(b+c)<=16777216)(h1:d<c)(h2:a<=(b+d)):(a+1)<=(16777216+1):=Nat.succ_le_succ (Nat.le_trans h2 (Nat.le_trans (Nat.add_le_add_left (Nat.le_of_lt h1) b) h0))
theorem om247 (h0:a<=b):((a+1)-7)<=b:=Nat.sub_le_of_le_add (Nat.succ_le_succ (Nat.le_trans h0 (Nat.le_add_right b 6)))
theorem om248 (h0:b=(c+(a+1))):(a=0) ->(b<=(c+1)):=by simp+arith [*]at*
theorem om249:(Int.toNat ((a:Int)+(7:Int)))=(a+7):=by rfl
theorem om250:a<=((a+1)+1):=by simp+arith [*]at*
theorem om251 (h0:b=a)(h1:b<=10000):(a:Int)<(9223372036854775808:Int):=by subst_vars;lia
theorem om252 (h0:b<=(c*101))(h1:a<=100):((a+1)+b)<=((c+1)*101):=Nat.le_trans (Nat.add_le_add (Nat.succ_le_succ h1) h0) (Nat.le_of_eq ((Nat.add_comm 101 (c*101)).trans (Nat.succ_mul c 101).symm))
theorem om253 (h0:(a-c)=b)(h1:a<=b):a=b:=Nat.le_antisymm h1 (h0▸Nat.sub_le a c)
theorem om254 (h0:a<c)(h1:c=d)(h2:b=d):a<b:=Nat.lt_of_lt_of_le h0 (Nat.le_trans (Nat.le_of_eq h1) (Nat.le_of_eq h2.symm))
theorem om255 (h0:(48<=b)∧(b<=57))(h1:(b-48)=a):a<=9:=h1▸Nat.sub_le_sub_right h0.2 48
theorem om256 (h0:a<=(b-c)):a<=b:=Nat.le_trans h0 (Nat.sub_le b c)
theorem om257 {a b:Int}(h0:(Int.toNat (a-b))=c)(h1:b<a):(a-b)=(c:Int):=h0▸(Int.toNat_of_nonneg (Int.sub_nonneg_of_le (Int.le_of_lt h1))).symm
theorem om258:(min ((a+1)+b) c)<=((a+1)+b):=Nat.min_le_left (a+1+b) c
theorem om259 (h0:¬(b<=a)):a<=((b-c)+c):=Nat.le_trans (Nat.le_of_not_le h0) (Nat.sub_le_iff_le_add.mp (Nat.le_refl _))
theorem om260 (h0:(a+b)<=16777216):(a+b)<=16777216:=h0
theorem om261 (h0:(c*1000)<=(1000*1000))(h1:b<=(1000*10))(h2:a<=(c*1000)):(a+b)<=2000000:=Nat.le_trans (Nat.add_le_add (Nat.le_trans h2 h0) h1) (kb rfl)
theorem om262 (h0:(c*1000)<=(1000*1000))(h1:b<=(1000*10))(h2:a<=(c*1000)):(a+b)<=16777216:=Nat.le_trans (Nat.add_le_add (Nat.le_trans h2 h0) h1) (kb rfl)
theorem om264 (h0:a<b):(Int.natAbs (-(a:Int)))<b:=by simp[*]
theorem om265:a<=a:=Nat.le_refl a
theorem om266 (h0:¬(b<(a-c))):a<=(b+c):=by simp_all
theorem om267 (h0:b<=(c*101))(h1:c<=3)(h2:a<=b):(a+1)<=900:=Nat.le_trans (Nat.succ_le_succ (Nat.le_trans h2 (Nat.le_trans h0 (Nat.mul_le_mul_right 101 h1)))) (kb rfl)
theorem om268 (h0:b<(c-a)):(a+b)<=c:=Nat.le_of_lt (Nat.add_lt_of_lt_sub' h0)
theorem om269 (h0:b<=1)(h1:c<=d):(a+(b+c))<=(a+(d+1)):=Nat.add_le_add_left (Nat.le_trans (Nat.add_le_add h0 h1) (Nat.le_of_eq (Nat.add_comm 1 d))) a
theorem om270 {a:Int}(h0:(Int.natAbs a)<c)(h1:b=(c*10)):(Int.natAbs a)<b:=h1▸Nat.lt_of_lt_of_le h0 (Nat.le_mul_of_pos_right c (kb rfl))
theorem om271 (h0:a<=100):a<=16777216:=Nat.le_trans h0 (kb rfl)
theorem om272 (h0:b=c)(h1:a<=(c+1))(h2:d<=1000)(h3:b<=d):a<=1001:=Nat.le_trans h1 (Nat.succ_le_succ (Nat.le_trans (Nat.le_of_eq h0.symm) (Nat.le_trans h3 h2)))
theorem om273 (h0:b<=(7*c))(h1:a<=7):(a+b)<=(7*(c+1)):=Nat.le_trans (Nat.add_le_add h1 h0) (Nat.le_of_eq (Nat.add_comm 7 (7*c)))
theorem om274 (h0:b<=(c*101))(h1:c<=3)(h2:a<=b):(a+1)<=304:=Nat.le_trans (Nat.succ_le_succ (Nat.le_trans h2 (Nat.le_trans h0 (Nat.mul_le_mul_right 101 h1)))) (kb rfl)
theorem om275 (h0:b<=(2*c))(h1:a<=2):(a+b)<=(2*(c+1)):=Nat.le_trans (Nat.add_le_add h1 h0) (Nat.le_of_eq (Nat.add_comm 2 (2*c)))
theorem om276 (h0:¬(b<(c-a))):¬((a+b)<c):=fun h=>h0 (Nat.lt_sub_iff_add_lt'.mpr h)
theorem om277 (h0:(b+c)<=16777216)(h1:d<c)(h2:a<=(b+d)):a<=16777216:=by grind
theorem om278 (h0:a=(min b c)):a<=b:=by subst_vars;exact Nat.min_le_left b c
theorem om279 (h0:(a+b)<=c)(h1:c<d)(h2:d<=802):a<=10000:=Nat.le_trans (Nat.le_trans (Nat.le_add_right a b) h0) (Nat.le_trans (Nat.le_of_lt h1) (Nat.le_trans h2 (kb rfl)))
theorem om280 (h0:a<=1001):(1+(a-1))<=10000:=Nat.le_trans (Nat.add_le_add_left (Nat.le_trans (Nat.sub_le a 1) h0) 1) (kb rfl)
theorem om281:((a-1)=0) ->((b+a)<=(b+1)):=fun h=>Nat.add_le_add_left (Nat.le_of_sub_eq_zero h) b
theorem om282 (h0:b<c)(h1:a<=(401*b))(h2:c<=2):a<=10000:=Nat.le_trans h1 (Nat.le_trans (Nat.mul_le_mul_left 401 (Nat.le_trans (Nat.le_of_lt h0) h2)) (kb rfl))
theorem om283 (h0:0<a):(0+1)<=a:=Nat.succ_le_of_lt h0
theorem om284 (h0:a<b):(a:Int)<(b:Int):=Int.ofNat_lt.mpr h0
theorem om286 (h0:(a-b)=0)(h1:b<=a):a=b:=Nat.le_antisymm (Nat.le_of_sub_eq_zero h0) h1
theorem om287 (h0:1<=b):((a+1)-(a+b))=0:=by simp+arith [*]at*
theorem om288 (h0:((b:Int)<(a:Int))∧((c=32)∨(c=9))):0<a:=Nat.zero_lt_of_lt (Int.ofNat_lt.mp h0.1)
theorem om289 (h0:a<=400):a<=1000000:=Nat.le_trans h0 (kb rfl)
theorem om291 (h0:b<c):((a+1)+b)<=(a+((c+(d+1))+1)):=by rw[Nat.add_assoc];exact Nat.add_le_add_left (Nat.le_trans (Nat.add_comm b 1▸h0) (Nat.le_trans (Nat.le_add_right c (d+1)) (Nat.le_succ _))) a
theorem om292 (h0:(c+a)=b):a<=(b-c):=Nat.le_sub_of_add_le' (Nat.le_of_eq h0)
theorem om293 (h0:a<=((b+c)+9))(h1:c<=14)(h2:b<=35):a<=58:=Nat.le_trans h0 (Nat.add_le_add_right (Nat.add_le_add h2 h1) 9)
theorem om294 (h0:a<c)(h1:b<=9):((10*a)+b)<(c*10):=Nat.mul_comm 10 c▸Nat.lt_of_lt_of_le (Nat.add_lt_add_left (Nat.lt_succ_of_le h1) (10*a)) (Nat.mul_le_mul_left 10 h0)
theorem om295 (h0:(a+b)<=c)(h1:c=d)(h2:d<=802):a<=900:=Nat.le_trans (Nat.le_trans (Nat.le_add_right a b) h0) (Nat.le_trans (Nat.le_of_eq h1) (Nat.le_trans h2 (kb rfl)))
theorem om296 (h0:(b*400)<=(2*400))(h1:a<=(b*400)):¬((2^24)<(a+(b*1))):=Nat.not_lt_of_le (Nat.le_trans (Nat.add_le_add (Nat.le_trans h1 h0) (Nat.mul_le_mul_right 1 (Nat.le_of_mul_le_mul_right h0 (kb rfl)))) (kb rfl))
theorem om298 (h0:a<=((2*b)+3))(h1:b<=21):a<=400:=Nat.le_trans h0 (Nat.le_trans (Nat.add_le_add_right (Nat.mul_le_mul_left 2 h1) 3) (kb rfl))
theorem om299 {b c:Int}(h0:(Int.toNat (b-c))=a)(h1:¬(c<b)):(0:Int)=(a:Int):=by subst_vars;lia
theorem om304:(min a b)<=(b+c):=Nat.le_trans (Nat.min_le_right a b) (Nat.le_add_right b c)
theorem om305 (h0:a<=210):a<=10000:=Nat.le_trans h0 (kb rfl)
theorem om306 (h0:a=b)(h1:b<=5):a<=1000:=Nat.le_trans (Nat.le_of_eq h0) (Nat.le_trans h1 (kb rfl))
theorem om307 (h0:a<b):(Int.natAbs (a:Int))<b:=by simp+arith [*]at*
theorem om308 (h0:b=c)(h1:d<=a)(h2:¬(d<c)):¬(a<b):=fun h=>h2 (Nat.lt_of_le_of_lt h1 (Nat.lt_of_lt_of_eq h h0))
theorem om309 (h0:a<=400):a<=400:=h0
theorem om310 (h0:¬(c<=b)):(min a b)<=c:=Nat.le_trans (Nat.min_le_right a b) (Nat.le_of_not_le h0)
theorem om311 (h0:a<=900):a<=16777216:=Nat.le_trans h0 (kb rfl)
theorem om312 (h0:a<=210):a<=210:=h0
theorem om313 (h0:(a+0)<b):a<b:=by omega
theorem om315 (h0:c<d)(h1:a=c)(h2:d<=b):(a+1)<=(b+1):=by subst_vars;lia
theorem om316 (h0:a<=60):a<=10000:=Nat.le_trans h0 (kb rfl)
theorem om317 (h0:a=b)(h1:b<=5):a<=900:=Nat.le_trans (Nat.le_of_eq h0) (Nat.le_trans h1 (kb rfl))
theorem om318 (h0:a=(min b 5)):a<=10000:=h0▸Nat.le_trans (Nat.min_le_right b 5) (kb rfl)
theorem om320 (h0:a<=300):a<=10000:=Nat.le_trans h0 (kb rfl)
theorem om321 (h0:a=(min b 5)):a<=5:=by subst_vars;exact Nat.min_le_right b 5
theorem om322 (h0:(b-c)=(d+1))(h1:a=e)(h2:¬(c<e)):a<b:=Nat.lt_of_le_of_lt (Nat.le_trans (Nat.le_of_eq h1) (Nat.le_of_not_lt h2)) (Nat.lt_of_sub_eq_succ h0)
theorem om323 (h0:((a-b)=0)∧(c<=b)):a<=b:=Nat.le_of_sub_eq_zero h0.1
theorem om324 (h0:a=1)(h1:b<=(c+1)):(a+b)<=(c+2):=by simp+arith [*]at*
theorem om325 (h0:a<=((b+1)+(c+1))):a<=(((b+1)+1)+c):=Nat.le_trans h0 (Nat.le_of_eq (Nat.succ_add_eq_add_succ (b+1) c).symm)
theorem om326 (h0:b<c)(h1:c<=802)(h2:a<=b):a<=10000:=Nat.le_trans h2 (Nat.le_trans (Nat.le_of_lt h0) (Nat.le_trans h1 (kb rfl)))
theorem om327 (h0:a<=1000000):a<=16777216:=Nat.le_trans h0 (kb rfl)
theorem om328 (h0:b<c)(h1:a<=(b+1))(h2:c<=1000):a<=10000:=by lia
theorem om329 (h0:b<c)(h1:a<=(b+1))(h2:c<=1000):a<=9999:=Nat.le_trans h1 (Nat.le_trans h0 (Nat.le_trans h2 (kb rfl)))
theorem om330 (h0:b<=c):(a+(b+1))<=((c+1)+a):=by simp+arith [*]at*
theorem om331 (h0:b=c)(h1:d<=1000)(h2:b<=d)(h3:a<=c):(a:Int)<((2:Int)^62):=i62 (Nat.le_trans h3 (Nat.le_trans (Nat.le_of_eq h0.symm) (Nat.le_trans h2 (Nat.le_trans h1 (kb rfl)))))
theorem om332:(-(1:Int))<(a:Int):=Rat.intCast_lt_intCast.mp rfl
theorem om334 (h0:((a:Int)<(b:Int))∧((c=32)∨(c=9))):a<b:=by simp_all
theorem om335 (h0:b=c)(h1:d<=a)(h2:c<=d):¬(a<b):=by subst_vars;lia
theorem om336 (h0:(48<=a)∧(a<=57)):(a-48)<10:=by simp+arith [*]at*
theorem om337 (h0:b<=c):((a+1)+b)<=(a+(c+1)):=by simp+arith [*]at*
theorem om338 {a:Int}(h0:(0:Int)<a):(0:Int)<=a:=Int.le_of_lt h0
theorem om340 (h0:c=b)(h1:a<=c)(h2:c<=a):a=b:=by subst_vars;exact Nat.le_antisymm h1 h2
theorem om342 (h0:(a+(d+1))=c)(h1:b<=(d+1)):(a+b)<=c:=by subst_vars;exact Nat.add_le_add_iff_left.mpr h1
theorem om343 (h0:48<=b)(h1:b=a)(h2:b<=57):(48<=a)∧(a<=57):=by subst_vars;exact⟨h0,h2⟩
theorem om344 (h0:a<=(5*b))(h1:b<=3):a<=15:=Nat.le_trans h0 (Nat.mul_le_mul_left 5 h1)
theorem om345 (h0:a<=16777216):¬(((2:Int)^63)<=(a:Int)):=by lia
theorem om346 (h0:a<=b):(0=0) ->(a<=(b+1)):=by lia
theorem om347 (h0:b=a)(h1:b<=99):(0+(a+1))<=100:=by simp_all
theorem om348 (h0:b=a):a<=((b+c)+d):=by simp+arith [*]at*
theorem om349 (h0:b=c)(h1:a<=(c+2))(h2:b<=190):a<=1000:=Nat.le_trans h1 (Nat.le_trans (Nat.add_le_add_right (Nat.le_trans (Nat.le_of_eq h0.symm) h2) 2) (kb rfl))
theorem om350 (h0:(c+d)<=100000)(h1:c=a)(h2:b=d):(a+b)<=16777216:=by subst_vars;lia
theorem om351 (h0:b=c)(h1:a<=(0+c)):(a+1)<=(b+1):=by simp_all
theorem om353:(((10:Int)*(a:Int))+(((b-48):Nat):Int))=((((10*a)+(b-48)):Nat):Int):=by rfl
theorem om354 (h0:a=b)(h1:c<=410)(h2:b<=c):a<=1000000:=Nat.le_trans (Nat.le_of_eq h0) (Nat.le_trans h2 (Nat.le_trans h1 (kb rfl)))
theorem om355 (h0:(c+d)<=10000)(h1:c=a)(h2:d=b):(a+b)<=16777216:=by subst_vars;lia
theorem om357 (h0:b<1000)(h1:a<=b):(a+1)<=16777216:=by lia
theorem om358 (h0:(a+1)<=(b+2))(h1:b<=300):a<=999:=by lia
theorem om359 (h0:a<=(b+2))(h1:b<=300):(a+(0+1))<=400:=Nat.le_trans (Nat.succ_le_succ (Nat.le_trans h0 (Nat.add_le_add_right h1 2))) (kb rfl)
theorem om360 (h0:a<=(b+2))(h1:b<=900):a<=10000:=by lia
theorem om361 (h0:(a+(b+1))=1)(h1:¬(b=0)):False:=by simp+arith [*]at*
theorem om362 (h0:a<=3):((a:Int)-(b:Int))<=(10000:Int):=by grind
theorem om363 (h0:a<=d)(h1:b<=c):(a+b)<=(c+d):=Nat.le_trans (Nat.add_le_add h0 h1) (Nat.le_of_eq (Nat.add_comm d c))
theorem om364 (h0:b<=900)(h1:c<=b)(h2:a<=c):a<=16777216:=Nat.le_trans h2 (Nat.le_trans h1 (Nat.le_trans h0 (kb rfl)))
theorem om366 {a:Int}:(((a+(1:Int))+(b:Int))+(1:Int))=((a+(1:Int))+(((b+1):Nat):Int)):=by simp+arith [*]at*
theorem om367:¬((a:Int)<(0:Int)):=Int.not_ofNat_neg a
theorem om369 (h0:d<=(b+c))(h1:a<=d):a<=((b+c)+6):=Nat.le_trans (Nat.le_trans h1 h0) (Nat.le_add_right _ 6)
theorem om370 (h0:c<d)(h1:a=c)(h2:d<=b):a<=b:=Nat.le_trans (Nat.le_of_eq h1) (Nat.le_trans (Nat.le_of_lt h0) h2)
theorem om372 (h0:a<b)(h1:b<=1048576):a<=1048576:=Nat.le_trans (Nat.le_of_lt h0) h1
theorem om373 (h0:b=c)(h1:a=c):a=b:=by subst_vars;exact Nat.add_zero c
theorem om374 (h0:b<=400)(h1:a<=b):a<=1000:=Nat.le_trans h1 (Nat.le_trans h0 (kb rfl))
theorem om375 (h0:b<10)(h1:a=b):a<=10000:=Nat.le_trans (Nat.le_of_eq h1) (Nat.le_trans (Nat.le_of_lt h0) (kb rfl))
theorem om376:a<=(b+(a+1)):=by simp+arith [*]at*
theorem om379 (h0:(a<48)∨(57<a)):¬((48<=a)∧(a<=57)):=fun h=>h0.elim (fun q=>Nat.not_le_of_lt q h.1) (fun q=>Nat.not_le_of_lt q h.2)
theorem om380 (h0:(48<=a)∧(a<=57)):(32<=a)∧(a<127):=⟨Nat.le_trans (kb rfl) h0.1,Nat.lt_succ_of_le (Nat.le_trans h0.2 (kb rfl))⟩
theorem om381 (h0:a<=10000):(¬((a:Int)<(-((2:Int)^63))))∧(¬(((2:Int)^63)<=(a:Int))):=⟨Int.not_lt.mpr (Int.le_trans (by decide) (Int.natCast_nonneg a)),Int.not_le.mpr (i63 (Nat.le_trans h0 (kb rfl)))⟩
theorem om382 (h0:a<=(b+1))(h1:b<=10000):(a+1)<=16777216:=by lia
theorem om383 (h0:a=(1+b))(h1:b<=2000000):a<=16777216:=by subst_vars;lia
theorem om384 (h0:c=a)(h1:c=b):a=b:=by subst_vars;exact Nat.add_zero c
theorem om385 (h0:a=1)(h1:b<=(639+1)):(a+b)<=1000:=Nat.le_trans (Nat.add_le_add (Nat.le_of_eq h0) h1) (kb rfl)
theorem om387 (h0:(a+b)<=c):((a+1)+b)<=(c+1):=by simp+arith [*]at*
theorem om389 (h0:a<=100)(h1:b<=200):(a+b)<=16777216:=by grind
theorem om390 (h0:b<=1)(h1:a<=3):(a+b)<=4:=by grind
theorem om391 {a:Int}(h0:((0:Int)<=a)∧(a<(6:Int))):a<((2:Int)^63):=by lia
theorem om392 (h0:(a<=b)∧(a<=c)):(a<=b)∧(a<=c):=by omega
theorem om393 (h0:b=1):(a+(b+c))<=((a+c)+1):=by simp+arith [*]at*
theorem om394 (h0:(a+1)<=b):a<=(b+1):=Nat.le_succ_of_le (Nat.le_of_succ_le h0)
theorem om395 (h0:a<=(401*b))(h1:b<=2):a<=802:=Nat.le_trans h0 (Nat.mul_le_mul_left 401 h1)
theorem om397 (h0:a<=(b+2))(h1:b<=300):a<=10000:=by lia
theorem om398 (h0:a<=(b+1))(h1:b<=100):a<=10000:=by lia
theorem om399 (h0:b=c)(h1:a<=(0+c)):a<=b:=by simp_all
theorem om400 (h0:c=a)(h1:b=c):a=b:=by subst_vars;exact Nat.add_zero c
theorem om401 (h0:a<b)(h1:b<=0):False:=by simp_all
theorem om402 (h0:a=1)(h1:b<=1000):(a+b)<=16777216:=by subst_vars;lia
theorem om403 (h0:a<=(b+1))(h1:b<=100):a<=1000:=Nat.le_trans h0 (Nat.le_trans (Nat.succ_le_succ h1) (kb rfl))
theorem om405 (h0:a<b)(h1:b<=10000):a<=16777216:=Nat.le_trans (Nat.le_of_lt h0) (Nat.le_trans h1 (kb rfl))
theorem om406 (h0:a<=b)(h1:¬((a:Int)<(b:Int))):a=b:=Nat.le_antisymm h0 (Int.ofNat_le.mp (Int.not_lt.mp h1))
theorem om407 (h0:b=0)(h1:a<=b):a=b:=by subst_vars;exact Nat.eq_zero_of_le_zero h1
theorem om408 (h0:b<1000)(h1:a<=b):a<=9999:=Nat.le_trans h1 (Nat.le_trans (Nat.le_of_lt h0) (kb rfl))
theorem om409:(a+(b+c))=((a+b)+c):=Eq.symm (Nat.add_assoc a b c)
theorem om410 (h0:a<=(b+2))(h1:b<=300):a<=400:=by lia
theorem om411 (h0:a<=(b+1))(h1:b<=200):a<=10000:=by lia
theorem om412 (h0:(a+(c+1))<=(b+1)):a<=b:=by grind
theorem om413 (h0:a<=200):((10*a)+2)<=2002:=Nat.add_le_add_right (Nat.mul_le_mul_left 10 h0) 2
theorem om414 (h0:b<=1000)(h1:a<=b):(a:Int)<((2:Int)^62):=i62 (Nat.le_trans h1 (Nat.le_trans h0 (kb rfl)))
theorem om417:((((a:Int)+(1:Int))+(b:Int))+(1:Int))=(((((a+1)+b)+1):Nat):Int):=by rfl
theorem om418 (h0:a=46)(h1:¬(a=46)):False:=by simp+arith [*]at*
theorem om419 (h0:a<=(b+1))(h1:b<=200):a<=210:=Nat.le_trans h0 (Nat.le_trans (Nat.succ_le_succ h1) (kb rfl))
theorem om420 (h0:a<=(b+1))(h1:b<=200):a<=209:=by lia
theorem om421 (h0:a=(1+b))(h1:a=0):False:=by simp+arith [*]at*
theorem om422:a<=(a+(b+1)):=Nat.le_add_right a (b+1)
theorem om423 (h0:a<=10000):((10:Int)*(a:Int))<=(((2:Int)^63)-(1:Int)):=by lia
theorem om424 (h0:a<=c):(a+(b+0))<=(c+b):=Nat.add_le_add_right h0 (b+0)
theorem om425:((a+1)+b)=(a+(b+1)):=Nat.succ_add_eq_add_succ a b
theorem om426 (h0:a<=(b+1)):a<=(((b+1)+1)+1):=Nat.le_trans h0 (Nat.le_add_right _ 2)
theorem om427 (h0:a<=410):((a:Int)-(b:Int))<=(10000:Int):=Int.le_trans (Int.sub_le_self a (Int.natCast_nonneg b)) (Int.le_trans (Int.ofNat_le.mpr h0) (by decide))
theorem om428 (h0:a<=6):a<=10000:=Nat.le_trans h0 (kb rfl)
theorem om429 (h0:a<=6):a<=1000:=Nat.le_trans h0 (kb rfl)
theorem om430 (h0:b<=900)(h1:a<=b):a<=16777216:=Nat.le_trans h1 (Nat.le_trans h0 (kb rfl))
theorem om431:(a+1)<=((b+1)+a):=by simp+arith [*]at*
theorem om433 {a:Int}(h0:(10:Int)<=a)(h1:b<=10):¬(a<(b:Int)):=Int.not_lt.mpr (Int.le_trans (Int.ofNat_le.mpr h1) h0)
theorem om434 (h0:1<=b)(h1:a=b):1<=a:=Nat.le_trans h0 (Nat.le_of_eq h1.symm)
theorem om437 (h0:a<c)(h1:c<=(b+1)):a<=b:=by lia
theorem om438 (h0:a<=3):a<=10000:=Nat.le_trans h0 (kb rfl)
theorem om439 (h0:b<60)(h1:a=b):a<=10000:=Nat.le_trans (Nat.le_of_eq h1) (Nat.le_trans (Nat.le_of_lt h0) (kb rfl))
theorem om440 (h0:b<30)(h1:a=b):a<=60:=Nat.le_trans (Nat.le_of_eq h1) (Nat.le_trans (Nat.le_of_lt h0) (kb rfl))
theorem om441 (h0:b<30)(h1:a=b):a<=10000:=Nat.le_trans (Nat.le_of_eq h1) (Nat.le_trans (Nat.le_of_lt h0) (kb rfl))
theorem om442 (h0:a<=3):a<=1000000:=Nat.le_trans h0 (kb rfl)
theorem om443:((53:Int)<=(a:Int))↔(53<=a):=Int.ofNat_le
theorem om444 (h0:b<60)(h1:a=b):a<=60:=Nat.le_trans (Nat.le_of_eq h1) (Nat.le_of_lt h0)
theorem om445 (h0:a<=2):(1+a)<=10000:=by lia
theorem om446 (h0:¬((0:Int)<(a:Int))):(0:Int)=(a:Int):=by simp_all
theorem om447 (h0:(a+(c+1))=b):a<b:=by subst_vars;lia
theorem om450 (h0:a<=b):(0+a)<=(b+1):=by lia
theorem om451 (h0:0<a)(h1:a=0):False:=by subst_vars;exact Nat.not_succ_le_zero 0 h0
theorem om453:(((a:Int)+(1:Int))+(b:Int))=((((a+1)+b):Nat):Int):=by rfl
theorem om455 (h0:a=b)(h1:b<=900):a<=10000:=Nat.le_trans (Nat.le_of_eq h0) (Nat.le_trans h1 (kb rfl))
theorem om456 (h0:(b:Int)=(0:Int))(h1:b=a):a=0:=by subst_vars;exact Int.ofNat_eq_zero.mp h0
theorem om460 (h0:1<=a):(-(a:Int))<=(-(1:Int)):=by grind
theorem om461 (h0:b=a)(h1:b<=10000):a<=16777215:=Nat.le_trans (Nat.le_of_eq h0.symm) (Nat.le_trans h1 (kb rfl))
theorem om464:((a:Int)+((b:Int)+(1:Int)))=(((a:Int)+(1:Int))+(b:Int)):=by simp+arith [*]at*
theorem om467:((a:Int)+(b:Int))=(((a+b):Nat):Int):=Int.ofNat_add_ofNat a b
theorem om468 (h0:a<=2000000):(1+a)<=16777216:=by lia
theorem om469:a<=((b+1)+a):=Nat.le_add_left a (b+1)
theorem om471 (h0:a<c)(h1:b=c):(a:Int)<(b:Int):=by subst_vars;exact Int.ofNat_lt.mpr h0
theorem om472 (h0:b=a)(h1:b<=1000):a<=16777216:=Nat.le_trans (Nat.le_of_eq h0.symm) (Nat.le_trans h1 (kb rfl))
theorem om473:¬((a+4)=(a+6)):=by simp+arith [*]at*
theorem om474:¬((a+2)=(a+5)):=by simp+arith [*]at*
theorem om475:¬((a+3)=(a+5)):=by simp+arith [*]at*
theorem om477 (h0:(a+0)<=b):a<=b:=by omega
theorem om479 (h0:a<=1000):a<=1000:=h0
theorem om480 (h0:(32<=a)∧(a<127)):a<128:=Nat.lt_trans h0.2 (Nat.lt_succ_self 127)
theorem om481:¬((a+1)=(a+5)):=by simp+arith [*]at*
theorem om487 (h0:b<=1000)(h1:a<=b):a<=10000:=Nat.le_trans h1 (Nat.le_trans h0 (kb rfl))
theorem om489:¬((a+5)=(a+6)):=Nat.ne_add_one (a+5)
theorem om490:¬((a+4)=(a+5)):=Nat.ne_add_one (a+4)
theorem om491 (h0:a<53):¬((53:Int)<=(a:Int)):=fun h=>Nat.not_le_of_lt h0 (Int.ofNat_le.mp h)
theorem om492 (h0:a<=820):a<=10000:=Nat.le_trans h0 (kb rfl)
theorem om493 (h0:a<=820):a<=1000:=Nat.le_trans h0 (kb rfl)
theorem om497 (h0:a<c)(h1:¬(b<c)):a<b:=Nat.lt_of_lt_of_le h0 (Nat.le_of_not_lt h1)
theorem om498 (h0:(32<=a)∧(a<127)):a<1114112:=Nat.lt_trans h0.2 (kb rfl)
theorem om499 (h0:(32<=a)∧(a<127)):¬(a<=13):=fun h=>absurd (Nat.le_trans h0.1 h) (by decide)
theorem om500 (h0:(32<=a)∧(a<127)):¬(a=0):=by grind
theorem om501 (h0:a<=410):a<=10000:=Nat.le_trans h0 (kb rfl)
theorem om502 (h0:b<=900)(h1:a<=b):a<=10000:=Nat.le_trans h1 (Nat.le_trans h0 (kb rfl))
theorem om503:(1+a)=(a+1):=Nat.add_comm 1 a
theorem om504 (h0:b<=4000)(h1:a<=b):a<=4300:=Nat.le_trans h1 (Nat.le_trans h0 (kb rfl))
theorem om505:(-(a:Int))<=(0:Int):=Int.neg_natCast_le_ofNat a 0
theorem om506 (h0:a<=410):a<=1000000:=Nat.le_trans h0 (kb rfl)
theorem om507 (h0:(a+(b+1))<=a):False:=by simp+arith [*]at*
theorem om508:a<=((b+a)+1):=by simp+arith [*]at*
theorem om509 (h0:a<=1000000):(a:Int)<((2:Int)^62):=i62 h0
theorem om510:(0+a)<=a:=by simp+arith [*]at*
theorem om512 (h0:a<=1001):a<=10000:=Nat.le_trans h0 (kb rfl)
theorem om515 (h0:a=b):(0+a)<(b+1):=by simp+arith [*]at*
theorem om516:((-(1:Int))+(((a+1):Nat):Int))=(a:Int):=by simp+arith [*]at*
theorem om520 (h0:a<=60):(1+a)<=10000:=by lia
theorem om522 (h0:a<=10000):(a+2)<=16777216:=by lia
theorem om523:(a+b)<=((a+b)+1):=Nat.le_add_right (a+b) 1
theorem om524:¬((a+4)<a):=by simp[*]
theorem om525:¬((a+3)<a):=by simp[*]
theorem om527:(0:Int)<=((a:Int)+(7:Int)):=Int.zero_le_ofNat (a+7)
theorem om528 (h0:¬(a=0)):¬(a=0):=by omega
theorem om529:1<=(a+1):=Nat.le_add_left 1 a
theorem om530:¬(a=(a+5)):=by simp+arith [*]at*
theorem om533 (h0:a<127):a<1114112:=Nat.lt_of_lt_of_le h0 (kb rfl)
theorem om534 (h0:(a=1)∨(a=2)):a<=2:=by grind
theorem om536 (h0:(a:Int)<(((b-c):Nat):Int)):a<(b-c):=by simp_all
theorem om538 (h0:a<=802):a<=1000000:=Nat.le_trans h0 (kb rfl)
theorem om539 (h0:a<=802):a<=10000:=Nat.le_trans h0 (kb rfl)
theorem om540 (h0:¬((a:Int)<(1:Int))):(0:Int)<(a:Int):=Int.lt_of_lt_of_le (by decide) (Int.not_lt.mp h0)
theorem om541 (h0:a<=(10*10000)):¬((2^24)<a):=by lia
theorem om542 (h0:a<=(639+1)):a<=1000:=Nat.le_trans (by assumption) (kb rfl)
theorem om547:(a:Int)<((((a+1)+b):Nat):Int):=by simp+arith [*]at*
theorem om549 (h0:¬((53:Int)<=(a:Int))):¬(53<=a):=fun h=>h0 (Int.ofNat_le.mpr h)
theorem om550 (h0:a<=400):a<=10000:=Nat.le_trans h0 (kb rfl)
theorem om551 (h0:a<=2):a<=2:=h0
theorem om554 (h0:a<=400):a<=1000:=Nat.le_trans h0 (kb rfl)
theorem om555 (h0:a<=1000):a<=1048576:=Nat.le_trans h0 (kb rfl)
theorem om556:0<(a+1):=Nat.zero_lt_succ a
theorem om557 (h0:a<=200):a<=1000:=Nat.le_trans h0 (kb rfl)
theorem om559 (h0:a<=300):a<=16777216:=Nat.le_trans h0 (kb rfl)
theorem om560 (h0:a<=2):a<=16777216:=Nat.le_trans h0 (kb rfl)
theorem om567:((a:Int)-(0:Int))=(a:Int):=Int.sub_zero ↑a
theorem om568 (h0:a=30):a<=60:=Nat.le_trans (Nat.le_of_eq h0) (kb rfl)
theorem om569:(a:Int)<((a:Int)+((b:Int)+(1:Int))):=Int.lt_add_succ (↑a) b
theorem om571 (h0:a<=63):a<=1000:=Nat.le_trans h0 (kb rfl)
theorem om574 (h0:¬(((63:Nat):Int)<(a:Int))):a<=63:=Int.ofNat_le.mp (Int.not_lt.mp h0)
theorem om575:¬(a<a):=Nat.lt_irrefl a
theorem om577 {a:Int}(h0:a<=(10000:Int)):a<((2:Int)^63):=by lia
theorem om579 {a:Int}(h0:a<=(10000:Int)):a<=(16777216:Int):=by lia
theorem om580 (h0:a<=1000000):(a:Int)<(9223372036854775808:Int):=i63 h0
theorem om588:(a:Int)<((a:Int)+(1:Int)):=Int.lt_succ ↑a
theorem om592:(0<0) ->(a=((b+1)+0)):=by simp+arith [*]at*
theorem om594 (h0:32<=9):False:=by simp+arith [*]at*
theorem om595 (h0:(48<=95)∧(95<=57)):False:=by simp+arith [*]at*
theorem om596 (h0:(48<=46)∧(46<=57)):False:=by simp+arith [*]at*
theorem om597 (h0:95=45):False:=by simp+arith [*]at*
theorem om598 (h0:46=45):False:=by simp+arith [*]at*
theorem ne_lt {a n k:Nat}(h:a<n):a≠n+k:=Nat.ne_of_lt (Nat.lt_of_lt_of_le h (Nat.le_add_right n k))
theorem ne_ab {n i j:Nat}(h:i≠j):n+i≠n+j:=fun e=>h (Nat.add_left_cancel e)
theorem p0i {n:Nat}:(max 0 (min (-1+(n:Int)) n)).toNat=n-1:=by
 cases n with
 |zero=>rfl
 |succ n=>
  have e:(-1+((n+1:Nat):Int))=(n:Int):=(Int.add_comm _ _).trans (Int.add_neg_cancel_right (n:Int) 1)
  rw[e,Int.min_eq_left (Int.ofNat_le.mpr (Nat.le_succ n)),Int.max_eq_right (Int.natCast_nonneg _)];rfl
theorem p2o {k n:Nat}:(max 0 (min (k:Int) n)).toNat=min k n:=by
 rcases Nat.le_total k n with h|h
 ·rw[Int.min_eq_left (Int.ofNat_le.mpr h),Nat.min_eq_left h,Int.max_eq_right (Int.natCast_nonneg _)];rfl
 ·rw[Int.min_eq_right (Int.ofNat_le.mpr h),Nat.min_eq_right h,Int.max_eq_right (Int.natCast_nonneg _)];rfl
end
section
open PySem PySem.W PySem.Calls PyProof.Rows
noncomputable def HasC (Γ:Ctx):Prop:=∃a,Code.builtin "claim.caller" a∈Γ.code::Γ.below.map (·.1)
noncomputable def wpC {α:Type}(M:Model)(A:Around)(t:Sem α)(Q:α ->Shared ->Prop)(E:Value ->Shared ->Prop)(s:Shared):Prop:=
 ∀Γ p,Γ.In A ->HasC Γ ->Sem.wp M Γ t (fun a _ s'=>Q a s') (fun e _ s'=>E e s') p s
noncomputable def k5e (M:Model)(A:Around)(c:Code)(R:Result ->Shared ->Prop)(s:Shared):Prop:=
 ∀Γ p,Γ.code=c ->Γ.Below A ->(∃a,Code.builtin "claim.caller" a∈Γ.below.map (·.1)) ->wpCode M Γ R p s
section
variable {α β:Type}{M:Model}{A:Around}{E:Value ->Shared ->Prop}{s:Shared}
theorem k1r {t:Sem α}{Q:α ->Shared ->Prop}(h:wpAny M A t Q E s):wpC M A t Q E s:=fun Γ p hΓ _=>h Γ p hΓ
theorem k1z {a:α}{Q:α ->Shared ->Prop}(h:Q a s):wpC M A (pure a) Q E s:=k1r (wpAny_pure h)
theorem k0z {t:Sem α}{Q Q':α ->Shared ->Prop}{E':Value ->Shared ->Prop}(h:wpC M A t Q E s)
  (hQ:∀a s,Q a s ->Q' a s)(hE:∀e s,E e s ->E' e s):wpC M A t Q' E' s:=
 fun Γ p hΓ hc=>Sem.wp_mono M Γ t (fun a _ s=>hQ a s) (fun e _ s=>hE e s) p s (h Γ p hΓ hc)
theorem k2a {m:Sem α}{f:α ->Sem β}{Q:β ->Shared ->Prop}(h:wpC M A m (fun a s'=>wpC M A (f a) Q E s') E s):
  wpC M A (m>>=f) Q E s:=fun Γ p hΓ hc=>by
 rw[Sem.wp_bind']
 exact Sem.wp_mono M Γ m (fun a p' s' h'=>h' Γ p' hΓ hc) (fun _ _ _ h'=>h') p s (h Γ p hΓ hc)
end
theorem p2c:HasC (⟨.builtin "claim.caller" {},none,none,[],none⟩:Ctx):=⟨{},List.mem_cons_self⟩
theorem k8h {M:Model}{t:Sem Fin}{R:Result ->Shared ->Prop}{s:Shared}
  (h:wpC M callerA t (fun fin s'=>∃f,fin=.done f∧R (.ok f) s') (fun e s'=>R (.error e) s') s)(p:Pos):
  Sem.wp M ⟨.builtin "claim.caller" {},none,none,[],none⟩ t (Sem.finPost M ⟨.builtin "claim.caller" {},none,none,[],none⟩ R) (fun e _ s'=>R (.error e) s') p s:=by
 refine Sem.wp_mono M _ t (fun fin p' s' h'=>?_) (fun _ _ _ h'=>h') p s (h _ p caller_in p2c)
 refine x1a2 h' fun f za hf=>?_;clear h';obtain rfl:=za
 exact hf
theorem m1g {prog:Program}{w:World}{t:Sem Fin}{s:Shared}{R:Result ->Shared ->Prop}(hreg:s.asleep)
  (h:wpC (model prog w) callerA t (fun fin s'=>∃f,fin=.done f∧(R (.ok f) s'∧leftWithCleanup s'.gens=false)) (fun e s'=>R (.error e) s'∧leftWithCleanup s'.gens=false) s):
  ∃n r s' s'',runN (denote table) prog w n s ⟨t,.builtin "claim.caller" {},default,[]⟩=.halted (outcomeOf r) s'∧
   schedN (denote table) prog w n (.single s ⟨t,.builtin "claim.caller" {},default,[]⟩)=.halted (outcomeOf r) s'∧s'.forget=s''.forget∧R r s'':=by
 refine x4a4 (wp_halts_full (M:=model prog w) (R:=R) hreg (k8h (R:=fun r s'=>R r s'∧leftWithCleanup s'.gens=false) h default)) fun n r B1 B0 hs hn hfo hR=>?_
 exact⟨n,r,B0,B1,hn,hs,hfo,hR⟩
theorem p0k {c:ClaimW}{tree:List Value ->Sem Fin}{w:World}{s:Shared}{free:Addr ->Prop}{gens:Prop}{kept:Heap ->Prop}(hz:s.asleep)(hgens:s.gens= #[])
  (hspec:∀args,c.pre args=true ->WData.layableAll args=true ->
   ∀ord:List DictEntry ->List DictEntry,(∀l,(ord l).Perm l) ->
   ∃vs B1,layAllW c.records (classAt s.heap) w.params ord args s=some (vs,B1)∧
    wpC (model c.prog w) callerA (tree vs) (fun fin s'=>∃f,fin=.done f∧(c.Ends s args vs B1 (.ok f) s'∧s'.os=s.os∧AllBare s'.gens∧kept s'.heap))
     (fun e s'=>c.Ends s args vs B1 (.error e) s'∧s'.os=s.os∧AllBare s'.gens∧kept s'.heap) B1):
  c.CallFrom (fun vs=>⟨tree vs,.builtin "claim.caller" {},default,[]⟩) w free gens kept s:=by
 intro args hpre hlay ord hord
 refine hide fun G hG=>?_
 refine x2a2 (hspec args hpre hlay ord hord) fun vs B1 hlaid hcode=>?_
 have hal:=layAllW_rest _ _ _ hlaid
 obtain⟨k,r,s',s'',hrun,hsched,hfo,hcase,hos,hkp⟩:=m1g (prog:=c.prog) (w:=w) (t:=tree vs) (s:=B1)
  (R:=fun r s'=>c.Ends s args vs B1 r s'∧s'.os=s.os∧kept s'.heap)
  (Shared.asleep_of_life hal.2.2.2 hz)
  (k0z hcode (by
   rintro fin s' zu;refine x1a5 zu fun f e h1 h2 h3 h4=>?_
   exact⟨f,e,⟨h1,h2,h4⟩,leftWithCleanup_false_of_bare h3⟩) (by
   rintro e s' zu;refine an4 zu fun h1 h2 h3 h4=>?_
   exact⟨⟨h1,h2,h4⟩,leftWithCleanup_false_of_bare h3⟩))
 refine an5 (Shared.forget_eq hfo) fun eh _ _ eo _=>?_
 have hcase:=hcase.congr eh
 have hkp:kept s'.heap:=by rw[eh];exact hkp
 rw[<-eo]at hos
 have hlife:s'.heap.life=s.heap.life:=(runN_life _ _ _ hrun).trans hal.2.2.2
 refine hG ⟨vs,B1,hlaid,k,_,s',hsched,?_,(fun _ i x hx=>by rw[hgens]at hx;simp at hx),hkp,by rw[hlife],Shared.rest_eq hos⟩
 rcases hcase with⟨v,rfl,d1,d2,d3,d4,d5⟩| ⟨e,ob,cls,rfl,d1,d2,d3,d4,d5⟩
 ·exact .inl ⟨v,rfl,d1,d2,d3,fun b o y _=>d4 b o y,d5⟩
 ·exact .inr ⟨e,ob,cls,rfl,d1,d2,d3,d4,fun b o y _=>d5 b o y⟩
noncomputable abbrev WalkC (q:Program)(loose:List Str)(XP:(Str ->Option Value) ->Heap ->Prop)(YP:World ->Heap ->Prop)(r:RowW)(d:DefRec)(kwd:List (Str×Expr))(run:Value ->List Value ->Sem Value):Prop:=
 ∀(w:World) (B6 B1:Shared) (mg mb:Str ->Option Value),Ground q loose r.records XP w B6 mg mb B1.heap ->YP w B1.heap ->∀(a:Addr) (o:Obj) (pm cd doc dV kV:Value),B1.heap.get? a=some o ->
  o.data=.func {docDef d.name d.params d.body d.scope pm cd doc with defaults:=dV,kwdefaults:=kV} ->B1.heap.CodeRec cd d.name ->Dflts mg B1.heap d.params kwd dV kV ->mg d.name=some (.ref a) ->B1.gens= #[] ->
  ∀(args:List WData) (vals:List Value) (as:List Addr),r.claim.pre args=true ->WData.layableAll args=true ->ReadsAllW r.records (classAt B6.heap) B1.heap vals args as ->WellAll w.params B1.heap vals args ->(∀a∈as,(a==sysModules)=false) ->
   wpC (model r.prog w) callerA (run (.ref a) vals) (fun v s'=>GoodWG r.claim (classAt B6.heap) (ExcName.means B6.heap) args B1 (.ok (.ret v)) s')
    (fun e s'=>GoodWG r.claim (classAt B6.heap) (ExcName.means B6.heap) args B1 (.error e) s') B1
theorem m3u {r:OpenRow}{q:Program}{loose:List Str}{Xt:Shared ->Bool}{XP:(Str ->Option Value) ->Heap ->Prop}{α:Type}{Yf:Shared ->α}{Ya:World ->α}{YP:World ->Heap ->Prop}{d:DefRec}{kwd:List (Str×Expr)}{N:Nat}
  (left:LeftO r.prog q loose Xt Yf Ya N)(hY:∀w s,Yf s=Ya w ->YP w s.heap)(hYk:∀w h h',YP w h ->(∀b o,h.get? b=some o ->h'.get? b=some o) ->YP w h')
  (hX:∀s,Xt s=true ->XP (s.heap.nsMap mainGlobals) s.heap)(hXk:∀mg h h',XP mg h ->(∀b o,h.get? b=some o ->h'.get? b=some o) ->XP mg h')
  (hdef:defOf q r.name=some (d,kwd))(hp:r.prog.theDef r.name=some (d.params,d.body,d.scope))(hk:kwWritten? d.params.kwonlyargs d.params.kw_defaults=some kwd)(hRf:∀s,Xt s=true ->RecFacts r.records s.heap)(hwr:(!r.writes||r.records.isEmpty)=true)
  (k1:r.wellSaid=true)(ok:(chainsOk q&&opensWell r.prog&& (frees r.toRowW&&r.within.isEmpty))=true)(hb:r.prog.bare)(hw:r.toRowW.promised)
  (call:WalkC q loose XP YP r.toRowW d kwd fun f vs=>PySem.call f vs):r.Holds:=by
 obtain⟨ok,k5⟩:=Bool.and_eq_true_iff.mp ok
 obtain⟨hch,o1⟩:=Bool.and_eq_true_iff.mp ok
 obtain⟨k5,k6⟩:=Bool.and_eq_true_iff.mp k5
 refine an5 (frees_parts k5) fun hsame hu ha hap hm=>?_
 refine⟨k1,hw,⟨hb,o1,by show r.toRowW.makers.map _=[];rw[hm];rfl⟩,hw.witness,fun w=>⟨(left.behind hX hch w).1,fun s' hs'=>?_⟩⟩
 refine hide fun G hG=>?_
 refine x1a3 ((left.behind (XP:=fun mg h=>XP mg h∧RecFacts r.records h) (fun s hs=>⟨hX s hs,hRf s hs⟩) hch w).2 s' hs') fun B6 hf hg0 zx=>x1a6 zx fun s hT hz hgens hg G00 y=>?_
 have G0:Ground q loose [] XP w s (s.heap.nsMap mainGlobals) (s.heap.nsMap builtinsNs) s.heap:=⟨G00.T,G00.B,G00.D,G00.TE,G00.TD,G00.W,G00.X.1,G00.cls,G00.has,G00.apart,G00.once,G00.K⟩
 have RF:=G00.X.2
 have hT':=hT
 refine hG ⟨B6,hf,hg0,s,hT,fun n hn=>?_,RF.1,RF.2.1,?_⟩
 ·obtain rfl:n=r.name:=by split at hn<;>simp_all
  exact pinned_of_view hg G0 hdef hp hk
 have hgens:s.gens= #[]:=Array.eq_empty_of_size_eq_zero (beq_iff_eq.mp hgens)
 have G:Ground q loose r.records XP w s _ _ s.heap:=RF.ground G0
 refine p0k (c:=r.toRowW.claim) hz hgens fun args hpre hlay ord hord=>?_
 refine hide fun G' hG'=>?_
 obtain⟨⟨vs,B1⟩,hlaid⟩:=Option.isSome_iff_exists.mp (layAllW_isSome (P:=w.params) (ord:=ord) G.has args r.args s (pre_splitW hpre).1)
 have keeps:=layAllW_keeps _ _ _ hlaid
 have hal:=layAllW_rest _ _ _ hlaid
 refine x1a3 (reads_layAllW hord _ _ _ hlaid hlay B1.heap (fun _ _ e=>e)) fun as hrd hin hold=>?_
 have L:Laid r.records w s B1 args vs as:=⟨⟨ord,hord,hlaid⟩,hrd,hin,hold,keeps,hal.1.trans hgens,hal.2.2.1⟩
 have G1:=G.keeps hXk keeps
 refine x7a5 (G1.fn hdef) fun a o pm cd doc dV kV h1 h2 h3 h4 h5=>?_
 have h:=call w s B1 _ _ G1 (hYk _ _ _ (hY w s y) keeps) a o pm cd doc dV kV h2 h3 h4 h5 (defOf_name hdef▸h1) L.gens args vs as hpre hlay L.reads L.well (L.low G.low)
 have hi:=ident_freeW hu ha hap
 have hwi:r.toRowW.claim.within=[]:=List.isEmpty_iff.mp k6
 refine hG' ⟨vs,B1,hlaid,k2a (k1r (wpAny_nsGet G1.T.g ?_))⟩
 rw[h1]
 refine k2a (k0z h (fun v s' g=>k1z ⟨_,rfl,?_⟩) fun e s' g=>?_)
 ·have z:=g.laid (c:=r.toRowW.claim) hsame hwi hi L
  exact⟨z.1,z.2.1,z.2.2,fun q=>⟨namesKept_of hT' hg _ keeps g.2.1.old,noTable hwr q⟩⟩
 ·have z:=g.laid (c:=r.toRowW.claim) hsame hwi hi L
  exact⟨z.1,z.2.1,z.2.2,fun q=>⟨namesKept_of hT' hg _ keeps g.2.1.old,noTable hwr q⟩⟩
end
section
open PySem PySem.W PyProof.Rows
noncomputable abbrev pw:Program:=PySem.Challenge.pw_in0310_01
noncomputable abbrev rw':OpenLaw:=PySem.Challenge.rw_in0310_01
noncomputable def vw:Program:=view pw [4,41]
noncomputable def loose:List Str:=["_wall","_norm_version","system_alias","_unknown_as_blank","_plain_name","ABCMeta","_ABCLike","_abc_plain_meta","fspath","commonprefix","_splitext","_check_arg_types","_get_sep","join","split","splitroot","normpath","abspath","relpath","commonpath",
 "_law_records","_law_cut","_law_number","_law_alias","_law_normed","_law_safe","_law_climb","_law_peeled","_law_ends","_law_stack","_law_shared","_law_common"].map Str.ofString
theorem said1:sreFenced rw'.row.prog.main=true:=by rw[PySem.W.Fast.te11788848310118352699];kernel_rfl
theorem said2:namesResolve rw'.row.prog=true:=by rw[PySem.W.Fast.te8377067652309620493];kernel_rfl
theorem said3:(rw'.row.prog.boundNames.all fun n=> !worldNames.contains n)=true:=by kernel_rfl
theorem said4:noRoadLSs {strict:= !(importedModules rw'.row.prog.main.body).all cThrough.contains,foot:=none,bare:=(["vars","dir","locals"]:List Str).filter (readsOut rw'.row.prog rw'.row.prog.main.body)} rw'.row.prog.main.body=true:=by rw[PySem.W.Fast.te8326940854005059898];kernel_rfl
theorem said5:(namesMeet rw'.row.prog rw'.row.prog.main.body fun _ n=>attrL n)=true:=by rw[PySem.W.Fast.te17119622794617984870];kernel_rfl
theorem said6:rw'.row.solid=true:=by kernel_rfl
theorem said9:noRoadLSs {strict:=true,foot:=some rw'.bound',writes:=rw'.writes,may:=rw'.may} rw'.footing=true:=by rw[PySem.W.Fast.te8326940854005059898];kernel_rfl
theorem said12:rw'.bound'.all (fun n=> !builtinNamed n||rw'.about==[n]|| !rw'.reads n)=true:=by kernel_rfl
theorem said13:namesMeet rw'.prog rw'.footing (fun sc n=>(!(["type","isinstance","issubclass","getattr","hasattr"]:List Str).contains n||sc.names.lookup n==some .globalImplicit)&&
  (rw'.may !=some n||sc.kind==.module||sc.names.lookup n==some .globalImplicit))=true:=by rw[PySem.W.Fast.te17119622794617984870];kernel_rfl
theorem said15:namesMeet rw'.prog rw'.above (fun _ n=> !rw'.own.contains n)=true:=by rw[PySem.W.Fast.te17119622794617984870];kernel_rfl
theorem said16:(namesMeet rw'.prog rw'.footing fun sc n=>sc.kind==.module||sc.names.lookup n !=some .globalExplicit)=true:=by rw[PySem.W.Fast.te17119622794617984870];kernel_rfl
theorem m8a:rw'.row.wellSaid=true:=by
 unfold OpenRow.wellSaid OpenRow.partSaid looksOpen
 repeat' (with_reducible refine look_both ?_ ?_)
 all_goals first|with_reducible exact said1|with_reducible exact said2|with_reducible exact said3|with_reducible exact said4|with_reducible exact said5|with_reducible exact said6|kernel_rfl
theorem said:rw'.wellSaid=true:=by
 unfold OpenLaw.wellSaid
 repeat' (with_reducible refine look_both ?_ ?_)
 all_goals first|with_reducible exact m8a|with_reducible exact said9|with_reducible exact said12|with_reducible exact said13|with_reducible exact said15|with_reducible exact said16|kernel_rfl
theorem bare1:rw'.row.prog.bare:=⟨rfl,rfl,rfl,rfl,rfl,by decide+kernel⟩
theorem p5x:opening pw=plainProg pw.main.scope.names:=by kernel_rfl
theorem p5d {q:Program}{loose:List Str}{Xt:Shared ->Bool}{α:Type}{Yf:Shared ->α}{Ya:World ->α}{N:Nat}(hN:Nat.ble 600 N=true)
  (h:∀(w:World) (os:OsState),(topFrom treeTable pw w N ⟨boot_heap w.params,Array.mk [],boot_drawn,boot_toks,os⟩).map (fun s=>(openSeen q loose (importedModules pw.main.body) Xt true s,Yf s))=some (openGood q loose,Ya w)):
  LeftO pw q loose Xt Yf Ya N:=fun w=>by
 refine x1a2 (Option.map_eq_some_iff.mp (boot_open (p:=pw) (N:=N) p5x hN (fun s=>rfl) w)) fun za e e'=>?_;obtain⟨a,b,c,d,os⟩:=za
 obtain⟨rfl,rfl,rfl,rfl⟩:a=boot_heap w.params∧b=Array.mk []∧c=boot_drawn∧d=boot_toks:=by simpa using e'
 unfold openEnds
 rw[e]
 exact h w os
theorem run_of {q:Program}{loose:List Str}{Xt:Shared ->Bool}{α:Type}{Yf:Shared ->α}{Ya:World ->α}{N:Nat}(hN:Nat.ble 600 N=true)
  (h1:∀w:World,((boot_heap w.params).isNs mainGlobals&& (Array.mk ([]:List GenState)).size==0)=true)
  (h:∀(w:World) (os:OsState),(PySem.W.Fast.tw14082659384304107361 PySem.W.Fast.tw14364793385576792824 pw w (boot_heap w.params).objs.size ((boot_heap w.params).nsMap mainGlobals "__annotations__") N ⟨boot_heap w.params,Array.mk [],boot_drawn,boot_toks,os⟩ (topStub pw)).map (fun B1=>(staticsOk (importedModules pw.main.body) (boot_heap w.params) B1.heap&&namesBound pw B1.heap&&gensDone B1&&laidKept (boot_heap w.params) B1.heap,PySem.W.Fast.tw4187177175401517315 q loose (importedModules pw.main.body) Xt true B1,Yf B1))=some (true,openGood q loose,Ya w)):
  LeftO pw q loose Xt Yf Ya N:=p5d hN fun w os=>by
 have h2:=h w os
 rw[<-PySem.W.Fast.te14082659384304107361,<-PySem.W.Fast.te14364793385576792824,<-PySem.W.Fast.te4187177175401517315]at h2
 refine x1a2 (Option.map_eq_some_iff.mp h2) fun B1 e e'=>?_
 have l1:=h1 w
 obtain⟨m1,m2⟩:=Prod.mk.inj e'
 have t:topFrom treeTable pw w N ⟨boot_heap w.params,Array.mk [],boot_drawn,boot_toks,os⟩=some B1:=by
  unfold topFrom
  dsimp only
  rw[l1,e]
  show(match staticsOk (importedModules pw.main.body) (boot_heap w.params) B1.heap&&namesBound pw B1.heap&&gensDone B1&&laidKept (boot_heap w.params) B1.heap with|true=>_|false=>_)=_
  rw[m1]
 rw[t]
 exact congrArg some m2
theorem ok1:(chainsOk vw&&opensWell pw&& (frees rw'.row.toRowW&&rw'.row.within.isEmpty))=true:=by kernel_rfl
local macro_rules | `(tactic| o_law) => `(tactic| refine holds_law said fun said => ?_)
local macro_rules | `(tactic| o_head $H) => `(tactic| (refine m3u (r := PySem.Challenge.rw_in0310_01.row) (q := vw) (loose := loose) (Xt := fun s => xlAt vw [] s && recOk [] s) (XP := XL vw []) (Yf := Hook.obs $H) (Ya := Hook.val $H) (YP := Hook.says $H) (N := 3316) ?hl (Hook.of $H) (Hook.keeps $H) (fun s e => xl_of s (Bool.and_eq_true_iff.mp e).1) XL.keeps (by rfl) (by rfl) (by rfl) (fun s e => recFacts_of (Bool.and_eq_true_iff.mp e).2) (by rfl) m8a ok1 bare1 ?hw ?hc; (case hl => exact run_of rfl (fun w => by kernel_rfl) fun w os => by kernel_rfl)))
open_top hd for PySem.Challenge.rw_in0310_01
end
end MineH
namespace Mine
open MineH PySem PySem.W PySem.Calls PyProof.Rows PySem.Spec
abbrev a0A:= @PySem.wpAny_bind
abbrev a0B:= @List.mem_singleton
abbrev a0C:= @PySem.Heap.get?_push_of_some
abbrev a0D:= @List.getElem?_eq_getElem
abbrev a0E:= @List.getD_eq_getElem?_getD
abbrev a0F:= @PySem.wpAny_pure
abbrev a0G:= @List.mem_cons
abbrev a0H:= @Nat.le_trans
abbrev a0I:= @PySem.Heap.get?_push_size
abbrev a0J:= @List.length_map
abbrev a0K:= @List.mem_map
abbrev a0L:= @List.mem_append_right
abbrev a0M:= @PySem.Heap.lt_size
abbrev a0N:= @List.mem_append_left
abbrev a0O:= @PySem.Heap.get?_update_other
abbrev a0P:= @List.map_cons
abbrev a0Q:= @List.length_cons
abbrev a0R:= @Nat.zero_le
abbrev a0S:= @Nat.ne_of_lt
abbrev a0T:= @List.getElem?_map
abbrev a0U:= @List.map_append
abbrev a0V:= @List.mem_append
abbrev a0W:= @Nat.le_refl
abbrev a0X:= @List.nil_sublist
abbrev a0Y:= @List.length_append
abbrev a0Z:= @List.not_mem_nil
abbrev a1A:= @List.getElem?_eq_some_iff
abbrev a1B:= @decide_eq_true_eq
abbrev a1C:= @Nat.lt_of_lt_of_le
abbrev a1D:= @List.mem_of_getElem?
abbrev a1E:= @List.nodup_append
abbrev a1F:= @PySem.wpAny_isTrue_Compare1
abbrev a1G:= @PySem.Heap.get?_update_self
abbrev a1H:= @PySem.Around.under_plainId
abbrev a1I:= @PySem.wpAny_callSpecial?_slot
abbrev a1J:= @PyProof.Rows.callWith_type
abbrev a1K:= @PySem.wpAny_loadPart'
abbrev a1L:= @List.nodup_cons
abbrev a1M:= @List.size_toArray
abbrev a1N:= @List.mem_map_of_mem
abbrev a1O:= @PySem.wpAny_holding
abbrev a1P:= @List.takeWhile_cons
abbrev a1Q:= @PySem.Heap.size_push
abbrev a1R:= @Nat.lt_irrefl
abbrev a1S:= @PySem.sizeLine_eq
abbrev a1T:= @beq_iff_eq
abbrev a1U:= @List.nodup_nil
abbrev a1V:= @PySem.BindsTo.of_eq
abbrev a1W:= @Int.toNat_natCast
abbrev a1X:= @List.map_map
abbrev a1Y:= @List.foldl_cons
abbrev a1Z:= @PySem.plainId_quiet
abbrev a2A:= @List.take_add_one
abbrev a2B:= @Nat.lt_succ_self
abbrev a2C:= @List.getElem?_append_right
abbrev a2D:= @PySem.codeAny_builtin
abbrev a2E:= @PySem.wpAny_call_entry
abbrev a2F:= @List.length_take
abbrev a2G:= @decide_eq_false
abbrev a2H:= @List.take_of_length_le
abbrev a2I:= @PySem.isSubtype_type
abbrev a2J:= @PyProof.Rows.args_cons
abbrev a2K:= @PySem.wpAny_field
abbrev a2L:= @PySem.wpAny_mono
abbrev a2M:= @PySem.wpAny_storeName_local
abbrev a2N:= @PySem.builtinLookup_eq_fast
abbrev a2O:= @List.append_nil
abbrev a2P:= @PySem.wpAny_seqItems
abbrev a2Q:= @beq_eq_false_iff_ne
abbrev a2R:= @List.map_congr_left
abbrev a2S:= @List.mem_of_mem_drop
abbrev a2T:= @List.getElem_mem
abbrev a2U:= @PySem.wpAny_newObj_type
abbrev a2V:= @List.nil_append
abbrev a2W:= @Bool.false_ne_true
abbrev a2X:= @PySem.wpAny_updateSeq
abbrev a2Y:= @Bool.and_eq_true
abbrev a2Z:= @Array.getElem?_eq_getElem
abbrev a3A:= @Bool.false_eq_true
abbrev a3B:= @decide_eq_false_iff_not
abbrev a3C:= @congrArg
abbrev a3D:= @List.mem_of_mem_take
abbrev a3E:= @Nat.ne_of_gt
abbrev a3F:= @List.length_nil
abbrev a3G:= @List.eq_nil_of_length_eq_zero
abbrev a3H:= @List.cons_append
abbrev a3I:= @List.dropWhile_cons
abbrev a3J:= @PySem.wpAny_pyIter_list
abbrev a3K:= @List.foldl_append
abbrev a3L:= @Bool.and_eq_false_iff
abbrev a3M:= @List.dropLast_concat_getLast
abbrev a3N:= @decide_eq_true
abbrev a3O:= @List.mem_range
abbrev a3P:= @PySem.wpAny_standAt
abbrev a3Q:= @PySem.typeLookup_type
abbrev a3R:= @Nat.succ_ne_self
abbrev a3S:= @List.take_length
abbrev a3T:= @List.lookup_cons
abbrev a3U:= @bne_iff_ne
abbrev a3V:= @Nat.lt_succ_of_lt
abbrev a3W:= @Nat.le_succ_of_le
abbrev a3X:= @List.filter_eq_self
abbrev a3Y:= @List.Sublist.refl
abbrev a3Z:= @PySem.F.plain_extend_loop
abbrev a4A:= @List.getElem?_append_left
abbrev a4B:= @PySem.wpAny_specialOf
abbrev a4C:= @Nat.le_of_lt
abbrev a4D:= @PyProof.Rows.args_nil
abbrev a4E:= @PySem.wpAny_askSetting
abbrev a4F:= @List.mem_reverse
abbrev a4G:= @Nat.lt_add_of_pos_right
abbrev a4H:= @List.forIn_cons
abbrev a4I:= @PySem.wpAny_call
abbrev a4J:= @Nat.le_add_right
abbrev a4K:= @of_decide_eq_false
abbrev a4L:= @Nat.le_of_eq
abbrev a4M:= @List.mem_cons_self
abbrev a4N:= @List.length_filter_le
abbrev a4O:= @List.getElem?_eq_none
abbrev a4P:= @Bool.not_not
abbrev a4Q:= @if_true
abbrev a4R:= @PySem.W.hideAll_get
abbrev a4S:= @Nat.not_succ_le_zero
abbrev a4T:= @List.mem_cons_of_mem
abbrev a4U:= @List.getElem?_of_mem
abbrev a4V:= @PySem.wpAny_setState_of
abbrev a4W:= @PySem.wpAny_execs_nil
abbrev a4X:= @Option.some.inj
abbrev a4Y:= @Nat.min_eq_left
abbrev a4Z:= @List.count_append
abbrev a5A:= @PySem.wpAny_of_eq
abbrev a5B:= @PySem.wpAny_letGo
abbrev a5C:= @or_false
abbrev a5D:= @PySem.Sem.wp_mono
abbrev a5E:= @List.getElem?_cons_succ
abbrev a5F:= @List.any_cons
abbrev a5G:= @Int.eq_ofNat_of_zero_le
abbrev a5H:= @PySem.Heap.SameBut.update
abbrev a5I:= @List.length_drop
abbrev a5J:= @List.filter_cons
abbrev a5K:= @PySem.F.plain_min_loop
abbrev a5L:= @PySem.F.plain_max_loop
abbrev a5M:= @PySem.wpAny_tryCatch
abbrev a5N:= @PySem.Calls.evalArgs_plain
abbrev a5O:= @List.takeWhile_sublist
abbrev a5P:= @List.drop_eq_nil_of_le
abbrev a5Q:= @List.dropWhile_sublist
abbrev a5R:= @Nat.lt_or_eq_of_le
abbrev a5S:= @PySem.StrLaws.glued_eq_join
abbrev a5T:= @List.take_append_drop
abbrev a5U:= @List.mem_filter
abbrev a5V:= @List.dropLast_eq_take
abbrev a5W:= @List.concat_eq_append
abbrev a5X:= @Array.getElem?_toList
abbrev a5Y:= @PySem.wpAny_rule
abbrev a5Z:= @PySem.W.of_hideAll
abbrev a6A:= @PySem.getMethod_builtin
abbrev a6B:= @List.sum_cons
abbrev a6C:= @List.map_take
abbrev a6D:= @List.map_drop
abbrev a6E:= @List.append_assoc
abbrev a6F:= @Bool.or_false
abbrev a6G:= @PySem.F.slot_tuple_iterator_next
abbrev a6H:= @Array.getElem?_eq_some_iff
abbrev a6I:= @PySem.wpAny_newFunctionEnv
abbrev a6J:= @Nat.le_sub_one_of_lt
abbrev a6K:= @Bool.or_eq_false_iff
abbrev a6L:= @PySem.wpAny_setField
abbrev a6M:= @PySem.wpAny_newTuple
abbrev a6N:= @List.getElem?_zip_eq_some
abbrev a6O:= @PySem.Calls.callWith_builtin
abbrev a6P:= @List.any_eq_true
abbrev a6Q:= @PySem.Heap.IsList.push
abbrev a6R:= @PySem.F.plainAttrs_str
abbrev a6S:= @Nat.le_succ
abbrev a6T:= @Option.isSome_iff_exists
abbrev a6U:= @Nat.not_lt
abbrev a6V:= @List.map_nil
abbrev a6W:= @Array.size_setIfInBounds
noncomputable abbrev TR (mg mb:Str ->Option Value)(h:Heap):Prop:=TopRead vw loose mg mb h
noncomputable abbrev PR:Program:=PySem.Challenge.rw_in0310_01.row.prog
structure OkA (A:Around)(n:Nat):Prop where
 handled:A.handled=none
 depth:A.depth<=400-10*n
 units:A.units<=400-40*n
noncomputable abbrev AL (n:Nat):Around:={handled:=none,depth:=400-10*n,frames:=none,guards:=none,units:=400-40*n}
theorem k6j {α:Type}{M:Model}{A:Around}{n:Nat}{t:Sem α}{Q:α ->Shared ->Prop}{E:Value ->Shared ->Prop}{s:Shared}(hA:OkA A n)(h:wpAny M (AL n) t Q E s):wpAny M A t Q E s:=
 fun Γ p hΓ=>h Γ p ⟨hΓ.1.trans hA.handled,a0H hΓ.2.1 hA.depth,fun l hl=>(by cases hl),fun g hg=>(by cases hg),a0H hΓ.2.2.2.2 hA.units⟩
theorem enter {w:World}{A:Around}{s:Shared}{mg mb:Str ->Option Value}{R:Result ->Shared ->Prop}{name qual:Str}{params:Arguments}{body:List Stmt}{scope:Scope}
  {dV kV doc pm cdv ct oc:Value}{an od:Option Addr}{osl:Array (Option Value)}{f:Addr}{args:Args}{binds:List (Str×Value)}
  (X:(hd.heap_1 w.params).In s.heap)(T:TR mg mb s.heap)(hroom:A.depth<recursionLimit)
  (ho:(hd.heap_1 w.params).lookup f=some ⟨oc,od,.func (fnOf name qual params body scope dV kV doc pm an cdv ct),osl⟩)(hcd:codeIn (hd.heap_1 w.params) cdv qual=true)
  (hbind:BindsTo s (fnOf name qual params body scope dV kV doc pm an cdv ct) args binds)(hloc:∀y∈binds,scope.names.lookup y.1=some .local)
  (h:∀B2,Fr s.heap s.heap.objs.size B2 (fun y=>binds.reverse.lookup y) ->News s.heap s.heap.objs.size B2 [] ->
   wpAny (model PR w) (A.deeper (envOf qual scope s.heap.objs.size f cdv)) (execs body (envOf qual scope s.heap.objs.size f cdv))
    (fun fl s'=>R (.ok (.ret (match fl with| .ret v=>v|_=>.none))) s') (fun _ _=>False)
    {s with heap:=B2,toks:=s.toks+binds.length})
  (hco:autoParam (scope.isCoroutine=false) aR) (hgen:autoParam (scope.isGenerator=false) aR) (hk:autoParam (scope.kind=.function) aR)
  (hcell:autoParam (∀x∈scope.names,x.2≠ .cell) aD):codeAny (model PR w) A (.call (.ref f) args) R s:=by
 refine codeAny_call_def (fd:=fnOf name qual params body scope dV kV doc pm an cdv ct) (body:=body) (binds:=binds) hroom (X _ _ ho) rfl T.nolimit (codeRec_of X hcd) rfl hbind hcell hloc (fun B2 hns C6=>?_) hco hgen hk
 exact a2L (h B2 ⟨hns,C6,a0W _⟩ News.nil) (fun _ _ x=>x) (fun _ _ x=>x.elim)
section
variable {prog:Program}{w:World}{A:Around}{E:Value ->Shared ->Prop}{s:Shared}{h₀:Heap}{L:Addr}{m:Str ->Option Value}{news:List (Addr×Obj)}
noncomputable abbrev tupOf (vs:List Value):Obj:={cls:=.type "tuple",data:=.seq vs.toArray}
theorem k0e {h h₀:Heap}{D:Addr}(k:∀b o,h₀.get? b=some o ->h.get? b=some o)(e:h.get? D=none):h₀.get? D=none:=by
 cases q:h₀.get? D with
 |none=>rfl
 |some o=>rw[k _ _ q]at e;cases e
theorem p4b:isSubtype (.type "str") (.type "str")=pure true:=by rw[a2I];kernel_rfl
theorem m2x:typeOf (.type "str")=pure (.type "type"):=by kernel_rfl
theorem m6m {k:Value}{dep:Int}{tk:Tok}{Q:Fin ->Shared ->Prop}(hk:k=.int dep tk)(hq:Q (.done (.ret (.bool true))) s):
  wpAny (model prog w) A (Builtin.«issubclass.nested» ⟨[.type "str",.type "str",k],[]⟩) Q E s:=by
 subst hk
 have hm:(Value.type "type"==Value.type "type")=true:=by decide
 have hself:=p4b
 have ht:=m2x
 repeat (any_goals (first|assumption| (rw[if_pos hm])| (rw[hself])| (rw[ht])|wp_step))
theorem m5k {id:String}{args:Args}{q:Unit ->Shared ->Prop}(hk:builtinKind id=none)(ha:argsOk id args)(hq:q () s):
  wpAny (model prog w) A (checkBuiltinCall id args) q E s:=by
 simp only[checkBuiltinCall,hk]
 unfold argsOk at ha
 cases hsig:Manifest.signature? id with
 |none=>exact a0F hq
 |some sig=>
  simp only[hsig]at ha
  have h2:Bind.checkArgs id sig args=pure ():=ha
  show wpAny _ _ (Bind.checkArgs id sig args) q E s
  rw[h2];exact a0F hq
theorem m3s:builtinKind "issubclass.nested"=none:=by decide+kernel
theorem m1u:plainId "issubclass.nested"=true:=by decide+kernel
theorem m4e (a b c:Value):argsOk "issubclass.nested" ⟨[a,b,c],[]⟩:=by unfold argsOk;kernel_rfl
theorem p3z:isSubtype (.type "tuple") (.type "tuple")=pure true:=by rw[a2I];kernel_rfl
theorem m3t {tp:Addr}{cs rest:List Value}{Q:Value ->Shared ->Prop}(hcs:cs=.type "str"::rest)
  (htp:s.heap.get? tp=some (tupOf cs))(hq:∀k,Q (.bool true) {s with toks:=k}):
  wpAny (model prog w) A (call (.builtin "issubclass") [.type "str",.ref tp]) Q E s:=by
 refine a4I (codeAny_call_builtin PySem.F.plain_issubclass PySem.F.entry_issubclass ?_)
 with_reducible refine m5k PySem.F.kind_issubclass (PySem.F.args_issubclass_2 _ _) ?_
 refine issubclass_outer ?_
 obtain⟨h,g,d,t,os⟩:=s
 have hT2:(⟨h,g,d,t,os⟩:Shared).TypeIs (.ref tp) "tuple":=⟨_,htp,rfl⟩
 have f1:=p3z
 repeat wp_step
 refine wpAny_arrayLoop ?_
 simp only[Option.getD_some,List.toList_toArray]
 subst hcs
 rw[a4H]
 refine a0A (a0A (a4I (codeAny_call_builtin m1u PySem.F.entry_issubclass_nested ?_)))
 with_reducible refine m5k m3s (m4e _ _ _) ?_
 refine m6m rfl ?_
 show wpAny _ _ (truthy (.bool true)>>=_) _ _ _
 refine a0A (m:=truthy (.bool true)) (a0F ?_)
 exact a0A (a0F (a0F (a0F (a0F (hq _)))))
end
theorem k1q {M:Model}{Γ:PySem.Ctx}{env:Env}{l2:List Stmt}{Q:Flow ->Pos ->Shared ->Prop}{E:Value ->Pos ->Shared ->Prop}:
  ∀(l1:List Stmt) (p:Pos) (s:Shared),Sem.wp M Γ (execs (l1++l2) env) Q E p s=Sem.wp M Γ (execs l1 env) (fun f p' s'=>match f with| .next=>Sem.wp M Γ (execs l2 env) Q E p' s'|f=>Q f p' s') E p s
 | [],p,s=>by simp only[a2V,execs_nil,Sem.wp_pure']
 |st::l1,p,s=>by
  rw[a3H,execs_cons,execs_cons,Sem.wp_bind',Sem.wp_bind']
  congr 1
  funext f p' s'
  cases f with
  |next=>exact k1q l1 p' s'
  |brk=>simp only[Sem.wp_pure']
  |cont=>simp only[Sem.wp_pure']
  |ret v=>simp only[Sem.wp_pure']
section
variable {prog:Program}{w:World}{A:Around}{E:Value ->Shared ->Prop}{s:Shared}{h₀:Heap}{L D:Addr}{m:Str ->Option Value}{news news':List (Addr×Obj)}{n:Nat}
theorem k6z {vs:List Value}{xs:List Str}(h:StrsAre vs xs):∀(i:Nat) (y:Str),xs[i]?=some y ->∃t,vs[i]?=some (.str y t):=fun i y e=>StrsAre.at h e
theorem k1a {vs:List Value}{xs:List Str}(h:StrsAre vs xs):vs.length=xs.length:=StrsAre.len_eq h
end
theorem k1d:∀ {vs:List Value} {xs:List Str},StrsAre vs xs ->CarriedAll vs (xs.map PyData.str)
 |_,_,.nil=>.nil
 |_,_,.cons _ t r=>.cons (.str _ t) (k1d r)
noncomputable abbrev OkS (xs:List Str):Prop:=∀x∈xs,PyData.strOk x=true
theorem k3a:∀ns:List Str,OkS ns ->PyData.canLayAll0 (ns.map PyData.str)=true
 | [],_=>rfl
 |x::r,h=>by simp[PyData.canLayAll0,PyData.canLay0,k3a r fun y hy=>h y (a4T _ hy),h x a4M]
theorem k4i:∀ns:List Str,PyData.depthAll (ns.map PyData.str)=0
 | []=>rfl
 |_::r=>by simp[PyData.depthAll,PyData.depth,k4i r]
theorem k2l (ns:List Str)(h:OkS ns):SeqAt.shaped (.list (ns.map PyData.str))=true:=by
 simp[SeqAt.shaped,PyData.canLay0,PyData.depth,k3a _ h,k4i]
theorem k5w:∀ns ms:List Str,PySem.Spec.sameAll (ns.map PyData.str) (ms.map PyData.str)=decide (ns=ms)
 | [],[]=>by simp[PySem.Spec.sameAll]
 | [],_::_=>by simp[PySem.Spec.sameAll]
 |_::_,[]=>by simp[PySem.Spec.sameAll]
 |a::r,b::t=>by
  simp only[a0P,PySem.Spec.sameAll,PySem.Spec.same,k5w r t]
  by_cases h:a=b<;>by_cases h':r=t<;>simp[h,h']
theorem m1i (ns ms:List Str):PySem.Spec.same (.list (ns.map PyData.str)) (.list (ms.map PyData.str))=decide (ns=ms):=by
 simp only[PySem.Spec.same];exact k5w ns ms
section
variable {prog:Program}{w:World}{A:Around}{E:Value ->Shared ->Prop}{s:Shared}{h₀:Heap}{L l a b:Addr}{m:Str ->Option Value}{news:List (Addr×Obj)}{value slice:PySem.Expr}{vs ws:List Value}{xs ys:List Str}{Q:Value ->Shared ->Prop}{vl vu vk:Value}
theorem p5m (ha:s.heap.IsList a vs.toArray)(hb:s.heap.IsList b ws.toArray)(hi:StrsAre vs xs)(hj:StrsAre ws ys)(ox:OkS xs)(oy:OkS ys)(hu:A.units+64<cLine)(h:Q (.bool (decide (xs=ys))) s):
  wpAny (model prog w) A (compareOp .Eq (.ref a) (.ref b)) Q E s:=
 eq_dataH_same (reads_newData ha (k1d hi)) (reads_newData hb (k1d hj)) (k2l _ ox) (k2l _ oy) hu (SeqAt.noMix_of_shape (.list .str) rfl _ _ (list_map_has fun _=>rfl) (list_map_has fun _=>rfl)) (by rw[m1i];exact h)
theorem p4y (ha:s.heap.IsList a vs.toArray)(hb:s.heap.IsList b ws.toArray)(hi:StrsAre vs xs)(hj:StrsAre ws ys)(ox:OkS xs)(oy:OkS ys)(hu:A.units+64<cLine)(h:Q (.bool (!decide (xs=ys))) s):
  wpAny (model prog w) A (compareOp .NotEq (.ref a) (.ref b)) Q E s:=
 ne_dataH_same (reads_newData ha (k1d hi)) (reads_newData hb (k1d hj)) (k2l _ ox) (k2l _ oy) hu (SeqAt.noMix_of_shape (.list .str) rfl _ _ (list_map_has fun _=>rfl) (list_map_has fun _=>rfl)) (by rw[m1i];exact h)
theorem m6a {k:Int}(F:Fr h₀ L s.heap m)(N:News h₀ L s.heap news)(hl:s.heap.IsList l vs.toArray)(pl:IsPart vl (some k))(pu:IsPart vu none)(h0:0<=k)(hz:vs.length<=16777216)
  (h:∀D h',Fr h₀ L h' m ->News h₀ L h' ((D,listOf (vs.drop k.toNat).toArray 0)::news) ->(∀p∈news,p.1<D) ->Q (.ref D) {s with heap:=h'})
  (hs:subscripted slice false (.ref l) (.ref s.heap.objs.size)=operate [.ref s.heap.objs.size,.ref l] (getItem (.ref l) (.ref s.heap.objs.size)))(ht:∀r,letTemporaryGo value (.ref l) r=pure ()):
  wpAny (model prog w) A (subscriptTail value slice (.ref l) (.ref s.heap.objs.size)) Q E {s with heap:=s.heap.push {cls:=.type "slice",data:=.fields #[vl,vu,.none]}}:=by
 obtain⟨n,rfl⟩:=a5G h0
 refine kmk_slice_lit F N hl pl pu ?_ h hs ht (by simpa[sizeLine]using hz)
 rw[slicePick_from'];rfl
theorem m5y {k:Int}(F:Fr h₀ L s.heap m)(N:News h₀ L s.heap news)(hl:s.heap.IsList l vs.toArray)(pl:IsPart vl none)(pu:IsPart vu (some k))(h0:0<=k)(hz:vs.length<=16777216)
  (h:∀D h',Fr h₀ L h' m ->News h₀ L h' ((D,listOf (vs.take k.toNat).toArray 0)::news) ->(∀p∈news,p.1<D) ->Q (.ref D) {s with heap:=h'})
  (hs:subscripted slice false (.ref l) (.ref s.heap.objs.size)=operate [.ref s.heap.objs.size,.ref l] (getItem (.ref l) (.ref s.heap.objs.size)))(ht:∀r,letTemporaryGo value (.ref l) r=pure ()):
  wpAny (model prog w) A (subscriptTail value slice (.ref l) (.ref s.heap.objs.size)) Q E {s with heap:=s.heap.push {cls:=.type "slice",data:=.fields #[vl,vu,.none]}}:=by
 obtain⟨n,rfl⟩:=a5G h0
 refine kmk_slice_lit F N hl pl pu ?_ h hs ht (by simpa[sizeLine]using hz)
 rw[slicePick_upto'];rfl
theorem m5z (F:Fr h₀ L s.heap m)(N:News h₀ L s.heap news)(hl:s.heap.IsList l vs.toArray)(pl:IsPart vl none)(pu:IsPart vu (some (-1)))(hz:vs.length<=16777216)
  (h:∀D h',Fr h₀ L h' m ->News h₀ L h' ((D,listOf (vs.dropLast).toArray 0)::news) ->(∀p∈news,p.1<D) ->Q (.ref D) {s with heap:=h'})
  (hs:subscripted slice false (.ref l) (.ref s.heap.objs.size)=operate [.ref s.heap.objs.size,.ref l] (getItem (.ref l) (.ref s.heap.objs.size)))(ht:∀r,letTemporaryGo value (.ref l) r=pure ()):
  wpAny (model prog w) A (subscriptTail value slice (.ref l) (.ref s.heap.objs.size)) Q E {s with heap:=s.heap.push {cls:=.type "slice",data:=.fields #[vl,vu,.none]}}:=by
 refine kms_slice_lit F N hl pl pu ?_ h hs ht (by simpa[sizeLine]using hz)
 simp[kms_pick,kms_lo,kms_hi,a5V]
theorem m7t {j k:Int}(F:Fr h₀ L s.heap m)(N:News h₀ L s.heap news)(hl:s.heap.IsList l vs.toArray)(pl:IsPart vl (some j))(pu:IsPart vu (some k))(h1:0<=j)(h0:0<=k)(hz:vs.length<=16777216)
  (h:∀D h',Fr h₀ L h' m ->News h₀ L h' ((D,listOf ((vs.take k.toNat).drop j.toNat).toArray 0)::news) ->(∀p∈news,p.1<D) ->Q (.ref D) {s with heap:=h'})
  (hs:subscripted slice false (.ref l) (.ref s.heap.objs.size)=operate [.ref s.heap.objs.size,.ref l] (getItem (.ref l) (.ref s.heap.objs.size)))(ht:∀r,letTemporaryGo value (.ref l) r=pure ()):
  wpAny (model prog w) A (subscriptTail value slice (.ref l) (.ref s.heap.objs.size)) Q E {s with heap:=s.heap.push {cls:=.type "slice",data:=.fields #[vl,vu,.none]}}:=by
 obtain⟨n,rfl⟩:=a5G h0
 obtain⟨i,rfl⟩:=a5G h1
 refine kms_slice_lit F N hl pl pu ?_ h hs ht (by simpa[sizeLine]using hz)
 simp only[kms_pick,kms_lo,kms_hi,if_neg (show¬((n:Int)<0) by exact om367),if_neg (show¬((i:Int)<0) by exact om367),a1W]
 rw[List.drop_take,kmk_drop_min,]
 by_cases h:n<=vs.length
 ·rw[a4Y h]
  by_cases h2:i<=vs.length
  ·rw[a4Y h2]
  ·rw[a5P (p4r h2)];simp
 ·rw[a2H (by simp;exact om75 h),a2H (by simp;exact om259 h)]
theorem add_my (F:Fr h₀ L s.heap m)(N:News h₀ L s.heap news)(hl:s.heap.IsList a vs.toArray)(hb:s.heap.IsList b ws.toArray)(hz:vs.length+ws.length<=16777216)
  (h:∀D h',Fr h₀ L h' m ->News h₀ L h' ((D,listOf (vs++ws).toArray 0)::news) ->(∀p∈news,p.1<D) ->Q (.ref D) {s with heap:=h'}):
  wpAny (model prog w) A (binaryOp .Add (.ref a) (.ref b)) Q E s:=
 kmk_add_lit F N hl hb rfl h hz
theorem p5g {x:Str}{t:Tok}(hl:s.heap.IsList l vs.toArray)(hi:StrsAre vs xs)(hok:(xs.map (·.length)).sum+xs.length*x.length<=16777216)
  (h:∀t' k,Q (.str (Txt.join x xs) t') {s with toks:=k}):wpAny (model prog w) A (call (.builtin "str.join") [.str x t,.ref l]) Q E s:=
 join_list hl hi hok h
end
theorem m4r {vs:List Value}{xs:List Str}(h:StrsAre vs xs){i:Nat}{v:Value}(e:vs[i]?=some v):∃x t,xs[i]?=some x∧v=.str x t:=by
 have hi:i<xs.length:=by have:=(a1A.mp e).1;rw[k1a h]at this;exact this
 obtain⟨t,ht⟩:=k6z h i xs[i] (a0D hi)
 rw[e]at ht
 exact⟨xs[i],t,a0D hi,by injection ht⟩
section
variable {prog:Program}{w:World}{A:Around}{E:Value ->Shared ->Prop}{s:Shared}{env:Env}{h₀:Heap}{I7:Str ->Option Value}{news:List (Addr×Obj)}{R:Result ->Shared ->Prop}{x:Str}{px:Pos}{body:List Stmt}
theorem m7u {L l:Addr}{m:Str ->Option Value}{vs:List Value}{vk:Value}{ops:List Value}{value slice:PySem.Expr}{Q:Value ->Shared ->Prop}(F:Fr h₀ L s.heap m)(N:News h₀ L s.heap news)(hl:s.heap.IsList l vs.toArray)(pk:IsPart vk (some (-1)))(hz:vs.length<=16777216)
  (h:∀D h',Fr h₀ L h' m ->News h₀ L h' ((D,listOf vs.reverse.toArray 0)::news) ->(∀p∈news,p.1<D) ->Q (.ref D) {s with heap:=h'})
  (hs:subscripted slice false (.ref l) (.ref s.heap.objs.size)=operate ops (getItem (.ref l) (.ref s.heap.objs.size)))(ht:∀r,letTemporaryGo value (.ref l) r=pure ()):
  wpAny (model prog w) A (subscriptTail value slice (.ref l) (.ref s.heap.objs.size)) Q E {s with heap:=s.heap.push {cls:=.type "slice",data:=.fields #[.none,.none,vk]}}:=
 krv_lit (its:=vs.toArray) (zs:=vs.reverse) F N hl pk rfl h hs ht (by simpa[sizeLine]using hz)
end
noncomputable def AllLen (k:Nat)(xs:List Str):Prop:=∀p∈xs,p.length<=k
theorem k1b {k:Nat}:AllLen k []:=fun _ h=>nomatch h
theorem k0k {k:Nat}{x:Str}{xs:List Str}(h:x.length<=k)(t:AllLen k xs):AllLen k (x::xs):=fun p hp=>by
 rcases a0G.mp hp with rfl|hp
 ·exact h
 ·exact t p hp
theorem k3s {k:Nat}{xs ys:List Str}(h:AllLen k xs)(g:AllLen k ys):AllLen k (xs++ys):=fun p hp=>by
 rcases a0V.mp hp with hp|hp
 ·exact h p hp
 ·exact g p hp
theorem k8f {k n:Nat}{xs:List Str}(h:AllLen k xs):AllLen k (xs.drop n):=fun p hp=>h p (a2S hp)
theorem m2u {k n:Nat}{xs:List Str}(h:AllLen k xs):AllLen k (xs.take n):=fun p hp=>h p (a3D hp)
theorem k0f {k k':Nat}{xs:List Str}(h:AllLen k xs)(hk:k<=k'):AllLen k' xs:=fun p hp=>a0H (h p hp) hk
theorem k5j {k:Nat}:∀ {xs:List Str},AllLen k xs ->(xs.map (·.length)).sum<=xs.length*k
 | [],_=>a0R _
 |x::r,h=>by
  have h1:=h x a4M
  have h2:=k5j (xs:=r) fun p hp=>h p (a4T _ hp)
  simp only[a0P,a6B,a0Q,Nat.add_mul,Nat.one_mul]
  exact om363 h1 h2
theorem m5b {prog:Program}{w:World}{A:Around}{E:Value ->Shared ->Prop}{s:Shared}{l:Addr}{vs:List Value}{xs:List Str}{Q:Value ->Shared ->Prop}{x:Str}{t:Tok}(hl:s.heap.IsList l vs.toArray)(hi:StrsAre vs xs)(ha:AllLen 1000 xs)(hn:xs.length<=1000)(hx:x.length<=10)
  (h:∀t' k,(Txt.join x xs).length<=2000000 ->Q (.str (Txt.join x xs) t') {s with toks:=k}):wpAny (model prog w) A (call (.builtin "str.join") [.str x t,.ref l]) Q E s:=by
 have hb:(Txt.join x xs).length<=2000000:=by
  cases xs with
  |nil=>exact a0R _
  |cons a r=>
   show(Builtin.Str.glued x (a::r)).length<=_
   rw[a5S,len_join_cons]
   have h1:=k5j ha
   have h2:(a::r).length*1000<=1000*1000:=Nat.mul_le_mul_right _ hn
   have h3:r.length*x.length<=1000*10:=Nat.mul_le_mul (by simp at hn;exact a3W hn) hx
   exact om261 h2 h3 h1
 refine p5g hl hi ?_ fun t' k=>h t' k hb
 have h1:=k5j ha
 have h2:xs.length*1000<=1000*1000:=Nat.mul_le_mul_right _ hn
 have h3:xs.length*x.length<=1000*10:=Nat.mul_le_mul hn hx
 exact om262 h2 h3 h1
section
open PySem.Builtin PySem.Builtin.Str
section
variable {prog:Program}{w:World}{A:Around}{E:Value ->Shared ->Prop}{s:Shared}{h₀:Heap}{L D:Addr}{m:Str ->Option Value}{news news':List (Addr×Obj)}{Q:Value ->Shared ->Prop}
theorem k0l (x y:Str):(Txt.split x y).length<=x.length+2:=by
 unfold Txt.split
 split
 ·simp
 ·split
  ·simp
  ·have e1:=StrLaws.occ_length_le x y 0 x.length (x.length+1)
   rw[length_partsBetween];exact Nat.add_le_add_right e1 1
theorem k0s (x y:Str):AllLen x.length (Txt.split x y):=fun _ h=>part_short h
theorem p1d {x y:Str}{t u:Tok}(F:Fr h₀ L s.heap m)(N:News h₀ L s.heap news)(hy:(y.length==0)=false)(hx:x.length<=10000)
  (h:∀D vs h' k,StrsAre vs (Txt.split x y) ->vs.length=(Txt.split x y).length ->(Txt.split x y).length<=x.length+2 ->AllLen x.length (Txt.split x y) ->Fr h₀ L h' m ->News h₀ L h' ((D,listOf vs.toArray 0)::news) ->(∀p∈news,p.1<D) ->Q (.ref D) {s with heap:=h',toks:=k}):
  wpAny (model prog w) A (call (.builtin "str.split") [.str x t,.str y u]) Q E s:=by
 refine splitN1 F N hy (fun l h' k e F' N'=>?_) (by rw[a1S];exact om522 hx)
 have sa:=strsAre_of_values l
 rw[e]at sa
 exact h _ _ h' k sa (k1a sa) (k0l _ _) (k0s _ _) F' N' fun p hp=>a0M (N p hp).1
end
end
set_option tactic.hygienic true in
theorem p3j {w:World}{A:Around}{s:Shared}{mg mb:Str ->Option Value}{R:Result ->Shared ->Prop}{name qual:Str}{params:Arguments}{body:List Stmt}{scope:Scope}
  {dV kV doc pm cdv ct oc:Value}{an od:Option Addr}{osl:Array (Option Value)}{f:Addr}{args:Args}{items:List Value}{binds:Addr ->List (Str×Value)}
  (X:(hd.heap_1 w.params).In s.heap)(T:TopRead vw loose mg mb s.heap)(hroom:A.depth<recursionLimit)
  (ho:(hd.heap_1 w.params).lookup f=some ⟨oc,od,.func (fnOf name qual params body scope dV kV doc pm an cdv ct),osl⟩)(hcd:codeIn (hd.heap_1 w.params) cdv qual=true)
  (hp:peek1 (hd.heap_1 w.params) ⟨PR,w.params⟩ (bindArgs (fnOf name qual params body scope dV kV doc pm an cdv ct) args)=some (tupOf items,fun D=>some (binds D)))
  (hloc:∀D,∀y∈binds D,scope.names.lookup y.1=some .local)
  (h:∀D B2,D<s.heap.objs.size+1 ->Fr s.heap (s.heap.objs.size+1) B2 (fun y=>(binds D).reverse.lookup y) ->News s.heap (s.heap.objs.size+1) B2 [(D,tupOf items)] ->
   wpAny (model PR w) (A.deeper (envOf qual scope (s.heap.objs.size+1) f cdv)) (execs body (envOf qual scope (s.heap.objs.size+1) f cdv))
    (fun fl s'=>R (.ok (.ret (match fl with| .ret v=>v|_=>.none))) s') (fun _ _=>False)
    {s with heap:=B2,toks:=s.toks+(binds D).length})
  (hco:autoParam (scope.isCoroutine=false) aR) (hgen:autoParam (scope.isGenerator=false) aR) (hk:autoParam (scope.kind=.function) aR)
  (hcell:autoParam (∀x∈scope.names,x.2≠ .cell) aD):codeAny (model PR w) A (.call (.ref f) args) R s:=by
 refine codeAny_call_function (fd:=fnOf name qual params body scope dV kV doc pm an cdv ct) (body:=body) hroom (X _ _ ho) rfl hco hgen rfl (codeRec_of X hcd) ?_
 have key:∀(t:Sem (List (Str×Value))),peek1 (hd.heap_1 w.params) ⟨PR,w.params⟩ t=some (tupOf items,fun D=>some (binds D)) ->∀(A':Around) (Q:List (Str×Value) ->Shared ->Prop) (E:Value ->Shared ->Prop),
   Q (binds s.heap.objs.size) {s with heap:=s.heap.push (tupOf items)} ->wpAny (model PR w) A' t Q E s:=by
  intro t ht A' Q E hq
  induction t with
  |rule _ k ih=>intro Γ p hΓ;exact ih () ht Γ p hΓ
  |point _ k ih=>intro Γ p hΓ;exact ih () ht Γ p hΓ
  |ask k ih=>intro Γ p hΓ;exact ih _ ht Γ p hΓ
  |load a _ k ih=>
   intro Γ p hΓ
   simp only[peek1]at ht
   split at ht
   ·rename_i ob ho;exact⟨ob,X _ _ ho,ih ob ht Γ p hΓ⟩
   ·cases ht
  |alloc ob k _=>
   intro Γ p hΓ
   simp only[peek1]at ht
   obtain⟨e1,e2⟩:=Prod.mk.inj (a4X ht)
   subst e1
   have e3:=congrFun e2 s.heap.objs.size
   exact wp_of_peek (s:={s with heap:=s.heap.push (tupOf items)}) (X.keeps fun b o e=>a0C _ e) hq _ e3
  |_=>simp only[peek1]at ht;cases ht
 refine key _ hp _ _ _ ?_
 have k0:∀b o,s.heap.get? b=some o ->(s.heap.push (tupOf items)).get? b=some o:=fun b o e=>a0C _ e
 refine a6I (s:={s with heap:=s.heap.push (tupOf items)}) hcell (hloc _) (fun h₀ hns0 hsb0=>⟨(T.keeps k0).nolimit.fresh _ hsb0,codeAny_func ?_⟩) hk
 have k1:∀b o,(s.heap.push (tupOf items)).get? b=some o ->h₀.get? b=some o:=fun b o e=>hsb0.extBut b o (a0S (a0M e)) (a0C _ e)
 have hs:(s.heap.push (tupOf items)).objs.size=s.heap.objs.size+1:=a1Q ..
 dsimp only at hns0 hs⊢
 rw[hs]at hns0⊢
 refine a2L (h s.heap.objs.size h₀ (a2B _) ⟨hns0,fun b o e=>k1 b o (k0 b o e),a6S _⟩ ?_) (fun _ _ x=>x) (fun _ _ x=>x.elim)
 intro p hp
 rw[a0B.mp hp]
 refine⟨k1 _ _ (a0I _ rfl),a0S (a2B _),?_⟩
 cases q:s.heap.get? s.heap.objs.size with
 |none=>rfl
 |some o=>exact absurd (a0M q) (a1R _)
theorem enterC {w:World}{A:Around}{s:Shared}{mg mb:Str ->Option Value}{R:Result ->Shared ->Prop}{name qual:Str}{params:Arguments}{body:List Stmt}{scope:Scope}
  {dV kV doc pm cdv ct oc:Value}{an od:Option Addr}{osl:Array (Option Value)}{f:Addr}{args:Args}{binds:List (Str×Value)}
  (X:(hd.heap_1 w.params).In s.heap)(T:TopRead vw loose mg mb s.heap)(hroom:A.depth<recursionLimit)
  (ho:(hd.heap_1 w.params).lookup f=some ⟨oc,od,.func (fnOf name qual params body scope dV kV doc pm an cdv ct),osl⟩)(hcd:codeIn (hd.heap_1 w.params) cdv qual=true)
  (hbind:BindsTo s (fnOf name qual params body scope dV kV doc pm an cdv ct) args binds)(hkind:(binds.all fun y=>scope.names.lookup y.1==some .local||scope.names.lookup y.1==some .cell)=true)
  (hnd:((cellsFrom 0 scope.names []).map (·.1)).Nodup)
  (h:∀B2 tk cells,Fr s.heap s.heap.objs.size B2 (bindL (envOfC qual scope s.heap.objs.size f cdv).kindOf binds fun _=>none) ->News s.heap s.heap.objs.size B2 cells ->
   CellsAre (bindC (envOfC qual scope s.heap.objs.size f cdv).kindOf binds fun _=>none) (cellsFrom (s.heap.objs.size+1) scope.names []) cells ->
   wpAny (model PR w) (A.deeper (envOfC qual scope s.heap.objs.size f cdv)) (execs body (envOfC qual scope s.heap.objs.size f cdv))
    (fun fl s'=>R (.ok (.ret (match fl with| .ret v=>v|_=>.none))) s') (fun _ _=>False)
    {s with heap:=B2,toks:=tk})
  (hco:autoParam (scope.isCoroutine=false) aR) (hgen:autoParam (scope.isGenerator=false) aR) (hk:autoParam (scope.kind=.function) aR):codeAny (model PR w) A (.call (.ref f) args) R s:=by
 refine codeAny_call_function (fd:=fnOf name qual params body scope dV kV doc pm an cdv ct) (body:=body) hroom (X _ _ ho) rfl hco hgen rfl (codeRec_of X hcd) (hbind _ _ _ _ ?_)
 refine wpAny_newFunctionEnv_cells hk (kindsX hkind _) fun env' he s' x=>?_
 subst he
 refine⟨T.nolimit.keeps x.toInCall.keep,codeAny_func ?_⟩
 refine x2a2 x.done fun B2 tk za _=>?_;obtain rfl:=za
 have C6:=x.toInCall.keep
 refine x1a2 (Cl.news (h₀:=s.heap) (a0W _) fun n c hm=>⟨x.cell n c (lookup_of_mem_nodup (cellsFrom_names scope.names 0 (s.heap.objs.size+1) [] [] rfl▸hnd) hm),x.above n c hm⟩) fun cells NC Y=>?_
 exact a2L (h B2 tk cells ⟨x.toInCall.ns,C6,a0W _⟩ (fun p hp=>⟨(NC p hp).1,(NC p hp).2.1,(NC p hp).2.2⟩) Y) (fun _ _ y=>y) (fun _ _ y=>y.elim)
section
open PySem.Builtin PySem.MeetsSeq PySem.MeetsSeq3
open PySem.AutoSeq1 (wpAny_loadPart')
noncomputable def k4t (x y:Str):Bool:=decide (x.cps.toList<y.cps.toList)
noncomputable def ltList:List Str ->List Str ->Bool
 |x::xs,y::ys=>if x=y then ltList xs ys else k4t x y
 | [],_::_=>true
 |_,[]=>false
theorem p0f {M:Model}{A:Around}{E:Value ->Shared ->Prop}{s:Shared}{a b:Value}{Q:Value ->Shared ->Prop}(h:wpAny M A (compareOp .Lt a b) Q E s):wpAny M A (richCompare .Lt a b) Q E s:=h
theorem p0g {M:Model}{A:Around}{E:Value ->Shared ->Prop}{s:Shared}{a b:Value}{Q:Value ->Shared ->Prop}(h:wpAny M A (compareOp .Gt a b) Q E s):wpAny M A (richCompare .Gt a b) Q E s:=h
theorem gt_str {prog:Program}{w:World}{A:Around}{E:Value ->Shared ->Prop}{s:Shared}{x y:Str}{t u:Tok}{Q:Value ->Shared ->Prop}(h:Q (.bool (k4t y x)) s):
  wpAny (model prog w) A (compareOp .Gt (.str x t) (.str y u)) Q E s:=
 compareOp_gives (op:=.Gt) (typeIs_str s x t) (typeIs_str s y u) F.slot_str_gt F.entry_str_gt (F.args_str_gt_2 _ _) (gives_str_gt x y t u) (fun e=>nomatch e) h
theorem eqStr (x y:Str)(t u:Tok):EqGives (.str x t) (.str y u) (x==y):=fun _ _ _ _ _ _ h=>wpAny_eqBool_str h
theorem k4u {α:Type}{us:List α}{i:Nat}(h:us.length<=i):us.toArray[((i:Nat):Int).toNat]?=none:=by simp;exact om20 h
theorem k1f {α:Type}{us:List α}{i:Nat}{v:α}(h:us[i]?=some v):us.toArray[((i:Nat):Int).toNat]?=some v:=by simpa using h
theorem k2o {α:Type}{us:List α}{i:Nat}{v:α}(h:us[i]?=some v):us.drop i=v::us.drop (i+1):=by
 obtain⟨hi,rfl⟩:=a1A.mp h
 exact List.drop_eq_getElem_cons hi
theorem lt_rc {prog:Program}{w:World}{A:Around}{E:Value ->Shared ->Prop}{s:Shared}{x y:Str}{t u:Tok}{Q:Value ->Shared ->Prop}(h:Q (.bool (k4t x y)) s):
  wpAny (model prog w) A (richCompare .Lt (.str x t) (.str y u)) Q E s:=p0f (lt_str h)
theorem gt_rc {prog:Program}{w:World}{A:Around}{E:Value ->Shared ->Prop}{s:Shared}{x y:Str}{t u:Tok}{Q:Value ->Shared ->Prop}(h:Q (.bool (k4t y x)) s):
  wpAny (model prog w) A (richCompare .Gt (.str x t) (.str y u)) Q E s:=p0g (gt_str h)
section
variable {us ws:List Value}{xs ys:List Str}{n n2:Nat}{dd dd2:Option Addr}{sl sl2:Array (Option Value)}
noncomputable abbrev lisO (us:List Value)(n:Nat)(dd:Option Addr)(sl:Array (Option Value)):Obj:={cls:=.type "list",dict:=dd,data:=.seq us.toArray n,slots:=sl}
theorem p5a (l b:Addr)(hu:StrsAre us xs)(hw:StrsAre ws ys)(k:Nat):
  ∀i:Nat,us.length-i=k ->i<=us.length ->i<=ws.length ->Meets (Builtin.«list.__eq__.loop» ⟨[.ref l,.ref b,rawInt i,rawInt 0],[]⟩)
   (fun _ R s=>s.heap.get? l=some (lisO us n dd sl)∧s.heap.get? b=some (lisO ws n2 dd2 sl2)∧R (.ok (.ret (.bool (ltList (xs.drop i) (ys.drop i))))) s):=by
 have e1:=k1a hu
 have e2:=k1a hw
 induction k with
 |zero=>
  intro i hk hiu hiw prog w A R s h
  obtain⟨hp,g,d,tk,os⟩:=s;revert h;intro zq;refine an3 zq fun hl hb h=>?_
  rw[show xs.drop i=[] by simp;exact om39 hk e1]at h
  wp_walk using a1K hl,a1K hb
  rw[k4u (us:=us) (om40 hk)]
  wp_walk using a1K hl,a1K hb
  show R (.ok (.ret (.bool (decide (us.toArray.size<ws.toArray.size))))) _
  rw[a1M,a1M]
  cases hd:ys.drop i with
  |nil=>
   rw[hd]at h
   have:ys.length<=i:=by simpa using hd
   rw[a2G (om335 e2 hiu this)];exact h
  |cons y r=>
   rw[hd]at h
   have:i<ys.length:=by
    have:=a3C List.length hd;simp at this;exact om21 this
   rw[a3N (om201 hk this e2)];exact h
 |succ k ih=>
  intro i hk hiu hiw prog w A R s h
  obtain⟨hp,g,d,tk,os⟩:=s;revert h;intro zq;refine an3 zq fun hl hb h=>?_
  have hlt:i<xs.length:=om71 hk e1
  obtain⟨x,hx⟩:∃x,xs[i]?=some x:=⟨xs[i],a0D hlt⟩
  obtain⟨t,ht⟩:=k6z hu i x hx
  rw[k2o hx]at h
  wp_walk using a1K hl,a1K hb
  rw[k1f ht]
  by_cases hlt2:i<ys.length
  ·obtain⟨y,hy⟩:∃y,ys[i]?=some y:=⟨ys[i],a0D hlt2⟩
   obtain⟨u,hv⟩:=k6z hw i y hy
   rw[k2o hy]at h
   rw[k1f hv]
   refine a0A (eqStr x y t u prog w _ _ _ _ ?_)
   have hc:((i:Int)+1)=((i+1:Nat):Int):=by push_cast;rfl
   cases hb':x==y with
   |true=>
    have e:x=y:=by simpa using hb'
    simp only[ltList,if_pos e]at h
    wp_walk
    rw[hc]
    exact⟨a1Z plain_eq_loop _,a2D entry_eq_loop (by
     rw[a1H plain_eq_loop _]
     exact ih (i+1) (om2 hk) (om151 hk) (om142 hlt2 e2) prog w A R _ ⟨hl,hb,h⟩)⟩
   |false=>
    have e:x≠y:=by simpa using hb'
    simp only[ltList,if_neg e]at h
    wp_walk using a1K hl,a1K hb
    rw[k1f ht,k1f hv]
    wp_walk using lt_rc
    exact h
  ·rw[k4u (us:=ws) (om62 e2 hlt2)]
   rw[show ys.drop i=[] by simp;exact om95 hlt2]at h
   wp_walk using a1K hl,a1K hb
   show R (.ok (.ret (.bool (decide (us.toArray.size<ws.toArray.size))))) _
   rw[a1M,a1M,a2G (om308 e2 hiu hlt2)]
   exact h
theorem p5i (l b:Addr)(hu:StrsAre us xs)(hw:StrsAre ws ys)(k:Nat):
  ∀i:Nat,us.length-i=k ->i<=us.length ->i<=ws.length ->Meets (Builtin.«list.__eq__.loop» ⟨[.ref l,.ref b,rawInt i,rawInt 4],[]⟩)
   (fun _ R s=>s.heap.get? l=some (lisO us n dd sl)∧s.heap.get? b=some (lisO ws n2 dd2 sl2)∧R (.ok (.ret (.bool (ltList (ys.drop i) (xs.drop i))))) s):=by
 have e1:=k1a hu
 have e2:=k1a hw
 induction k with
 |zero=>
  intro i hk hiu hiw prog w A R s h
  obtain⟨hp,g,d,tk,os⟩:=s;revert h;intro zq;refine an3 zq fun hl hb h=>?_
  rw[show xs.drop i=[] by simp;exact om39 hk e1]at h
  wp_walk using a1K hl,a1K hb
  rw[k4u (us:=us) (om40 hk)]
  wp_walk using a1K hl,a1K hb
  show R (.ok (.ret (.bool (decide (us.toArray.size>ws.toArray.size))))) _
  rw[a1M,a1M]
  have h0:ltList (ys.drop i) []=false:=by cases ys.drop i<;>rfl
  rw[h0]at h
  rw[a2G (om218 hk hiw)];exact h
 |succ k ih=>
  intro i hk hiu hiw prog w A R s h
  obtain⟨hp,g,d,tk,os⟩:=s;revert h;intro zq;refine an3 zq fun hl hb h=>?_
  have hlt:i<xs.length:=om71 hk e1
  obtain⟨x,hx⟩:∃x,xs[i]?=some x:=⟨xs[i],a0D hlt⟩
  obtain⟨t,ht⟩:=k6z hu i x hx
  rw[k2o hx]at h
  wp_walk using a1K hl,a1K hb
  rw[k1f ht]
  by_cases hlt2:i<ys.length
  ·obtain⟨y,hy⟩:∃y,ys[i]?=some y:=⟨ys[i],a0D hlt2⟩
   obtain⟨u,hv⟩:=k6z hw i y hy
   rw[k2o hy]at h
   rw[k1f hv]
   refine a0A (eqStr x y t u prog w _ _ _ _ ?_)
   have hc:((i:Int)+1)=((i+1:Nat):Int):=by push_cast;rfl
   cases hb':x==y with
   |true=>
    have e:x=y:=by simpa using hb'
    simp only[ltList,if_pos e.symm]at h
    wp_walk
    rw[hc]
    exact⟨a1Z plain_eq_loop _,a2D entry_eq_loop (by
     rw[a1H plain_eq_loop _]
     exact ih (i+1) (om2 hk) (om151 hk) (om142 hlt2 e2) prog w A R _ ⟨hl,hb,h⟩)⟩
   |false=>
    have e:x≠y:=by simpa using hb'
    simp only[ltList,if_neg (Ne.symm e)]at h
    wp_walk using a1K hl,a1K hb
    rw[k1f ht,k1f hv]
    wp_walk using gt_rc
    exact h
  ·rw[k4u (us:=ws) (om62 e2 hlt2)]
   rw[show ys.drop i=[] by simp;exact om95 hlt2]at h
   wp_walk using a1K hl,a1K hb
   show R (.ok (.ret (.bool (decide (us.toArray.size>ws.toArray.size))))) _
   rw[a1M,a1M,a3N (om322 hk e2 hlt2)]
   exact h
theorem p5b (l b:Addr)(hu:StrsAre us xs)(hw:StrsAre ws ys):Meets (Builtin.«list.__lt__» ⟨[.ref l,.ref b],[]⟩)
   (fun _ R s=>s.heap.get? l=some (lisO us n dd sl)∧s.heap.get? b=some (lisO ws n2 dd2 sl2)∧R (.ok (.ret (.bool (ltList xs ys)))) s):=by
 intro prog w A R s h
 obtain⟨hp,g,d,tk,os⟩:=s;revert h;intro zq;refine an3 zq fun hl hb h=>?_
 have f3:=AutoSeq1.sub_list_list
 wp_walk using a1K hl,a1K hb
 exact⟨a1Z plain_eq_loop _,a2D entry_eq_loop (by
  rw[a1H plain_eq_loop _]
  exact p5a l b hu hw _ 0 rfl (a0R _) (a0R _) prog w A R _ ⟨hl,hb,by simpa using h⟩)⟩
theorem p5c (l b:Addr)(hu:StrsAre us xs)(hw:StrsAre ws ys):Meets (Builtin.«list.__gt__» ⟨[.ref l,.ref b],[]⟩)
   (fun _ R s=>s.heap.get? l=some (lisO us n dd sl)∧s.heap.get? b=some (lisO ws n2 dd2 sl2)∧R (.ok (.ret (.bool (ltList ys xs)))) s):=by
 intro prog w A R s h
 obtain⟨hp,g,d,tk,os⟩:=s;revert h;intro zq;refine an3 zq fun hl hb h=>?_
 have f3:=AutoSeq1.sub_list_list
 wp_walk using a1K hl,a1K hb
 exact⟨a1Z plain_eq_loop _,a2D entry_eq_loop (by
  rw[a1H plain_eq_loop _]
  exact p5i l b hu hw _ 0 rfl (a0R _) (a0R _) prog w A R _ ⟨hl,hb,by simpa using h⟩)⟩
theorem k3o {h:Heap}{l:Addr}(hl:h.IsList l us.toArray):∃n dd sl,h.get? l=some (lisO us n dd sl):=by
 refine x1a3 hl fun za ho hc zx=>ex1 zx fun n hd=>?_;clear hl zx;obtain⟨c,dd,dt,sl⟩:=za
 dsimp only at hc hd
 subst hc hd
 exact⟨n,dd,sl,ho⟩
variable {prog:Program}{w:World}{A:Around}{E:Value ->Shared ->Prop}{s:Shared}{Q:Value ->Shared ->Prop}{l b:Addr}
theorem m3i (hl:s.heap.IsList l us.toArray)(hb:s.heap.IsList b ws.toArray)(hu:StrsAre us xs)(hw:StrsAre ws ys)(hr:A.units<cLine)(h:Q (.bool (ltList xs ys)) s):
  wpAny (model prog w) A (richCompare .Lt (.ref l) (.ref b)) Q E s:=by
 refine ex3 (k3o hl) fun n dd sl ho=>?_
 refine ex3 (k3o hb) fun n2 dd2 sl2 ho2=>?_
 exact richCompare_meets_room hl.typeIs hb.typeIs F.slot_list_lt F.entry_list_lt (F.args_list_lt_2 _ _) (p5b l b hu hw) ⟨ho,ho2,show _≠_∧_ from⟨(by intro e;cases e),h⟩⟩ hr
theorem m3j (hl:s.heap.IsList l us.toArray)(hb:s.heap.IsList b ws.toArray)(hu:StrsAre us xs)(hw:StrsAre ws ys)(hr:A.units<cLine)(h:Q (.bool (ltList ys xs)) s):
  wpAny (model prog w) A (richCompare .Gt (.ref l) (.ref b)) Q E s:=by
 refine ex3 (k3o hl) fun n dd sl ho=>?_
 refine ex3 (k3o hb) fun n2 dd2 sl2 ho2=>?_
 exact richCompare_meets_room hl.typeIs hb.typeIs F.slot_list_gt F.entry_list_gt (F.args_list_gt_2 _ _) (p5c l b hu hw) ⟨ho,ho2,show _≠_∧_ from⟨(by intro e;cases e),h⟩⟩ hr
end
end
section
variable {prog:Program}{w:World}{A:Around}{R:Result ->Shared ->Prop}{I S:Addr}{fp wr:List Addr}{n:Nat}{P:Nat ->Value ->Prop}{St:Nat ->Heap ->Prop}
theorem m3o (W:Walks prog w A.in1 I fp wr n P St)(bt:Nat ->Nat ->Bool)(H:Heap ->Prop)(hH:∀h h',H h ->(∀b o,b∉wr ->b≠S ->h.get? b=some o ->h'.get? b=some o) ->H h')
  (hcmp:∀i j vi vj (s:Shared) (Q:Value ->Shared ->Prop) (E:Value ->Shared ->Prop),H s.heap ->P i vi ->P j vj ->Q (.bool (bt i j)) s ->wpAny (model prog w) A.in1 (richCompare .Lt vi vj) Q E s)(hSf:S∉fp):
  ∀(k j:Nat) (s:Shared) (vb:Value) (c:Nat),n-(j+1)=k ->j+1<=n ->H s.heap ->St (j+1) s.heap ->P (argBest bt j) vb ->s.heap.get? S=some (listOf #[vb,vb] c) ->
  (∀v h' tk,P (argBest bt (n-1)) v ->(∀b o,b∉wr ->b≠S ->s.heap.get? b=some o ->h'.get? b=some o) ->R (.ok (.ret v)) {s with heap:=h',toks:=tk}) ->
  codeAny (model prog w) A (.builtin "min.loop" ⟨[.ref I,.none,.ref S],[]⟩) R s:=by
 have hSw:S∉wr:=fun h=>hSf (W.sub _ h)
 have hname:(toString "min"++toString ".loop":String)="min.loop":=by decide
 intro k
 induction k with
 |zero=>
  intro j s vb c hk hj hh hst hPb hS hR
  have hin:j+1=n:=om91 hj hk
  refine a2D F.entry_min_loop ?_
  rw[a1H a5K _]
  show wpAny _ A.in1 (seqItems? (.ref S)>>=_) _ _ s
  refine a0A (a2P hS rfl ?_)
  show wpAny _ A.in1 (tryCatch (pyNext (.ref I)) _>>=_) _ _ s
  refine a0A (a5M (W.done s _ _ (hin▸hst) fun h' tk hk'=>?_))
  have hS':=hk' S _ hSw hS
  show wpAny _ A.in1 (updateSeq S (fun _=> #[])>>=_) _ _ _
  refine a0A (a2X hS' rfl (a0A (a5B (a0F ?_))))
  exact hR vb _ tk (by rw[<-hin];exact hPb) fun b o hbw hbS e=>(a0O _ _ (Ne.symm hbS)).trans (hk' b o hbw e)
 |succ k ih=>
  intro j s vb c hk hj hh hst hPb hS hR
  have hlt:j+1<n:=om93 hk
  refine a2D F.entry_min_loop ?_
  rw[a1H a5K _]
  show wpAny _ A.in1 (seqItems? (.ref S)>>=_) _ _ s
  refine a0A (a2P hS rfl ?_)
  show wpAny _ A.in1 (tryCatch (pyNext (.ref I)) _>>=_) _ _ s
  refine a0A (a5M (W.item (j+1) s _ _ hlt hst fun v h' tk hP hst' hk'=>?_))
  have hS':=hk' S _ hSw hS
  have hh':=hH _ h' hh fun b o hb _ e=>hk' b o hb e
  show wpAny _ A.in1 (tryCatch (holding [v,v] (richCompare .Lt v vb>>=_)) _>>=_) _ _ _
  refine a0A (a5M (a1O (a0A (hcmp (j+1) (argBest bt j) v vb _ _ _ hh' hP hPb ?_))))
  refine a0A (a1O (wpAny_truthy_bool ?_))
  refine a0A (a5B (a0F ?_))
  cases hb:bt (j+1) (argBest bt j)with
  |true=>
   simp only[a4Q]
   refine a0A (a2X hS' rfl (a0A (a5B ?_)))
   rw[hname]
   refine a0F ⟨a1Z a5K _,ih (j+1) _ v _ (om9 hk) hlt (hH _ _ hh' fun b o _ hbS e=>(a0O _ _ (Ne.symm hbS)).trans e) (W.frame _ _ _ hst' fun b hbf o e=>?_) (by simp only[argBest,hb,a4Q];exact hP) (a1G _ hS' rfl)
    fun v' h'' tk'' hP' hk''=>?_⟩
   ·exact(a0O _ _ (fun h:S=b=>hSf (by rw[h];exact hbf))).trans e
   ·exact hR v' h'' tk'' hP' fun b o hbw hbS e=>hk'' b o hbw hbS ((a0O _ _ (Ne.symm hbS)).trans (hk' b o hbw e))
  |false=>
   simp only[a3A,if_false]
   refine a0A (a5B ?_)
   rw[hname]
   refine a0F ⟨a1Z a5K _,ih (j+1) _ vb c (om9 hk) hlt hh' hst' (by simp only[argBest,hb,a3A,if_false];exact hPb) hS' fun v' h'' tk'' hP' hk''=>?_⟩
   exact hR v' h'' tk'' hP' fun b o hbw hbS e=>hk'' b o hbw hbS (hk' b o hbw e)
theorem my_min {m:Addr}{vs:List Value}{xss:List (List Str)}{Q:Value ->Shared ->Prop}{E:Value ->Shared ->Prop}{s:Shared}
  (hm:s.heap.IsList m vs.toArray)(hl:xss.length=vs.length)(h0:0<vs.length)(hv:∀i v,vs[i]?=some v ->∃l us,v=.ref l∧s.heap.IsList l us.toArray∧StrsAre us (xss.getD i []))
  (hh:A.handled=none)(hr:A.in1.units<cLine)
  (h:∀v h' tk,vs[argBest (fun i j=>ltList (xss.getD i []) (xss.getD j [])) (vs.length-1)]?=some v ->(∀b o,s.heap.get? b=some o ->h'.get? b=some o) ->Q v {s with heap:=h',toks:=tk}):
  wpAny (model prog w) A (call (.builtin "min") [.ref m]) Q E s:=by
 have hname:(toString "min"++toString ".loop":String)="min.loop":=by decide
 refine call_function_tree F.kind_min F.plain_min F.entry_min (F.args_min1 _) ?_
 show wpAny _ A.in1 (Builtin.Builtins.bindParams "min" ["key","default"] 0 ⟨[],[]⟩>>=_) _ _ s
 refine a0A (a5A (show Builtin.Builtins.bindParams "min" ["key","default"] 0 ⟨[],[]⟩=pure [none,none]from rfl) ?_)
 refine a0A (a0F ?_)
 refine a0A (a3J hm ?_)
 refine a0A (a2U ?_)
 rw[hname]
 have hlt:m≠s.heap.objs.size:=let⟨_,ho,_⟩:=hm;a0S (a0M ho)
 have k1:∀(ob ob':Obj) b o,s.heap.get? b=some o ->((s.heap.push ob).push ob').get? b=some o:=fun ob ob' b o e=>a0C _ (a0C _ e)
 have hs1:∀ob,(s.heap.push ob).objs.size=s.heap.objs.size+1:=fun ob=>a1Q ..
 have W:=Walks.list (prog:=prog) (w:=w) (A:=A.in1) hh s.heap.objs.size m hlt vs.toArray
 dsimp only
 have old:∀b o,s.heap.get? b=some o ->b∉[s.heap.objs.size]∧b≠s.heap.objs.size+1:=fun b o e=>⟨fun q=>a0S (a0M e) (a0B.mp q),fun q=>by have:=a0M e;rw[q]at this;exact absurd this (by show¬(_:Nat)<_;exact om18)⟩
 refine a0F ⟨a1Z a5K _,?_⟩
 rw[hs1]
 have h2:=(show _ from h)
 refine a2D F.entry_min_loop ?_
 rw[a1H a5K _]
 show wpAny _ A.in1 (seqItems? (.ref (s.heap.objs.size+1))>>=_) _ _ _
 have hS0:=a0I (s.heap.push {cls:=.type "list_iterator",data:=.fields #[.ref m,.int 0 0]}) (o:=listOf #[] 0) rfl
 rw[hs1]at hS0
 refine a0A (a2P hS0 rfl ?_)
 show wpAny _ A.in1 (tryCatch (pyNext (.ref s.heap.objs.size)) _>>=_) _ _ _
 refine a0A (a5M (W.item 0 _ _ _ (by simpa using h0) ⟨⟨_,a0C _ (a0I _ rfl),rfl,rfl⟩,hm.at fun o e=>k1 _ _ _ _ e⟩ fun v h' tk hP hst' hk'=>?_))
 have hne1:s.heap.objs.size+1∉[s.heap.objs.size]:=fun q=>absurd (a0B.mp q) (a3R _)
 have hS':=hk' _ _ hne1 hS0
 show wpAny _ A.in1 (updateSeq (s.heap.objs.size+1) (fun _=> #[v,v])>>=_) _ _ _
 refine a0A (a2X hS' rfl ?_)
 rw[hname]
 refine a0F ⟨a1Z a5K _,m3o (S:=s.heap.objs.size+1) W (fun i j=>ltList (xss.getD i []) (xss.getD j [])) (fun h=>∀b o,s.heap.get? b=some o ->h.get? b=some o)
  (fun h h' a b c o e=>b c o (old c o e).1 (old c o e).2 (a c o e)) ?_ ?_ _ 0 _ v _ rfl (by rw[a1M];exact om283 h0) ?_ (W.frame _ _ _ hst' fun b hbf o e=>(a0O _ _ ?_).trans e) hP (a1G _ hS' rfl) ?_⟩
 ·intro i j vi vj B0 Q2 F9 hh2 hi hj hQ
  refine x2a3 (hv i vi (by simpa using hi)) fun li ui za a1 a2=>?_;obtain rfl:=za
  refine x2a3 (hv j vj (by simpa using hj)) fun lj uj za b1 b2=>?_;obtain rfl:=za
  exact m3i (a1.at fun o e=>hh2 _ _ e) (b1.at fun o e=>hh2 _ _ e) a2 b2 hr hQ
 ·intro q
  rcases a0G.mp q with q|q
  ·exact absurd q (a3R _)
  ·have q:=a0B.mp q
   refine x1a2 hm fun _ ho _=>?_
   have:=a0M ho
   rw[<-q]at this
   exact absurd this (by show¬(_:Nat)<_;exact om18)
 ·intro b o e
  exact(a0O _ _ (Ne.symm (old b o e).2)).trans (hk' b o (old b o e).1 (k1 _ _ _ _ e))
 ·rcases a0G.mp hbf with q|q
  ·rw[q];exact a3R _
  ·rw[a0B.mp q]
   refine x1a2 hm fun _ ho _=>?_
   have:=a0M ho
   intro q
   rw[<-q]at this;exact absurd this (by show¬(_:Nat)<_;exact om18)
 ·intro v' h'' tk'' hP' hk''
  refine h v' h'' _ (by simpa using hP') fun b o e=>hk'' b o (old b o e).1 (old b o e).2 ?_
  exact(a0O _ _ (Ne.symm (old b o e).2)).trans (hk' b o (old b o e).1 (k1 _ _ _ _ e))
theorem m3p (W:Walks prog w A.in1 I fp wr n P St)(bt:Nat ->Nat ->Bool)(H:Heap ->Prop)(hH:∀h h',H h ->(∀b o,b∉wr ->b≠S ->h.get? b=some o ->h'.get? b=some o) ->H h')
  (hcmp:∀i j vi vj (s:Shared) (Q:Value ->Shared ->Prop) (E:Value ->Shared ->Prop),H s.heap ->P i vi ->P j vj ->Q (.bool (bt i j)) s ->wpAny (model prog w) A.in1 (richCompare .Gt vi vj) Q E s)(hSf:S∉fp):
  ∀(k j:Nat) (s:Shared) (vb:Value) (c:Nat),n-(j+1)=k ->j+1<=n ->H s.heap ->St (j+1) s.heap ->P (argBest bt j) vb ->s.heap.get? S=some (listOf #[vb,vb] c) ->
  (∀v h' tk,P (argBest bt (n-1)) v ->(∀b o,b∉wr ->b≠S ->s.heap.get? b=some o ->h'.get? b=some o) ->R (.ok (.ret v)) {s with heap:=h',toks:=tk}) ->
  codeAny (model prog w) A (.builtin "max.loop" ⟨[.ref I,.none,.ref S],[]⟩) R s:=by
 have hSw:S∉wr:=fun h=>hSf (W.sub _ h)
 have hname:(toString "max"++toString ".loop":String)="max.loop":=by decide
 intro k
 induction k with
 |zero=>
  intro j s vb c hk hj hh hst hPb hS hR
  have hin:j+1=n:=om91 hj hk
  refine a2D F.entry_max_loop ?_
  rw[a1H a5L _]
  show wpAny _ A.in1 (seqItems? (.ref S)>>=_) _ _ s
  refine a0A (a2P hS rfl ?_)
  show wpAny _ A.in1 (tryCatch (pyNext (.ref I)) _>>=_) _ _ s
  refine a0A (a5M (W.done s _ _ (hin▸hst) fun h' tk hk'=>?_))
  have hS':=hk' S _ hSw hS
  show wpAny _ A.in1 (updateSeq S (fun _=> #[])>>=_) _ _ _
  refine a0A (a2X hS' rfl (a0A (a5B (a0F ?_))))
  exact hR vb _ tk (by rw[<-hin];exact hPb) fun b o hbw hbS e=>(a0O _ _ (Ne.symm hbS)).trans (hk' b o hbw e)
 |succ k ih=>
  intro j s vb c hk hj hh hst hPb hS hR
  have hlt:j+1<n:=om93 hk
  refine a2D F.entry_max_loop ?_
  rw[a1H a5L _]
  show wpAny _ A.in1 (seqItems? (.ref S)>>=_) _ _ s
  refine a0A (a2P hS rfl ?_)
  show wpAny _ A.in1 (tryCatch (pyNext (.ref I)) _>>=_) _ _ s
  refine a0A (a5M (W.item (j+1) s _ _ hlt hst fun v h' tk hP hst' hk'=>?_))
  have hS':=hk' S _ hSw hS
  have hh':=hH _ h' hh fun b o hb _ e=>hk' b o hb e
  show wpAny _ A.in1 (tryCatch (holding [v,v] (richCompare .Gt v vb>>=_)) _>>=_) _ _ _
  refine a0A (a5M (a1O (a0A (hcmp (j+1) (argBest bt j) v vb _ _ _ hh' hP hPb ?_))))
  refine a0A (a1O (wpAny_truthy_bool ?_))
  refine a0A (a5B (a0F ?_))
  cases hb:bt (j+1) (argBest bt j)with
  |true=>
   simp only[a4Q]
   refine a0A (a2X hS' rfl (a0A (a5B ?_)))
   rw[hname]
   refine a0F ⟨a1Z a5L _,ih (j+1) _ v _ (om9 hk) hlt (hH _ _ hh' fun b o _ hbS e=>(a0O _ _ (Ne.symm hbS)).trans e) (W.frame _ _ _ hst' fun b hbf o e=>?_) (by simp only[argBest,hb,a4Q];exact hP) (a1G _ hS' rfl)
    fun v' h'' tk'' hP' hk''=>?_⟩
   ·exact(a0O _ _ (fun h:S=b=>hSf (by rw[h];exact hbf))).trans e
   ·exact hR v' h'' tk'' hP' fun b o hbw hbS e=>hk'' b o hbw hbS ((a0O _ _ (Ne.symm hbS)).trans (hk' b o hbw e))
  |false=>
   simp only[a3A,if_false]
   refine a0A (a5B ?_)
   rw[hname]
   refine a0F ⟨a1Z a5L _,ih (j+1) _ vb c (om9 hk) hlt hh' hst' (by simp only[argBest,hb,a3A,if_false];exact hPb) hS' fun v' h'' tk'' hP' hk''=>?_⟩
   exact hR v' h'' tk'' hP' fun b o hbw hbS e=>hk'' b o hbw hbS (hk' b o hbw e)
theorem my_max {m:Addr}{vs:List Value}{xss:List (List Str)}{Q:Value ->Shared ->Prop}{E:Value ->Shared ->Prop}{s:Shared}
  (hm:s.heap.IsList m vs.toArray)(hl:xss.length=vs.length)(h0:0<vs.length)(hv:∀i v,vs[i]?=some v ->∃l us,v=.ref l∧s.heap.IsList l us.toArray∧StrsAre us (xss.getD i []))
  (hh:A.handled=none)(hr:A.in1.units<cLine)
  (h:∀v h' tk,vs[argBest (fun i j=>ltList (xss.getD j []) (xss.getD i [])) (vs.length-1)]?=some v ->(∀b o,s.heap.get? b=some o ->h'.get? b=some o) ->Q v {s with heap:=h',toks:=tk}):
  wpAny (model prog w) A (call (.builtin "max") [.ref m]) Q E s:=by
 have hname:(toString "max"++toString ".loop":String)="max.loop":=by decide
 refine call_function_tree F.kind_max F.plain_max F.entry_max (F.args_max1 _) ?_
 show wpAny _ A.in1 (Builtin.Builtins.bindParams "max" ["key","default"] 0 ⟨[],[]⟩>>=_) _ _ s
 refine a0A (a5A (show Builtin.Builtins.bindParams "max" ["key","default"] 0 ⟨[],[]⟩=pure [none,none]from rfl) ?_)
 refine a0A (a0F ?_)
 refine a0A (a3J hm ?_)
 refine a0A (a2U ?_)
 rw[hname]
 have hlt:m≠s.heap.objs.size:=let⟨_,ho,_⟩:=hm;a0S (a0M ho)
 have k1:∀(ob ob':Obj) b o,s.heap.get? b=some o ->((s.heap.push ob).push ob').get? b=some o:=fun ob ob' b o e=>a0C _ (a0C _ e)
 have hs1:∀ob,(s.heap.push ob).objs.size=s.heap.objs.size+1:=fun ob=>a1Q ..
 have W:=Walks.list (prog:=prog) (w:=w) (A:=A.in1) hh s.heap.objs.size m hlt vs.toArray
 dsimp only
 have old:∀b o,s.heap.get? b=some o ->b∉[s.heap.objs.size]∧b≠s.heap.objs.size+1:=fun b o e=>⟨fun q=>a0S (a0M e) (a0B.mp q),fun q=>by have:=a0M e;rw[q]at this;exact absurd this (by show¬(_:Nat)<_;exact om18)⟩
 refine a0F ⟨a1Z a5L _,?_⟩
 rw[hs1]
 have h2:=(show _ from h)
 refine a2D F.entry_max_loop ?_
 rw[a1H a5L _]
 show wpAny _ A.in1 (seqItems? (.ref (s.heap.objs.size+1))>>=_) _ _ _
 have hS0:=a0I (s.heap.push {cls:=.type "list_iterator",data:=.fields #[.ref m,.int 0 0]}) (o:=listOf #[] 0) rfl
 rw[hs1]at hS0
 refine a0A (a2P hS0 rfl ?_)
 show wpAny _ A.in1 (tryCatch (pyNext (.ref s.heap.objs.size)) _>>=_) _ _ _
 refine a0A (a5M (W.item 0 _ _ _ (by simpa using h0) ⟨⟨_,a0C _ (a0I _ rfl),rfl,rfl⟩,hm.at fun o e=>k1 _ _ _ _ e⟩ fun v h' tk hP hst' hk'=>?_))
 have hne1:s.heap.objs.size+1∉[s.heap.objs.size]:=fun q=>absurd (a0B.mp q) (a3R _)
 have hS':=hk' _ _ hne1 hS0
 show wpAny _ A.in1 (updateSeq (s.heap.objs.size+1) (fun _=> #[v,v])>>=_) _ _ _
 refine a0A (a2X hS' rfl ?_)
 rw[hname]
 refine a0F ⟨a1Z a5L _,m3p (S:=s.heap.objs.size+1) W (fun i j=>ltList (xss.getD j []) (xss.getD i [])) (fun h=>∀b o,s.heap.get? b=some o ->h.get? b=some o)
  (fun h h' a b c o e=>b c o (old c o e).1 (old c o e).2 (a c o e)) ?_ ?_ _ 0 _ v _ rfl (by rw[a1M];exact om283 h0) ?_ (W.frame _ _ _ hst' fun b hbf o e=>(a0O _ _ ?_).trans e) hP (a1G _ hS' rfl) ?_⟩
 ·intro i j vi vj B0 Q2 F9 hh2 hi hj hQ
  refine x2a3 (hv i vi (by simpa using hi)) fun li ui za a1 a2=>?_;obtain rfl:=za
  refine x2a3 (hv j vj (by simpa using hj)) fun lj uj za b1 b2=>?_;obtain rfl:=za
  exact m3j (a1.at fun o e=>hh2 _ _ e) (b1.at fun o e=>hh2 _ _ e) a2 b2 hr hQ
 ·intro q
  rcases a0G.mp q with q|q
  ·exact absurd q (a3R _)
  ·have q:=a0B.mp q
   refine x1a2 hm fun _ ho _=>?_
   have:=a0M ho
   rw[<-q]at this
   exact absurd this (by show¬(_:Nat)<_;exact om18)
 ·intro b o e
  exact(a0O _ _ (Ne.symm (old b o e).2)).trans (hk' b o (old b o e).1 (k1 _ _ _ _ e))
 ·rcases a0G.mp hbf with q|q
  ·rw[q];exact a3R _
  ·rw[a0B.mp q]
   refine x1a2 hm fun _ ho _=>?_
   have:=a0M ho
   intro q
   rw[<-q]at this;exact absurd this (by show¬(_:Nat)<_;exact om18)
 ·intro v' h'' tk'' hP' hk''
  refine h v' h'' _ (by simpa using hP') fun b o e=>hk'' b o (old b o e).1 (old b o e).2 ?_
  exact(a0O _ _ (Ne.symm (old b o e).2)).trans (hk' b o (old b o e).1 (k1 _ _ _ _ e))
end
theorem p3w:typeOf (.type "list")=pure (.type "type"):=by kernel_rfl
theorem p1b:typeOf (.type "tuple")=pure (.type "type"):=by kernel_rfl
theorem isi_lt {prog:Program}{w:World}{A:Around}{E:Value ->Shared ->Prop}{s:Shared}{Q:Value ->Shared ->Prop}{a tp:Addr}{items:Array Value}(hl:s.heap.IsList a items)
  (ht:s.heap.get? tp=some (tupOf [.type "list",.type "tuple"]))(h:∀tk,Q (.bool true) {s with toks:=tk}):wpAny (model prog w) A (call (.builtin "isinstance") [.ref a,.ref tp]) Q E s:=
 PySem.IsiPair.tupleOf (.cons (Answers.of_true p3w PySem.AutoSeq1.sub_list_list) (.cons (Answers.of_false_list (by decide) p1b PySem.AutoSeq1.sub_list_tuple) .nil)) hl.typeIs ht h
section
variable {prog:Program}{w:World}{A:Around}{E:Value ->Shared ->Prop}{s:Shared}{h₀:Heap}{L D l:Addr}{m:Str ->Option Value}{news:List (Addr×Obj)}{Q:Value ->Shared ->Prop}{vs:List Value}{v:Value}{n:Nat}
theorem len_my (hl:s.heap.IsList l vs.toArray)(hz:vs.length<=1000000)(h:∀t k,Q (.int (vs.length:Int) t) {s with toks:=k}):wpAny (model prog w) A (call (.builtin "len") [.ref l]) Q E s:=
 len_list hl (by simp;exact om580 hz) (by rw[a1M];exact h _ _)
theorem m8e (v:Value):∀(k:Nat) (a:Array Value),List.foldl (fun x1 x2=>x1++x2) a (List.replicate k #[v])=a++(List.replicate k v).toArray
 |0,a=>by simp
 |k+1,a=>by
  rw[List.replicate_succ,a1Y,m8e v k,List.replicate_succ]
  apply Array.toList_inj.mp
  simp
end
end Mine
namespace Mine
open MineH PySem PySem.W PySem.Calls PyProof.Rows PySem.Spec
theorem m9o {A:Around}{s:Shared}:SeqAt.EqAt A s .none .none true:=SeqAt.EqAt.same .none
theorem m0s {A:Around}{s:Shared}{n:Int}{t:Tok}:SeqAt.EqAt A s (.int n t) .none false:=SeqAt.EqAt.int_none n t
theorem m6j {D:Addr}{vs:List Value}{Q:Value ->Shared ->Prop}(hl:s.heap.IsList D vs.toArray)
  (hv:∀v∈vs,v=.none∨∃n u,v=.int n u)(h:∀b,b= !vs.any (fun v=>v==.none) ->Q (.bool b) s):
  wpAny (model PR w) A (compareOp .NotIn .none (.ref D)) Q E s:=by
 refine SeqAt.notIn_listAt (fun v=>v==.none) hl (fun y hy=>?_) (h _ (by simp))
 rcases hv y (by simpa using hy)with rfl| ⟨n,u,rfl⟩
 ·exact m9o
 ·exact m0s
inductive SV where
 |val (v:Value)
 |int (i:Int)
 |str (x:Str)
noncomputable def SV.is:SV ->Value ->Prop
 | .val u,v=>v=u
 | .int i,v=>∃t,v=.int i t
 | .str x,v=>∃t,v=.str x t
inductive Are:List SV ->List Value ->Prop
 |nil:Are [] []
 |cons {a:SV} {v:Value} {as:List SV} {vs:List Value} (h:a.is v) (t:Are as vs):Are (a::as) (v::vs)
theorem Are.uncons {a:SV}{as:List SV}{vs:List Value}(h:Are (a::as) vs):∃v ws,vs=v::ws∧a.is v∧Are as ws:=by
 obtain _| ⟨h,t⟩:=h
 exact⟨_,_,rfl,h,t⟩
theorem Are.nil_eq {vs:List Value}(h:Are [] vs):vs=[]:=by
 obtain _|_:=h;rfl
theorem Are.one {a:SV}{vs:List Value}(h:Are [a] vs):∃v,vs=[v]∧a.is v:=
 let⟨v,_,e,h,t⟩:=h.uncons
 ⟨v,t.nil_eq▸e,h⟩
theorem Are.two {a b:SV}{vs:List Value}(h:Are [a,b] vs):∃v w,vs=[v,w]∧a.is v∧b.is w:=
 let⟨v,_,e,h,t⟩:=h.uncons
 let⟨w,e',h'⟩:=t.one
 ⟨v,w,e'▸e,h,h'⟩
theorem Are.three {a b c:SV}{vs:List Value}(h:Are [a,b,c] vs):∃v w x,vs=[v,w,x]∧a.is v∧b.is w∧c.is x:=
 let⟨v,_,e,h,t⟩:=h.uncons
 let⟨w,x,e',h'⟩:=t.two
 ⟨v,w,x,e'▸e,h,h'⟩
theorem Are.four {a b c d:SV}{vs:List Value}(h:Are [a,b,c,d] vs):∃v w x y,vs=[v,w,x,y]∧a.is v∧b.is w∧c.is x∧d.is y:=
 let⟨v,_,e,h,t⟩:=h.uncons
 let⟨w,x,y,e',h'⟩:=t.three
 ⟨v,w,x,y,e'▸e,h,h'⟩
inductive SO where
 |list (xs:List SV)
 |tup (xs:List SV)
 |obj (o:Obj)
 |frm (o:Obj)
noncomputable def SO.is:SO ->Obj ->Prop
 | .list xs,o=>∃vs n,o=listOf vs.toArray n∧Are xs vs
 | .tup xs,o=>∃vs,o=tupOf vs∧Are xs vs
 | .obj u,o=>o=u
 | .frm u,o=>∃sl,o={u with slots:=sl}
noncomputable abbrev Loc:=List (Str×SV)
noncomputable abbrev Led:=List (Addr×SO)
noncomputable abbrev SB (b:Bool):SV:=.val (.bool b)
noncomputable abbrev SN:SV:=.val .none
noncomputable abbrev SR (a:Addr):SV:=.val (.ref a)
set_option tactic.hygienic true in
theorem k0a {α:Type}{x:Str}{c:α}:∀ {l:List (Str×α)},l.lookup x=some c ->(x,c)∈l
 | [],e=>nomatch e
 | (y,d)::l,e=>by
  rw[a3T]at e
  split at e
  ·rename_i q;injection e with e;subst e;rw[a1T.mp q];exact .head _
  ·exact .tail _ (k0a e)
structure Cx where
 w:World
 A:Around
 env:Env
 h₀:Heap
 rest:Shared ->Prop
 ok:∀s h tk,rest s ->rest {s with heap:=h,toks:=tk}
inductive LUpd (D:Addr)(so so':SO):Led ->Led ->Prop
 |head {r:Led}:LUpd D so so' ((D,so)::r) ((D,so')::r)
 |tail {p:Addr×SO} {r r':Led} (h:LUpd D so so' r r'):LUpd D so so' (p::r) (p::r')
noncomputable def Rd (env:Env)(m:Str ->Option Value)(h:Heap)(x:Str)(v:Value):Prop:=
 (env.kindOf x=some .local∧m x=some v)∨((env.kindOf x=some .cell∨env.kindOf x=some .free)∧∃c o,env.cells.lookup x=some c∧h.get? c=some o∧o.data=.cell (some v))
structure Hold (C:Cx)(σ:Loc)(ld:Led)(s:Shared):Prop where
 fr:∃m,Fr C.h₀ C.env.locals s.heap m∧∀x sv,σ.lookup x=some sv ->∃v,sv.is v∧Rd C.env m s.heap x v
 led:∀p∈ld,∃o,s.heap.get? p.1=some o∧p.2.is o∧p.1≠C.env.locals∧C.h₀.get? p.1=none
 cel:∀p∈C.env.cells,∃o v,s.heap.get? p.2=some o∧o.data=.cell v∧p.2≠C.env.locals∧C.h₀.get? p.2=none
 nodup:(C.env.cells.map (·.2)++ld.map (·.1)).Nodup
 rest:C.rest s
section
variable {C:Cx}{σ σ':Loc}{ld ld':Led}{s s':Shared}
theorem LUpd.mem {D:Addr}{so so':SO}(U:LUpd D so so' ld ld'):(D,so)∈ld:=by
 induction U with
 |head=>exact .head _
 |tail _ ih=>exact .tail _ ih
theorem LUpd.fst {D:Addr}{so so':SO}(U:LUpd D so so' ld ld'):ld'.map (·.1)=ld.map (·.1):=by
 induction U with
 |head=>rfl
 |tail _ ih=>simp[ih]
theorem LUpd.of {D:Addr}{so so':SO}(U:LUpd D so so' ld ld')(nd:(ld.map (·.1)).Nodup):∀p∈ld',p=(D,so')∨(p∈ld∧p.1≠D):=by
 induction U with
 |head=>
  intro p hp
  rcases a0G.mp hp with rfl|hp
  ·exact .inl rfl
  ·refine .inr ⟨.tail _ hp,fun q=>?_⟩
   simp only[a0P,a1L]at nd
   exact nd.1 (q▸a1N hp)
 | @tail q r r' U ih=>
  intro p hp
  simp only[a0P,a1L]at nd
  rcases a0G.mp hp with rfl|hp
  ·exact .inr ⟨.head _,fun q=>nd.1 (q▸a1N U.mem)⟩
  ·rcases ih nd.2 p hp with h| ⟨h,h'⟩
   ·exact .inl h
   ·exact .inr ⟨.tail _ h,h'⟩
theorem Rd.keep {env:Env}{m:Str ->Option Value}{h h':Heap}{x:Str}{v:Value}(r:Rd env m h x v)(k:∀b o,h.get? b=some o ->h'.get? b=some o):Rd env m h' x v:=by
 rcases r with r| ⟨r,c,o,e1,e2,e3⟩
 ·exact .inl r
 ·exact .inr ⟨r,c,o,e1,k _ _ e2,e3⟩
theorem Hold.grow (H:Hold C σ ld s)(k:∀b o,s.heap.get? b=some o ->s'.heap.get? b=some o)(hr:C.rest s'):Hold C σ ld s':=
 let⟨m,F,r⟩:=H.fr
 ⟨⟨m,F.keeps k,fun x sv e=>let⟨v,a,b⟩:=r x sv e;⟨v,a,b.keep k⟩⟩,fun p hp=>let⟨o,a,b,c⟩:=H.led p hp;⟨o,k _ _ a,b,c⟩,fun p hp=>let⟨o,v,a,c⟩:=H.cel p hp;⟨o,v,k _ _ a,c⟩,H.nodup,hr⟩
theorem Hold.toks (H:Hold C σ ld s){tk:Nat}:Hold C σ ld {s with toks:=tk}:=⟨H.fr,H.led,H.cel,H.nodup,C.ok _ _ _ H.rest⟩
theorem Hold.loc (H:Hold C σ ld s):∃o,s.heap.get? C.env.locals=some o:=let⟨_,F,_⟩:=H.fr;let⟨o,_,_,e,_⟩:=F.ns;⟨o,e⟩
theorem Hold.new {D:Addr}{o:Obj}{so:SO}(H:Hold C σ ld s)(n:s.heap.get? D=none)(k:∀b o,s.heap.get? b=some o ->s'.heap.get? b=some o)(d:s'.heap.get? D=some o)(i:so.is o)
  (hr:C.rest s'):Hold C σ ((D,so)::ld) s':=by
 have G:=H.grow k hr
 refine x1a2 H.fr fun m F r=>?_
 obtain⟨oL,hL⟩:=H.loc
 refine⟨G.fr,fun p hp=>?_,G.cel,?_,G.rest⟩
 ·rcases a0G.mp hp with rfl|hp
  ·refine⟨o,d,i,fun q=>?_,k0e F.keep n⟩
   rw[show D=_ from q,hL]at n
   exact nomatch n
  ·exact G.led p hp
 ·have nd:=H.nodup
  have f1:D∉C.env.cells.map (·.2):=fun q=>by
   refine x1a2 (a0K.mp q) fun p hp za=>?_;obtain rfl:=za
   refine x2a2 (H.cel p hp) fun o v a _=>?_
   rw[a]at n;cases n
  have f2:D∉ld.map (·.1):=fun q=>by
   refine x1a2 (a0K.mp q) fun p hp za=>?_;obtain rfl:=za
   refine x1a2 (H.led p hp) fun o a _=>?_
   rw[a]at n;cases n
  rw[a1E]at nd⊢
  refine⟨nd.1,by simp only[a0P,a1L];exact⟨f2,nd.2.1⟩,fun a ha b hb q=>?_⟩
  simp only[a0P,a0G]at hb
  rcases hb with hb|hb
  ·exact f1 (hb▸q▸ha)
  ·exact nd.2.2 a ha b hb q
theorem Hold.upd {D:Addr}{o':Obj}{so so':SO}(H:Hold C σ ld s)(U:LUpd D so so' ld ld')(k:∀b o,b≠D ->s.heap.get? b=some o ->s'.heap.get? b=some o)(d:s'.heap.get? D=some o')(i:so'.is o')
  (hr:C.rest s'):Hold C σ ld' s':=by
 refine x1a2 H.fr fun m F r=>?_
 refine x1a4 (H.led _ U.mem) fun o hD _ hDL hD0=>?_
 have nd:=H.nodup
 rw[a1E]at nd
 have kc:∀p∈C.env.cells,p.2≠D:=fun p hp q=>nd.2.2 p.2 (a1N hp) D (a0K.mpr ⟨_,U.mem,rfl⟩) q
 have k0:∀b o,C.h₀.get? b=some o ->b≠D:=fun b o e q=>by rw[show(D,so).1=D from rfl,<-q,e]at hD0;cases hD0
 refine⟨⟨m,⟨?_,fun b o e=>k b o (k0 b o e) (F.keep b o e),F.above⟩,fun x sv e=>?_⟩,fun p hp=>?_,fun p hp=>?_,?_,hr⟩
 ·refine x3a2 F.ns fun oL a1 a2 hoL a3=>?_
  exact⟨oL,a1,a2,k _ _ (Ne.symm hDL) hoL,a3⟩
 ·refine x1a2 (r x sv e) fun v hv q=>?_
  refine⟨v,hv,?_⟩
  rcases q with q| ⟨q,c,oc,e1,e2,e3⟩
  ·exact .inl q
  ·refine .inr ⟨q,c,oc,e1,k _ _ ?_ e2,e3⟩
   have hm:(x,c)∈C.env.cells:=k0a e1
   exact kc _ hm
 ·rcases U.of nd.2.1 p hp with rfl| ⟨hp,hne⟩
  ·exact⟨o',d,i,hDL,hD0⟩
  ·refine x1a3 (H.led p hp) fun o a b c=>?_
   exact⟨o,k _ _ hne a,b,c⟩
 ·refine x2a3 (H.cel p hp) fun o v a b c=>?_
  exact⟨o,v,k _ _ (kc p hp) a,b,c⟩
 ·rw[U.fst,a1E];exact nd
theorem Hold.weak {σ₁:Loc}{ld₁:Led}(H:Hold C σ ld s)(hσ:∀x sv,σ₁.lookup x=some sv ->σ.lookup x=some sv)(hl:∀p∈ld₁,p∈ld)(hn:(ld₁.map (·.1)).Nodup):Hold C σ₁ ld₁ s:=by
 refine x1a2 H.fr fun m F r=>?_
 refine⟨⟨m,F,fun x sv e=>r x sv (hσ x sv e)⟩,fun p hp=>H.led p (hl p hp),H.cel,?_,H.rest⟩
 have nd:=H.nodup
 rw[a1E]at nd⊢
 refine⟨nd.1,hn,fun a ha b hb=>nd.2.2 a ha b ?_⟩
 refine x1a2 (a0K.mp hb) fun p hp za=>?_;obtain rfl:=za
 exact a1N (hl p hp)
set_option tactic.hygienic true in
theorem Hold.put {x:Str}{sv:SV}{v:Value}{h':Heap}{m:Str ->Option Value}(H:Hold C σ ld s)(F:Fr C.h₀ C.env.locals s.heap m)(r:∀x sv,σ.lookup x=some sv ->∃v,sv.is v∧Rd C.env m s.heap x v)(hk:C.env.kindOf x=some .local)(hv:sv.is v)(hs:Heap.SameBut C.env.locals s.heap h')
  (hn:h'.Ns C.env.locals (fun y=>if y=x then some v else m y)){tk:Nat}:Hold C ((x,sv)::σ) ld {s with heap:=h',toks:=tk}:=by
 refine⟨⟨_,F.set hn hs,fun y sw e=>?_⟩,fun p hp=>?_,fun p hp=>?_,H.nodup,C.ok _ _ _ H.rest⟩
 ·rw[a3T]at e
  split at e
  ·rename_i q
   injection e with e;subst e
   have:y=x:=a1T.mp q
   subst this
   exact⟨v,hv,.inl ⟨hk,if_pos rfl⟩⟩
  ·rename_i q
   refine x1a2 (r y sw e) fun v' hv' q'=>?_
   have hne:y≠x:=by intro e;subst e;simp at q
   refine⟨v',hv',?_⟩
   rcases q' with⟨q1,q2⟩| ⟨q1,c,oc,e1,e2,e3⟩
   ·exact .inl ⟨q1,(if_neg hne).trans q2⟩
   ·refine .inr ⟨q1,c,oc,e1,?_,e3⟩
    exact(hs.2 c fun q=>by rw[q]at e2;refine x3a3 F.ns fun o2 _ _ e4 e5 _=>?_;rw[e4]at e2;cases e2;rw[e5]at e3;cases e3).trans e2
 ·refine x1a4 (H.led p hp) fun o a b c d=>?_
  exact⟨o,(hs.2 _ c).trans a,b,c,d⟩
 ·refine x2a4 (H.cel p hp) fun o v a b c d=>?_
  exact⟨o,v,(hs.2 _ c).trans a,b,c,d⟩
end
structure Grow (s s':Shared):Prop where
 keep:∀b o,s.heap.get? b=some o ->s'.heap.get? b=some o
 shape:∃h tk,s'={s with heap:=h,toks:=tk}
theorem Grow.refl {s:Shared}:Grow s s:=⟨fun _ _ h=>h,s.heap,s.toks,rfl⟩
theorem Grow.tk {s:Shared}{tk:Nat}:Grow s {s with toks:=tk}:=⟨fun _ _ h=>h,s.heap,tk,rfl⟩
theorem Grow.of {s:Shared}{h:Heap}{tk:Nat}(k:∀b o,s.heap.get? b=some o ->h.get? b=some o):Grow s {s with heap:=h,toks:=tk}:=⟨k,h,tk,rfl⟩
theorem Grow.trans {s s' s'':Shared}(g:Grow s s')(h:Grow s' s''):Grow s s'':=by
 obtain⟨k1,h1,t1,rfl⟩:=g
 obtain⟨k2,h2,t2,rfl⟩:=h
 exact⟨fun b o e=>k2 b o (k1 b o e),h2,t2,rfl⟩
theorem Grow.rest {C:Cx}{s s':Shared}(g:Grow s s')(r:C.rest s):C.rest s':=by
 obtain⟨_,h,tk,rfl⟩:=g
 exact C.ok _ _ _ r
theorem Hold.go {C:Cx}{σ:Loc}{ld:Led}{s s':Shared}(H:Hold C σ ld s)(g:Grow s s'):Hold C σ ld s':=H.grow g.keep (g.rest H.rest)
section
variable (C:Cx)(σ:Loc)(ld:Led)
structure Ev (e:Expr)(sv:SV):Prop where
 run:∀(s:Shared) (Q:Value ->Shared ->Prop) (E:Value ->Shared ->Prop),Hold C σ ld s ->(∀a s',Grow s s' ->sv.is a ->Q a s') ->wpAny (model PR C.w) C.A (eval e C.env) Q E s
structure Tst (e:Expr)(b:Bool):Prop where
 run:∀(s:Shared) (Q:Bool ->Shared ->Prop) (E:Value ->Shared ->Prop),Hold C σ ld s ->(∀a s',Grow s s' ->a=b ->Q a s') ->wpAny (model PR C.w) C.A (isTrue e C.env (eval e C.env)) Q E s
structure Ew (e:Expr)(P:SV ->Led ->Prop):Prop where
 run:∀(s:Shared) (Q:Value ->Shared ->Prop) (E:Value ->Shared ->Prop),Hold C σ ld s ->(∀v sv ld' s',sv.is v ->P sv ld' ->Hold C σ ld' s' ->Q v s') ->wpAny (model PR C.w) C.A (eval e C.env) Q E s
end
section
variable {C:Cx}{σ:Loc}{ld:Led}
theorem Ew.pure {e:Expr}{sv:SV}{P:SV ->Led ->Prop}(h:Ev C σ ld e sv)(p:P sv ld):Ew C σ ld e P:=.mk fun s Q E H k=>h.run s Q E H fun v s' g q=>k v sv ld s' q p (H.go g)
theorem Ev.name {x:Str}{pos:Pos}{sv:SV}(e:σ.lookup x=some sv)(hk:autoParam (C.env.scope.kind=.function) aR)(hd:autoParam ((x==("__debug__":Str))=false) aE)(hn:autoParam ((x==("__classdict__":Str))=false) aE):Ev C σ ld (.Name x pos) sv:=.mk fun s Q E H k=>by
 refine x1a2 H.fr fun m F r=>?_
 refine x1a2 (r x sv e) fun v hv q=>?_
 rcases q with⟨q1,q2⟩| ⟨q1,c,o,e1,e2,e3⟩
 ·exact wpAny_Name (wpAny_loadName_local hk q1 F.ns q2 (k v s .refl hv)) hd
 ·rcases q1 with q1|q1
  ·exact wpAny_Name (wpAny_loadName_cell hk q1 e1 ⟨o,e2,e3⟩ (k v s .refl hv)) hd
  ·exact wpAny_Name (wpAny_loadName_free hk q1 e1 ⟨o,e2,e3⟩ (k v s .refl hv) hn) hd
theorem Ev.a0 {x:Str}{n:Nat}{pos:Pos}:Ev C σ ld (.Constant (.str x) n pos) (.str x):=.mk fun s Q E H k=>by
 walk1
 exact k _ _ .tk ⟨_,rfl⟩
theorem Ev.a1 {x:Int}{n:Nat}{pos:Pos}:Ev C σ ld (.Constant (.int x) n pos) (.int x):=.mk fun s Q E H k=>by
 walk1
 exact k _ _ .tk ⟨_,rfl⟩
theorem Ev.cbool {x:Bool}{n:Nat}{pos:Pos}:Ev C σ ld (.Constant (.bool x) n pos) (SB x):=.mk fun s Q E H k=>by
 walk1
 exact k _ _ .refl rfl
theorem Ev.cnone {n:Nat}{pos:Pos}:Ev C σ ld (.Constant .none n pos) SN:=.mk fun s Q E H k=>by
 walk1
 exact k _ _ .refl rfl
section
variable {a b:Expr}{i j:Int}{x y:Str}{pos:Pos}{p q:Bool}
theorem Tst.lt (ha:Ev C σ ld a (.int i))(hb:Ev C σ ld b (.int j))(hm:autoParam (behindInMarks .Lt b=false) aU):Tst C σ ld (.Compare a [.Lt] [b] pos) (decide (i<j)):=.mk fun s Q E H k=>by
 refine a1F (ha.run s _ _ H fun v s' g hv=>?_) hm
 obtain⟨t,rfl⟩:=hv
 refine hb.run _ _ _ (H.go g) fun v s'' g' hv=>?_
 obtain⟨u,rfl⟩:=hv
 walk1
 walk1
 exact k _ _ (g.trans g') rfl
theorem Tst.eqS (ha:Ev C σ ld a (.str x))(hb:Ev C σ ld b (.str y))(hm:autoParam (behindInMarks .Eq b=false) aU):Tst C σ ld (.Compare a [.Eq] [b] pos) (x==y):=.mk fun s Q E H k=>by
 refine a1F (ha.run s _ _ H fun v s' g hv=>?_) hm
 obtain⟨t,rfl⟩:=hv
 refine hb.run _ _ _ (H.go g) fun v s'' g' hv=>?_
 obtain⟨u,rfl⟩:=hv
 walk1
 walk1
 exact k _ _ (g.trans g') rfl
theorem Tst.neS (ha:Ev C σ ld a (.str x))(hb:Ev C σ ld b (.str y))(hm:autoParam (behindInMarks .NotEq b=false) aU):Tst C σ ld (.Compare a [.NotEq] [b] pos) (x !=y):=.mk fun s Q E H k=>by
 refine a1F (ha.run s _ _ H fun v s' g hv=>?_) hm
 obtain⟨t,rfl⟩:=hv
 refine hb.run _ _ _ (H.go g) fun v s'' g' hv=>?_
 obtain⟨u,rfl⟩:=hv
 walk1
 walk1
 exact k _ _ (g.trans g') rfl
theorem Tst.and (ha:Tst C σ ld a p)(hb:p=true ->Tst C σ ld b q):Tst C σ ld (.BoolOp .And [a,b] pos) (p&&q):=.mk fun s Q E H k=>by
 refine isTrue_and (ha.run s _ _ H fun c s' g hc=>?_)
 subst hc
 cases c with
 |false=>exact k _ _ g rfl
 |true=>
  refine isTrue_and ((hb rfl).run s' _ _ (H.go g) fun c s'' g' hc=>?_)
  subst hc
  cases c with
  |false=>exact k _ _ (g.trans g') rfl
  |true=>exact isTrue_and_nil (k _ _ (g.trans g') rfl)
theorem Tst.not (ha:Tst C σ ld a p):Tst C σ ld (.UnaryOp .Not a pos) (!p):=.mk fun s Q E H k=>by
 exact isTrue_not (ha.run s _ _ H fun c s' g hc=>k _ _ g (by rw[hc]))
theorem Tst.ofB {e:Expr}(h:Ev C σ ld e (SB p))(he:autoParam (∀whole,isTrue e C.env whole=(do let v <-whole;standAt e.pos;holding [v] (truthy v))) aI):Tst C σ ld e p:=.mk fun s Q E H k=>by
 refine isTrue_plain (h.run s _ _ H fun v s' g hv=>?_) (he _)
 obtain rfl:=hv
 walk1
 exact k _ _ g rfl
theorem k3m (x:Str):((x.length:Int) !=0)=(x !=Str.ofString ""):=by
 by_cases h:x=Str.ofString ""
 ·subst h;decide+kernel
 ·have h1:(x !=Str.ofString "")=true:=by simp[h]
  have h2:x.length≠0:=fun q=>h (by
   cases x with|mk a=>
   have:a.size=0:=q
   have:a= #[]:=Array.eq_empty_of_size_eq_zero this
   subst this;decide+kernel)
  rw[h1];simp;exact om528 h2
theorem Tst.ofS {e:Expr}(h:Ev C σ ld e (.str x))(hl:x.length<=16777216)(he:autoParam (∀whole,isTrue e C.env whole=(do let v <-whole;standAt e.pos;holding [v] (truthy v))) aI):Tst C σ ld e (x !=Str.ofString ""):=.mk fun s Q E H k=>by
 refine isTrue_plain (h.run s _ _ H fun v s' g hv=>?_) (he _)
 obtain⟨t,rfl⟩:=hv
 refine KXt.truthy (k3m x) hl fun tk=>?_
 exact k _ _ (g.trans .tk) rfl
end
inductive Fl where
 |next
 |brk
 |cont
 |ret (sv:SV)
noncomputable def Fl.is:Fl ->Flow ->Prop
 | .next,f=>f=.next
 | .brk,f=>f=.brk
 | .cont,f=>f=.cont
 | .ret sv,f=>∃v,f=.ret v∧sv.is v
structure Xs (C:Cx)(σ:Loc)(ld:Led)(l:List Stmt)(P:Fl ->Loc ->Led ->Prop):Prop where
 run:∀(s:Shared) (Q:Flow ->Shared ->Prop) (E:Value ->Shared ->Prop),Hold C σ ld s ->(∀f fl σ' ld' s',fl.is f ->P fl σ' ld' ->Hold C σ' ld' s' ->Q f s') ->wpAny (model PR C.w) C.A (execs l C.env) Q E s
structure X1 (C:Cx)(σ:Loc)(ld:Led)(st:Stmt)(P:Fl ->Loc ->Led ->Prop):Prop where
 run:∀(s:Shared) (Q:Flow ->Shared ->Prop) (E:Value ->Shared ->Prop),Hold C σ ld s ->(∀f fl σ' ld' s',fl.is f ->P fl σ' ld' ->Hold C σ' ld' s' ->Q f s') ->wpAny (model PR C.w) C.A (exec st C.env) Q E s
noncomputable def thenP (C:Cx)(rest:List Stmt)(P:Fl ->Loc ->Led ->Prop):Fl ->Loc ->Led ->Prop
 | .next,σ,ld=>Xs C σ ld rest P
 |f,σ,ld=>P f σ ld
section
variable {rest:List Stmt}{P:Fl ->Loc ->Led ->Prop}{pos px:Pos}{e:Expr}{x:Str}{sv:SV}
theorem Xs.cons {st:Stmt}(h:X1 C σ ld st (thenP C rest P)):Xs C σ ld (st::rest) P:=.mk fun s Q E H k=>by
 refine wpAny_execs_cons (h.run s _ E H fun f fl σ' ld' s' hf hp H'=>?_)
 cases fl with
 |next=>obtain rfl:=hf;exact hp.run s' Q E H' k
 |brk=>obtain rfl:=hf;exact k _ .brk σ' ld' s' rfl hp H'
 |cont=>obtain rfl:=hf;exact k _ .cont σ' ld' s' rfl hp H'
 |ret sv=>refine x1a2 hf fun v za hv=>?_;clear hf;obtain rfl:=za;exact k _ (.ret sv) σ' ld' s' ⟨v,rfl,hv⟩ hp H'
set_option tactic.hygienic true in
theorem Xs.nil (p:P .next σ ld):Xs C σ ld [] P:=.mk fun s Q E H k=>a4W (k .next .next σ ld s rfl p H)
theorem Xs.mono {l:List Stmt}{P':Fl ->Loc ->Led ->Prop}(h:Xs C σ ld l P')(m:∀f σ ld,P' f σ ld ->P f σ ld):Xs C σ ld l P:=.mk fun s Q E H k=>h.run s Q E H fun f fl σ' ld' s' hf hp H'=>k f fl σ' ld' s' hf (m _ _ _ hp) H'
theorem X1.a0 (h:Ew C σ ld e fun sv ld'=>P .next ((x,sv)::σ) ld')(hx:autoParam (C.env.kindOf x=some .local) aR)(hp:autoParam ((C.env.scope.kind==.class|| (C.env.scope.kind==.module&&C.env.locals !=C.env.globals))=false) aR)
  (hs:autoParam (swapsWith e (some (.Name x px)) pos.line C.env=Pure.pure false) aR):X1 C σ ld (.Assign [.Name x px] e pos) P:=.mk fun s Q E H k=>by
 refine wpAny_Assign_Name (h.run s _ E H fun v sv ld' s' hv p H'=>?_) hs
 refine x1a2 H'.fr fun m F r=>?_
 exact a2M hx F.ns (fun B3 C1 B8=>k .next .next _ _ _ rfl p (H'.put F r hx hv B8 C1)) hp
theorem X1.a1 {test:Expr}{body orelse:List Stmt}{b:Bool}(h:Tst C σ ld test b)(h1:b=true ->Xs C σ ld body P)(h2:b=false ->Xs C σ ld orelse P):X1 C σ ld (.If test body orelse pos) P:=.mk fun s Q E H k=>by
 refine wpAny_If (h.run s _ E H fun c s' g hc=>?_)
 subst hc
 cases c with
 |true=>rw[if_pos rfl];exact(h1 rfl).run s' Q E (H.go g) k
 |false=>rw[if_neg (by decide)];exact(h2 rfl).run s' Q E (H.go g) k
theorem X1.ret (h:Ew C σ ld e fun sv ld'=>P (.ret sv) σ ld'):X1 C σ ld (.Return (some e) pos) P:=.mk fun s Q E H k=>by
 refine wpAny_Return_some (h.run s _ E H fun v sv ld' s' hv p H'=>?_)
 exact k _ (.ret sv) _ _ s' ⟨v,rfl,hv⟩ p H'
theorem X1.brk (p:P .brk σ ld):X1 C σ ld (.Break pos) P:=.mk fun s Q E H k=>wpAny_Break (k .brk .brk σ ld s rfl p H)
theorem X1.cont (p:P .cont σ ld):X1 C σ ld (.Continue pos) P:=.mk fun s Q E H k=>wpAny_Continue (k .cont .cont σ ld s rfl p H)
structure Opr (C:Cx)(op:Operator)(a b c:SV):Prop where
 run:∀(v u:Value) (s:Shared) (Q:Value ->Shared ->Prop) (E:Value ->Shared ->Prop),a.is v ->b.is u ->(∀r s',Grow s s' ->c.is r ->Q r s') ->wpAny (model PR C.w) C.A (binaryOp op v u) Q E s
structure Ipr (C:Cx)(op:Operator)(a b c:SV):Prop where
 run:∀(v u:Value) (s:Shared) (Q:Value ->Shared ->Prop) (E:Value ->Shared ->Prop),a.is v ->b.is u ->(∀r s',Grow s s' ->c.is r ->Q r s') ->wpAny (model PR C.w) C.A (inplaceOp op v u) Q E s
theorem X1.aug {op:Operator}{old:SV}{new:SV}(hl:σ.lookup x=some old)(h:Ev C σ ld e sv)(ho:Ipr C op old sv new)(p:P .next ((x,new)::σ) ld)
  (hx:autoParam (C.env.kindOf x=some .local) aR)(hk:autoParam (C.env.scope.kind=.function) aR)(hp:autoParam ((C.env.scope.kind==.class|| (C.env.scope.kind==.module&&C.env.locals !=C.env.globals))=false) aR):X1 C σ ld (.AugAssign (.Name x px) op e pos) P:=.mk fun s Q E H k=>by
 refine x1a2 H.fr fun m F r=>?_
 refine x1a2 (r x old hl) fun v hv q=>?_
 obtain⟨q1,q2⟩:C.env.kindOf x=some .local∧m x=some v:=by
  rcases q with q| ⟨q|q,_⟩
  ·exact q
  ·rw[hx]at q;cases q
  ·rw[hx]at q;cases q
 refine wpAny_AugAssign_Name (wpAny_loadName_local hk q1 F.ns q2 (h.run s _ E H fun u s' g hu=>?_))
 refine ho.run v u s' _ E hv hu fun w s'' g' hw=>?_
 have H':=H.go (g.trans g')
 refine x1a2 H'.fr fun m F r=>?_
 exact a2M hx F.ns (fun B3 C1 B8=>k .next .next _ _ _ rfl p (H'.put F r hx hw B8 C1)) hp
end
noncomputable def SubL (σ:Loc):Loc ->Prop
 | []=>True
 | (x,sv)::r=>σ.lookup x=some sv∧SubL σ r
set_option tactic.hygienic true in
theorem SubL.get {σ:Loc}:∀ {σ₁:Loc},SubL σ σ₁ ->∀x sv,σ₁.lookup x=some sv ->σ.lookup x=some sv
 | [],_,_,_,e=>nomatch e
 | (y,d)::r,h,x,sv,e=>by
  rw[a3T]at e
  split at e
  ·rename_i q;injection e with e;subst e;rw[a1T.mp q];exact h.1
  ·exact h.2.get x sv e
theorem Hold.sub {σ₁:Loc}{ld₁:Led}{s:Shared}(H:Hold C σ ld s)(hσ:SubL σ σ₁)(hl:List.Sublist ld₁ ld):Hold C σ₁ ld₁ s:=
 H.weak hσ.get (fun _ h=>hl.subset h) ((a1E.mp H.nodup).2.1.sublist (hl.map _))
theorem Xs.weak {σ₁:Loc}{ld₁:Led}{l:List Stmt}{P:Fl ->Loc ->Led ->Prop}(h:Xs C σ₁ ld₁ l P)(hσ:SubL σ σ₁)(hl:List.Sublist ld₁ ld):Xs C σ ld l P:=.mk fun s Q E H k=>h.run s Q E (H.sub hσ hl) k
noncomputable def Ends (J:Loc ->Led ->Prop)(σ:Loc)(ld:Led):Prop:=∃σ₁ ld₁,J σ₁ ld₁∧SubL σ σ₁∧List.Sublist ld₁ ld
noncomputable def p2z (n:Nat)(J:Nat ->Loc ->Led ->Prop)(K:Loc ->Led ->Prop)(P:Fl ->Loc ->Led ->Prop):Fl ->Loc ->Led ->Prop
 | .next,σ,ld=>Ends (fun σ ld=>∃k,k<n∧J k σ ld) σ ld
 | .cont,σ,ld=>Ends (fun σ ld=>∃k,k<n∧J k σ ld) σ ld
 | .brk,σ,ld=>Ends K σ ld
 | .ret sv,σ,ld=>P (.ret sv) σ ld
set_option tactic.hygienic true in
theorem X1.a2 {P:Fl ->Loc ->Led ->Prop}{test:Expr}{body:List Stmt}{pos:Pos}(J:Nat ->Loc ->Led ->Prop)(K:Loc ->Led ->Prop)(k:Nat)(h0:Ends (J k) σ ld)
  (turn:∀n σ ld,J n σ ld ->∃b,Tst C σ ld test b∧(b=true ->Xs C σ ld body (p2z n J K P))∧(b=false ->Ends K σ ld))
  (done:∀σ ld,K σ ld ->P .next σ ld):X1 C σ ld (.While test body [] pos) P:=.mk fun s Q E H kk=>by
 refine wpAny_While ?_
 refine codeAny_whileLoop (fun n s'=>∃σ ld,J n σ ld∧Hold C σ ld s') ?_ k ?_
 ·rintro n s' zu;refine x2a2 zu fun σ ld hJ H'=>?_
  refine x1a3 (turn n σ ld hJ) fun b ht h1 h2=>?_
  refine ht.run s' _ _ H' fun c s'' g hc=>?_
  subst hc
  have ex:∀ {σ ld s},Ends K σ ld ->Hold C σ ld s ->Q .next s:=fun hK H=>by
   revert hK;intro zq;refine x2a3 zq fun σ₁ ld₁ hK a b=>?_
   exact kk .next .next _ _ _ rfl (done _ _ hK) (H.sub a b)
  cases c with
  |true=>
   rw[if_pos rfl]
   refine(h1 rfl).run s'' _ _ (H'.go g) fun f fl σ' ld' B5 hf hp C0=>?_
   cases fl with
   |next=>
    obtain rfl:=hf
    refine x2a3 hp fun σ₁ ld₁ za a b=>?_;clear hp;obtain⟨k,hk,hJ⟩:=za
    exact⟨k,hk,σ₁,ld₁,hJ,C0.sub a b⟩
   |cont=>
    obtain rfl:=hf
    refine x2a3 hp fun σ₁ ld₁ za a b=>?_;clear hp;obtain⟨k,hk,hJ⟩:=za
    exact⟨k,hk,σ₁,ld₁,hJ,C0.sub a b⟩
   |brk=>obtain rfl:=hf;exact ex hp C0
   |ret sv=>refine x1a2 hf fun v za hv=>?_;clear hf;obtain rfl:=za;exact kk _ (.ret sv) σ' ld' B5 ⟨v,rfl,hv⟩ hp C0
  |false=>
   rw[if_neg (by decide)]
   exact a4W (ex (h2 rfl) (H'.go g))
 ·refine x2a3 h0 fun σ₁ ld₁ hJ a b=>?_
  exact⟨σ₁,ld₁,hJ,H.sub a b⟩
noncomputable def cutP (K:Loc ->Led ->Prop)(P:Fl ->Loc ->Led ->Prop):Fl ->Loc ->Led ->Prop
 | .next,σ,ld=>Ends K σ ld
 |f,σ,ld=>P f σ ld
theorem Xs.app {D9:List Stmt}{P:Fl ->Loc ->Led ->Prop}:∀ {E1:List Stmt} {σ:Loc} {ld:Led},Xs C σ ld E1 (thenP C D9 P) ->Xs C σ ld (E1++D9) P:=by
 intro E1 σ ld h
 refine .mk fun s Q E H k=>?_
 intro Γ p hΓ
 rw[k1q]
 refine h.run s (fun f s'=>match f with| .next=>wpAny (model PR C.w) C.A (execs D9 C.env) Q E s'|f=>Q f s') E H (fun f fl σ' ld' s' hf hp H'=>?_) Γ p hΓ|>a5D _ Γ _ (fun f p' s' h'=>?_) (fun _ _ _ h'=>h') _ _
 ·cases f with
  |next=>exact h' Γ p' hΓ
  |brk=>exact h'
  |cont=>exact h'
  |ret v=>exact h'
 ·cases fl with
  |next=>obtain rfl:=hf;exact hp.run s' Q E H' k
  |brk=>obtain rfl:=hf;exact k _ .brk σ' ld' s' rfl hp H'
  |cont=>obtain rfl:=hf;exact k _ .cont σ' ld' s' rfl hp H'
  |ret sv=>refine x1a2 hf fun v za hv=>?_;clear hf;obtain rfl:=za;exact k _ (.ret sv) σ' ld' s' ⟨v,rfl,hv⟩ hp H'
theorem Xs.a0 {P:Fl ->Loc ->Led ->Prop}(n:Nat){l:List Stmt}(K:Loc ->Led ->Prop)(h1:Xs C σ ld (l.take n) (cutP K P))(h2:∀σ ld,K σ ld ->Xs C σ ld (l.drop n) P):Xs C σ ld l P:=by
 rw[show l=l.take n++l.drop n from(a5T n l).symm]
 refine Xs.app (h1.mono fun f σ' ld' hp=>?_)
 cases f with
 |next=>refine x2a3 hp fun σ₁ ld₁ hK a b=>?_;exact(h2 _ _ hK).weak a b
 |brk=>exact hp
 |cont=>exact hp
 |ret sv=>exact hp
end
structure Gd (C:Cx):Prop where
 X:(hd.heap_1 C.w.params).In C.h₀
 T:∃mg mb,TopRead vw loose mg mb C.h₀
 g:C.env.globals=mainGlobals
 b:C.env.builtins=builtinsNs
 k:C.env.scope.kind=.function
 h:C.A.handled=none
section
variable {C:Cx}{σ:Loc}{ld:Led}{x y:Str}{a b e:Expr}{pos np:Pos}{i j:Int}{sv:SV}{args:List Expr}{svs:List SV}{p q:Bool}
theorem k0i {v:Value}{s:Shared}{Q:Value ->Shared ->Prop}{E:Value ->Shared ->Prop}(G:Gd C)(H:Hold C σ ld s)(e:nsIn (hd.heap_1 C.w.params) mainGlobals x=some none)(hv:bootBuiltins x=some v)(hn:x≠"__name__")(hx:C.env.kindOf x=some .globalImplicit)(hd:(x==("__debug__":Str))=false)(h:Q v s):
  wpAny (model PR C.w) C.A (eval (.Name x pos) C.env) Q E s:=by
 refine ex2 G.T fun mg mb T=>?_
 refine x1a2 H.fr fun m F _=>?_
 exact Name_function_global G.k hx (loadGlobal_builtin (env:=C.env) (show s.heap.Ns C.env.globals mg from G.g▸(T.keeps F.keep).g) (mg_none_of G.X T.g e) (show s.heap.Ns C.env.builtins mb from G.b▸(T.keeps F.keep).b) ((T.builtins x hn).trans hv) h) hd
theorem k5k {v:Value}{s:Shared}{Q:Value ->Shared ->Prop}{E:Value ->Shared ->Prop}(G:Gd C)(H:Hold C σ ld s)(e:nsIn (hd.heap_1 C.w.params) mainGlobals x=some (some v))(hx:C.env.kindOf x=some .globalImplicit)(hd:(x==("__debug__":Str))=false)(h:Q v s):
  wpAny (model PR C.w) C.A (eval (.Name x pos) C.env) Q E s:=by
 refine ex2 G.T fun mg mb T=>?_
 refine x1a2 H.fr fun m F _=>?_
 exact Name_function_global G.k hx (loadGlobal_global (env:=C.env) (show s.heap.Ns C.env.globals mg from G.g▸(T.keeps F.keep).g) (mg_of G.X T.g e) h) hd
structure EvL (C:Cx)(σ:Loc)(ld:Led)(args:List Expr)(svs:List SV):Prop where
 run:∀(pos:Pos) (s:Shared) (Q:List Value ->Shared ->Prop) (E:Value ->Shared ->Prop),Hold C σ ld s ->(∀a s',Grow s s' ->Are svs a ->Q a s') ->wpAny (model PR C.w) C.A (spliced (backTo pos (starEach args C.env))) Q E s
structure EwL (C:Cx)(σ:Loc)(ld:Led)(args:List Expr)(P:List SV ->Led ->Prop):Prop where
 run:∀(pos:Pos) (s:Shared) (Q:List Value ->Shared ->Prop) (E:Value ->Shared ->Prop),Hold C σ ld s ->(∀vs svs ld' s',Are svs vs ->P svs ld' ->Hold C σ ld' s' ->Q vs s') ->wpAny (model PR C.w) C.A (spliced (backTo pos (starEach args C.env))) Q E s
theorem EvL.nil:EvL C σ ld [] []:=.mk fun pos s Q E H k=>a4D (k [] s .refl .nil)
theorem EvL.cons {rest:List Expr}(h:Ev C σ ld e sv)(t:EvL C σ ld rest svs)(he:autoParam (starEach (e::rest) C.env=(false,eval e C.env)::starEach rest C.env) aR):EvL C σ ld (e::rest) (sv::svs):=.mk fun pos s Q E H k=>
 a2J (h.run s _ E H fun v s' g hv=>t.run pos s' _ E (H.go g) fun vs s'' g' hvs=>k _ s'' (g.trans g') (.cons hv hvs)) he
theorem EwL.nil {P:List SV ->Led ->Prop}(p:P [] ld):EwL C σ ld [] P:=.mk fun pos s Q E H k=>a4D (k [] [] ld s .nil p H)
theorem EwL.pure {P:List SV ->Led ->Prop}(h:EvL C σ ld args svs)(p:P svs ld):EwL C σ ld args P:=.mk fun pos s Q E H k=>h.run pos s Q E H fun vs s' g q=>k vs svs ld s' q p (H.go g)
theorem EwL.cons {rest:List Expr}{P:List SV ->Led ->Prop}(h:Ew C σ ld e fun sv ld'=>EwL C σ ld' rest fun svs ld''=>P (sv::svs) ld'')(he:autoParam (starEach (e::rest) C.env=(false,eval e C.env)::starEach rest C.env) aR):EwL C σ ld (e::rest) P:=.mk fun pos s Q E H k=>
 a2J (h.run s _ E H fun v sv ld' s' hv p H'=>p.run pos s' _ E H' fun vs svs ld'' s'' hvs p' H''=>k _ _ ld'' s'' (.cons hv hvs) p' H'') he
theorem Ev.a2 {id:String}{rest:List Expr}(G:Gd C)(hargs:EvL C σ ld (e::rest) svs)
  (hb:∀vs s (Q:Value ->Shared ->Prop) (E:Value ->Shared ->Prop),Are svs vs ->Hold C σ ld s ->(∀v s',Grow s s' ->sv.is v ->Q v s') ->wpAny (model PR C.w) C.A (call (.builtin id) vs) Q E s)
  (e1:nsIn (hd.heap_1 C.w.params) mainGlobals x=some none)(hv:bootBuiltins x=some (.builtin id))(hn:autoParam (x≠"__name__") aE)(hx:autoParam (C.env.kindOf x=some .globalImplicit) aR)(hd:autoParam ((x==("__debug__":Str))=false) aE)
  (he:autoParam (eval (.Call (.Name x np) (e::rest) [] pos) C.env=(do callWith pos (<-eval (.Name x np) C.env) [] (backTo pos (starEach (e::rest) C.env)) (backToKw pos (keywordEach [] C.env)))) aR)
  (hs:autoParam (starEach (e::rest) C.env=(false,eval e C.env)::starEach rest C.env) aR)(hplain:autoParam ((backTo pos (starEach rest C.env)).any (·.1)=false) aR):Ev C σ ld (.Call (.Name x np) (e::rest) [] pos) sv:=.mk fun s Q E H k=>
 Call_ (k0i G H e1 hv hn hx hd (callWith_builtin1 (hargs.run pos s _ E H fun vs s' g hvs=>hb vs s' Q E hvs (H.go g) fun v s'' g' hv=>k v s'' (g.trans g') hv) hs hplain)) he
theorem len_str {vs:List Value}{s:Shared}{Q:Value ->Shared ->Prop}{E:Value ->Shared ->Prop}(hz:x.length<=16777216)(h:Are [.str x] vs)(k:∀v s',Grow s s' ->(SV.int (x.length:Int)).is v ->Q v s'):wpAny (model PR C.w) C.A (call (.builtin "len") vs) Q E s:=by
 refine x1a2 h.one fun _ za zx=>ex1 zx fun t zb=>?_;clear zx;obtain rfl:=za;obtain rfl:=zb
 exact P.len_str (om345 hz) (k _ _ .tk ⟨_,rfl⟩)
theorem Ev.lenS (G:Gd C)(h:Ev C σ ld e (.str x))(hz:x.length<=16777216)(e1:autoParam (nsIn (hd.heap_1 C.w.params) mainGlobals (Str.ofString "len")=some none) aK)(hx:autoParam (C.env.kindOf (Str.ofString "len")=some .globalImplicit) aR)
  (he:autoParam (eval (.Call (.Name (Str.ofString "len") np) [e] [] pos) C.env=(do callWith pos (<-eval (.Name (Str.ofString "len") np) C.env) [] (backTo pos (starEach [e] C.env)) (backToKw pos (keywordEach [] C.env)))) aR)
  (hs:autoParam (starEach [e] C.env=(false,eval e C.env)::starEach [] C.env) aR):Ev C σ ld (.Call (.Name (Str.ofString "len") np) [e] [] pos) (.int (x.length:Int)):=
 Ev.a2 G (.cons h .nil hs) (fun vs s Q E a H k=>len_str hz a k) e1 (by boot_by_name) (hx:=hx) (he:=he) (hs:=hs)
theorem Ev.a3 {a b:Expr}(ha:Ev C σ ld a (.str x))(hb:Ev C σ ld b (.int i))(h0: -(x.length:Int)<=i)(h1:i<x.length)(hz:x.length<=16777216)
  (hs:autoParam (∀t u,subscripted b false (.str x t) (.int i u)=operate [.str x t,.int i u] (getItem (.str x t) (.int i u))) aJJ)
  (ht:autoParam (∀t r,letTemporaryGo a (.str x t) r=Pure.pure ()) aJJ):Ev C σ ld (.Subscript a b pos) (.str (Txt.item x i)):=.mk fun s Q E H k=>by
 walk1
 refine ha.run s _ _ H fun v s' g hv=>?_
 obtain⟨t,rfl⟩:=hv
 refine hb.run _ _ _ (H.go g) fun v s'' g' hv=>?_
 obtain⟨u,rfl⟩:=hv
 exact KXi.item rfl h0 h1 hz (fun _=>k _ _ ((g.trans g').trans .tk) ⟨_,rfl⟩) (hs _ _) (ht _)
noncomputable def p2a (h:Heap):Heap ->Prop:=fun h'=>∀b o,h.get? b=some o ->h'.get? b=some o
theorem k5p {h:Heap}:KeptH (p2a h):=fun h' ob k b o e=>a0C _ (k b o e)
theorem Ev.a4 {a lo hi:Expr}{sp:Pos}(ha:Ev C σ ld a (.str x))(hl:Ev C σ ld lo (.int i))(hh:Ev C σ ld hi (.int j))(hz:x.length<=16777216)
  (hs:autoParam (∀t D,subscripted (.Slice (some lo) (some hi) none sp) false (.str x t) (.ref D)=operate [.ref D,.str x t] (getItem (.str x t) (.ref D))) aJJ)
  (ht:autoParam (∀t r,letTemporaryGo a (.str x t) r=Pure.pure ()) aJJ):Ev C σ ld (.Subscript a (.Slice (some lo) (some hi) none sp) pos) (.str (Txt.slice x (some i) (some j))):=.mk fun s Q E H k=>by
 walk1
 refine ha.run s _ _ H fun v s' g hv=>?_
 obtain⟨t,rfl⟩:=hv
 walk1
 refine hl.run _ _ _ (H.go g) fun v s'' g' hv=>?_
 obtain⟨u,rfl⟩:=hv
 refine hh.run _ _ _ ((H.go g).go g') fun v s3 g3 hv=>?_
 obtain⟨u3,rfl⟩:=hv
 try walk1
 refine tail_of_ItemOn (SBH.sliceItem_ss (P:=p2a s3.heap) k5p (fun _ _ h=>h) (fun h' t' k' kp=>?_) (by rw[a1S];exact hz)) (hs _ _) (ht _)
 exact k _ _ ((((g.trans g').trans g3)).trans (.of kp)) ⟨_,rfl⟩
theorem Ev.sliceSN {a lo:Expr}{sp:Pos}(ha:Ev C σ ld a (.str x))(hl:Ev C σ ld lo (.int i))(hz:x.length<=16777216)
  (hs:autoParam (∀t D,subscripted (.Slice (some lo) none none sp) false (.str x t) (.ref D)=operate [.ref D,.str x t] (getItem (.str x t) (.ref D))) aJJ)
  (ht:autoParam (∀t r,letTemporaryGo a (.str x t) r=Pure.pure ()) aJJ):Ev C σ ld (.Subscript a (.Slice (some lo) none none sp) pos) (.str (Txt.slice x (some i) none)):=.mk fun s Q E H k=>by
 walk1
 refine ha.run s _ _ H fun v s' g hv=>?_
 obtain⟨t,rfl⟩:=hv
 walk1
 refine hl.run _ _ _ (H.go g) fun v s'' g' hv=>?_
 obtain⟨u,rfl⟩:=hv
 walk1
 walk1
 refine tail_of_ItemOn (SBH.sliceItem_sn (P:=p2a s''.heap) k5p (fun _ _ h=>h) (fun h' t' k' kp=>?_) (by rw[a1S];exact hz)) (hs _ _) (ht _)
 exact k _ _ (((g.trans g')).trans (.of kp)) ⟨_,rfl⟩
theorem Ev.a5 {a hi:Expr}{sp:Pos}(ha:Ev C σ ld a (.str x))(hl:Ev C σ ld hi (.int j))(hz:x.length<=16777216)
  (hs:autoParam (∀t D,subscripted (.Slice none (some hi) none sp) false (.str x t) (.ref D)=operate [.ref D,.str x t] (getItem (.str x t) (.ref D))) aJJ)
  (ht:autoParam (∀t r,letTemporaryGo a (.str x t) r=Pure.pure ()) aJJ):Ev C σ ld (.Subscript a (.Slice none (some hi) none sp) pos) (.str (Txt.slice x none (some j))):=.mk fun s Q E H k=>by
 walk1
 refine ha.run s _ _ H fun v s' g hv=>?_
 obtain⟨t,rfl⟩:=hv
 walk1
 walk1
 refine hl.run _ _ _ (H.go g) fun v s'' g' hv=>?_
 obtain⟨u,rfl⟩:=hv
 walk1
 refine tail_of_ItemOn (SBH.sliceItem_ns (P:=p2a s''.heap) k5p (fun _ _ h=>h) (fun h' t' k' kp=>?_) (by rw[a1S];exact hz)) (hs _ _) (ht _)
 exact k _ _ (((g.trans g')).trans (.of kp)) ⟨_,rfl⟩
theorem Opr.subI:Opr C .Sub (.int i) (.int j) (.int (i-j)):=.mk<|by
 rintro v u s Q E ⟨t,rfl⟩ ⟨t',rfl⟩ k
 walk1
 exact k _ _ .tk ⟨_,rfl⟩
theorem Opr.addI:Opr C .Add (.int i) (.int j) (.int (i+j)):=.mk<|by
 rintro v u s Q E ⟨t,rfl⟩ ⟨t',rfl⟩ k
 walk1
 exact k _ _ .tk ⟨_,rfl⟩
theorem Opr.addS (hz:x.length+y.length<=16777216):Opr C .Add (.str x) (.str y) (.str (x++y)):=.mk<|by
 rintro v u s Q E ⟨t,rfl⟩ ⟨t',rfl⟩ k
 exact SBL.add (fun t' c g=>k _ _ .tk ⟨_,rfl⟩) (by rw[a1S];exact om260 hz)
theorem Ipr.addI:Ipr C .Add (.int i) (.int j) (.int (i+j)):=.mk<|by
 rintro v u s Q E ⟨t,rfl⟩ ⟨t',rfl⟩ k
 walk1
 exact k _ _ .tk ⟨_,rfl⟩
theorem Ipr.subI:Ipr C .Sub (.int i) (.int j) (.int (i-j)):=.mk<|by
 rintro v u s Q E ⟨t,rfl⟩ ⟨t',rfl⟩ k
 walk1
 exact k _ _ .tk ⟨_,rfl⟩
theorem Ev.a6 {op:Operator}{sa sb sc:SV}(ha:Ev C σ ld a sa)(hb:Ev C σ ld b sb)(ho:Opr C op sa sb sc):Ev C σ ld (.BinOp a op b pos) sc:=.mk fun s Q E H k=>by
 walk1
 refine ha.run s _ _ H fun v s' g hv=>?_
 refine hb.run _ _ _ (H.go g) fun v' s'' g' hv'=>?_
 exact ho.run v v' s'' Q E hv hv' fun r s3 g3 hr=>k _ _ ((g.trans g').trans g3) hr
theorem Ev.neg (ha:Ev C σ ld a (.int i)):Ev C σ ld (.UnaryOp .USub a pos) (.int (-i)):=.mk fun s Q E H k=>by
 walk1
 refine ha.run s _ _ H fun v s' g hv=>?_
 obtain⟨t,rfl⟩:=hv
 walk1
 exact k _ _ (g.trans .tk) ⟨_,rfl⟩
theorem Ew.a0 {t:Expr}{P:SV ->Led ->Prop}(ht:Tst C σ ld t p)(ha:p=true ->Ew C σ ld a P)(hb:p=false ->Ew C σ ld b P):Ew C σ ld (.IfExp t a b pos) P:=.mk fun s Q E H k=>by
 walk1
 refine ht.run s _ _ H fun c s' g hc=>?_
 subst hc
 cases c with
 |true=>exact(ha rfl).run s' Q E (H.go g) k
 |false=>exact(hb rfl).run s' Q E (H.go g) k
theorem Tst.inS (ha:Ev C σ ld a (.str x))(hb:Ev C σ ld b (.str y))(hm:autoParam (behindInMarks .In b=false) aU):Tst C σ ld (.Compare a [.In] [b] pos) (!(Builtin.Str.occurrences y x 0 y.length 1).isEmpty):=.mk fun s Q E H k=>by
 refine a1F (ha.run s _ _ H fun v s' g hv=>?_) hm
 obtain⟨t,rfl⟩:=hv
 refine hb.run _ _ _ (H.go g) fun v s'' g' hv=>?_
 obtain⟨u,rfl⟩:=hv
 walk1
 walk1
 exact k _ _ (g.trans g') rfl
theorem Tst.notinS (ha:Ev C σ ld a (.str x))(hb:Ev C σ ld b (.str y))(hm:autoParam (behindInMarks .NotIn b=false) aU):Tst C σ ld (.Compare a [.NotIn] [b] pos) ((Builtin.Str.occurrences y x 0 y.length 1).isEmpty):=.mk fun s Q E H k=>by
 refine a1F (ha.run s _ _ H fun v s' g hv=>?_) hm
 obtain⟨t,rfl⟩:=hv
 refine hb.run _ _ _ (H.go g) fun v s'' g' hv=>?_
 obtain⟨u,rfl⟩:=hv
 walk1
 walk1
 exact k _ _ (g.trans g') (a4P _)
theorem Tst.eqI (ha:Ev C σ ld a (.int i))(hb:Ev C σ ld b (.int j))(hm:autoParam (behindInMarks .Eq b=false) aU):Tst C σ ld (.Compare a [.Eq] [b] pos) (decide (i=j)):=.mk fun s Q E H k=>by
 refine a1F (ha.run s _ _ H fun v s' g hv=>?_) hm
 obtain⟨t,rfl⟩:=hv
 refine hb.run _ _ _ (H.go g) fun v s'' g' hv=>?_
 obtain⟨u,rfl⟩:=hv
 walk1
 walk1
 exact k _ _ (g.trans g') rfl
end
noncomputable def its (wr:List Addr)(ob:Addr ->Obj):Led:=wr.map fun b=>(b,.obj (ob b))
theorem k5q {wr:List Addr}{ob:Addr ->Obj}:(its wr ob).map (·.1)=wr:=by simp[its,Function.comp_def]
theorem k4e {wr:List Addr}{ob:Addr ->Obj}{b:Addr}(h:b∈wr):(b,SO.obj (ob b))∈its wr ob:=a0K.mpr ⟨b,h,rfl⟩
section
variable {C:Cx}{σ σ0:Loc}{ld B9:Led}{s s':Shared}{wr fp:List Addr}{ob ob':Addr ->Obj}
theorem Hold.get {D:Addr}{o:Obj}(H:Hold C σ ld s)(h:(D,SO.obj o)∈ld):s.heap.get? D=some o:=by
 refine x1a3 (H.led _ h) fun o' a b _=>?_
 rw[a,show o'=o from b]
theorem Hold.base {D:Addr}{o:Obj}(H:Hold C σ ld s)(h:C.h₀.get? D=some o):s.heap.get? D=some o:=let⟨_,F,_⟩:=H.fr;F.keep D o h
theorem Hold.off (H:Hold C σ (ld++its wr ob) s)(k:∀b o,b∉wr ->s.heap.get? b=some o ->s'.heap.get? b=some o)
  (hr:C.rest s'):Hold C σ ld s':=by
 have nd:=H.nodup
 rw[a0U,k5q]at nd
 refine x1a2 H.fr fun m F r=>?_
 have ndc:∀p∈C.env.cells,p.2∉wr:=fun p hp q=>(a1E.mp nd).2.2 p.2 (a1N hp) p.2 (a0L _ q) rfl
 have ndl:∀p∈ld,p.1∉wr:=fun p hp q=>(a1E.mp (a1E.mp nd).2.1).2.2 p.1 (a1N hp) p.1 q rfl
 have hL:C.env.locals∉wr:=fun q=>by
  refine x1a4 (H.led _ (a0L _ (k4e (ob:=ob) q))) fun o a b c d=>?_
  exact c rfl
 have h0:∀b o,C.h₀.get? b=some o ->b∉wr:=fun b o e q=>by
  refine x1a4 (H.led _ (a0L _ (k4e (ob:=ob) q))) fun o' a _ c d=>?_
  rw[show C.h₀.get? b=none from d]at e;cases e
 refine⟨⟨m,⟨?_,fun b o e=>k b o (h0 b o e) (F.keep b o e),F.above⟩,fun x sv e=>?_⟩,fun p hp=>?_,fun p hp=>?_,?_,hr⟩
 ·refine x3a2 F.ns fun oL a1 a2 hoL a3=>?_
  exact⟨oL,a1,a2,k _ _ hL hoL,a3⟩
 ·refine x1a2 (r x sv e) fun v hv q=>?_
  refine⟨v,hv,?_⟩
  rcases q with q| ⟨q,c,oc,e1,e2,e3⟩
  ·exact .inl q
  ·exact .inr ⟨q,c,oc,e1,k _ _ (ndc _ (k0a e1)) e2,e3⟩
 ·refine x1a2 (H.led p (a0N _ hp)) fun o a b=>?_
  exact⟨o,k _ _ (ndl p hp) a,b⟩
 ·refine x2a2 (H.cel p hp) fun o v a b=>?_
  exact⟨o,v,k _ _ (ndc p hp) a,b⟩
 ·rw[a1E]at nd⊢
  exact⟨nd.1,(a1E.mp nd.2.1).1,fun a ha b hb=>nd.2.2 a ha b (a0N _ hb)⟩
theorem Hold.turn (H:Hold C σ (ld++its wr ob) s)(k:∀b o,b∉wr ->s.heap.get? b=some o ->s'.heap.get? b=some o)(e:∀b∈wr,s'.heap.get? b=some (ob' b))
  (hr:C.rest s'):Hold C σ (ld++its wr ob') s':=by
 have G:=H.off k hr
 refine⟨G.fr,fun p hp=>?_,G.cel,?_,G.rest⟩
 ·rcases a0V.mp hp with hp|hp
  ·exact G.led p hp
  ·refine x1a2 (a0K.mp hp) fun b hb za=>?_;obtain rfl:=za
   refine x1a3 (H.led _ (a0L _ (k4e (ob:=ob) hb))) fun o a c d=>?_
   exact⟨_,e b hb,rfl,d⟩
 ·have nd:=H.nodup
  rw[a0U,k5q]at nd⊢;exact nd
noncomputable def forP (it:Led)(J:Loc ->Led ->Prop)(K:Loc ->Led ->Prop)(P:Fl ->Loc ->Led ->Prop):Fl ->Loc ->Led ->Prop
 | .next,σ,ld=>∃σ₁ ld₁,J σ₁ ld₁∧SubL σ σ₁∧List.Sublist (ld₁++it) ld
 | .cont,σ,ld=>∃σ₁ ld₁,J σ₁ ld₁∧SubL σ σ₁∧List.Sublist (ld₁++it) ld
 | .brk,σ,ld=>Ends K σ ld
 | .ret sv,σ,ld=>P (.ret sv) σ ld
theorem forG {target:Expr}{body:List Stmt}{I:Addr}{n:Nat}{Pi Md:Nat ->Value ->Heap ->Prop}{St:Nat ->Heap ->Prop}{P:Fl ->Loc ->Led ->Prop}{Q:Flow ->Shared ->Prop}{E:Value ->Shared ->Prop}
  (W:KTurns PR C.w C.A target I fp wr n Pi Md St)(J:Nat ->Loc ->Led ->Prop)(K:Loc ->Led ->Prop)(bind:Nat ->Loc)
  (H:Hold C σ0 (B9++its wr ob) s)(hst:St 0 s.heap)(h0:J 0 σ0 B9)(hob:∀i h,St i h ->∀b∈wr,∃o,h.get? b=some o)
  (hfp:∀b∈fp,b∈wr∨(∃o,C.h₀.get? b=some o)∨∃o,∀i σ ld,J i σ ld ->(b,SO.obj o)∈ld)
  (asg:∀i v σ ld s (Q:Unit ->Shared ->Prop) (E:Value ->Shared ->Prop),i<n ->Pi i v s.heap ->Hold C σ ld s ->(∀s',Hold C (bind i++σ) ld s' ->Q () s') ->wpAny (model PR C.w) C.A (assign target C.env v) Q E s)
  (turn:∀i σ ld it,i<n ->J i σ ld ->it.map (·.1)=wr ->Xs C (bind i++σ) (ld++it) body (forP it (J (i+1)) K P))
  (done:∀σ ld,J n σ ld ->P .next σ ld)(brk:∀σ ld,K σ ld ->P .next σ ld)
  (k:∀f fl σ' ld' s',fl.is f ->P fl σ' ld' ->Hold C σ' ld' s' ->Q f s'):
  codeAny (model PR C.w) C.A (.forLoop target (.ref I) body [] C.env) (fun r s'=>match r with| .ok f=>Q f s'| .error e=>cameBackBy (model PR C.w) C.A C.env E e s') s:=by
 refine codeAny_forLoop_any (fun m s'=>∃i σ ld ob,Hold C σ (ld++its wr ob) s'∧St i s'.heap∧J i σ ld∧i<=n∧m=n+1-i) ?_ (n+1) ⟨0,σ0,B9,ob,H,hst,h0,a0R _,rfl⟩
 rintro m s' zu;refine x4a5 zu fun i σ ld ob H' hst' hJ hi za=>?_;clear zu;obtain rfl:=za
 by_cases hlt:i<n
 ·refine W.item i _ _ _ hlt hst' fun v B2 E4 hM C6=>?_
  refine W.go i v _ _ _ hM fun B3 hP E5 F1=>?_
  have kk:∀b o,b∉wr ->s'.heap.get? b=some o ->B3.get? b=some o:=fun b o hb e=>F1 b o hb (C6 b o hb e)
  have hob2:=hob _ _ E5
  have C8:Hold C σ (ld++its wr fun b=>(B3.get? b).getD default) {s' with heap:=B3,toks:=E4}:=H'.turn kk (fun b hb=>by
   obtain⟨o,ho⟩:=hob2 b hb
   show B3.get? b=some ((B3.get? b).getD default)
   rw[ho];rfl) (C.ok _ _ _ H'.rest)
  refine asg i v σ _ _ _ _ hlt hP C8 fun B5 C0=>?_
  have tr:∀ {σa σb:Loc} {la lb:Led} {sa sb:Shared},Hold C σa (la++its wr fun b=>(B3.get? b).getD default) sa ->Hold C σb (lb++its wr fun b=>(B3.get? b).getD default) sb ->(∃i σ,J i σ la) ->(∃i σ,J i σ lb) ->St (i+1) sa.heap ->St (i+1) sb.heap:=by
   rintro σa σb la lb sa sb Ha Hb zu zr2 hs;refine ex2 zu fun ia sia Ja=>?_;refine ex2 zr2 fun ib sib Jb=>?_;clear zr2
   refine W.frame _ _ _ hs fun b hb o e=>?_
   rcases hfp b hb with q| ⟨o',q⟩| ⟨o',q⟩
   ·have e1:=Ha.get (a0L _ (k4e q))
    rw[e]at e1;cases e1
    exact Hb.get (a0L _ (k4e q))
   ·have e1:=Ha.base q
    rw[e]at e1;cases e1
    exact Hb.base q
   ·have e1:=Ha.get (a0N _ (q _ _ _ Ja))
    rw[e]at e1;cases e1
    exact Hb.get (a0N _ (q _ _ _ Jb))
  have F5:St (i+1) B5.heap:=tr C8 C0 ⟨_,_,hJ⟩ ⟨_,_,hJ⟩ E5
  refine(turn i σ ld _ hlt hJ k5q).run B5 _ _ C0 fun f fl σ' ld' C4 hf hp C7=>?_
  have fin:(∃σ₁ ld₁,J (i+1) σ₁ ld₁∧SubL σ' σ₁∧List.Sublist (ld₁++its wr fun b=>(B3.get? b).getD default) ld') ->∃m',m'<n+1-i∧∃i σ ld ob,Hold C σ (ld++its wr ob) C4∧St i C4.heap∧J i σ ld∧i<=n∧m'=n+1-i:=by
   rintro zu;refine x2a3 zu fun σ₁ ld₁ hJ1 a b=>?_
   have H5:=C7.sub a b
   exact⟨n+1-(i+1),by exact om3 hlt,i+1,σ₁,ld₁,_,H5,tr C0 H5 ⟨_,_,hJ⟩ ⟨_,_,hJ1⟩ F5,hJ1,hlt,rfl⟩
  cases fl with
  |next=>obtain rfl:=hf;exact fin hp
  |cont=>obtain rfl:=hf;exact fin hp
  |brk=>
   obtain rfl:=hf
   refine x2a3 hp fun σ₁ ld₁ hK a b=>?_
   exact k .next .next _ _ _ rfl (brk _ _ hK) (C7.sub a b)
  |ret sv=>refine x1a2 hf fun v za hv=>?_;clear hf;obtain rfl:=za;exact k _ (.ret sv) _ _ _ ⟨v,rfl,hv⟩ hp C7
 ·obtain rfl:i=n:=om22 hi hlt
  refine W.done _ _ _ hst' fun B2 E4 C6=>a4W ?_
  exact k .next .next _ _ _ rfl (done _ _ hJ) (H'.off C6 (C.ok _ _ _ H'.rest))
theorem k6t {x:Str}{px:Pos}{v:Value}{sv:SV}{Q:Unit ->Shared ->Prop}{E:Value ->Shared ->Prop}(hv:sv.is v)(H:Hold C σ ld s)(hx:C.env.kindOf x=some .local)(hp:(C.env.scope.kind==.class|| (C.env.scope.kind==.module&&C.env.locals !=C.env.globals))=false)
  (k:∀s',Hold C ((x,sv)::σ) ld s' ->Q () s'):wpAny (model PR C.w) C.A (assign (.Name x px) C.env v) Q E s:=by
 refine x1a2 H.fr fun m F r=>?_
 exact wpAny_assign_Name (a2M hx F.ns (fun B3 C1 B8=>k _ (H.put F r hx hv B8 C1)) hp)
theorem Hold.iter {I:Addr}{o:Obj}(H:Hold C σ ld s)(n:s.heap.get? I=none)(k:∀b o,s.heap.get? b=some o ->s'.heap.get? b=some o)(d:s'.heap.get? I=some o)(hr:C.rest s'):
  Hold C σ (ld++its [I] fun _=>o) s':=by
 have G:=H.new (so:=.obj o) n k d rfl hr
 refine⟨G.fr,fun p hp=>?_,G.cel,?_,G.rest⟩
 ·rcases a0V.mp hp with hp|hp
  ·exact G.led p (.tail _ hp)
  ·exact G.led p (by rw[show its [I] (fun _=>o)=[(I,SO.obj o)]from rfl]at hp;rw[a0B.mp hp];exact .head _)
 ·have nd:=G.nodup
  rw[a0U,k5q]
  refine(List.Perm.nodup_iff ?_).mp nd
  refine List.Perm.append_left _ ?_
  exact(List.perm_append_singleton I (ld.map (·.1))).symm
variable {x:Str}{px pos:Pos}{body:List Stmt}{P:Fl ->Loc ->Led ->Prop}{it:Expr}
theorem X1.forS {y:Str}(hi:Ev C σ0 B9 it (.str y))(G:C.A.handled=none)(J:Nat ->Loc ->Led ->Prop)(K:Loc ->Led ->Prop)(h0:Ends (J 0) σ0 B9)
  (turn:∀i c σ ld I,y.cps[i]?=some c ->J i σ ld ->Xs C ((x,.str ⟨#[c]⟩)::σ) (ld++[I]) body (forP [I] (J (i+1)) K P))
  (done:∀σ ld,J y.cps.size σ ld ->P .next σ ld)(brk:∀σ ld,K σ ld ->P .next σ ld)
  (hx:autoParam (C.env.kindOf x=some .local) aR)(hp:autoParam ((C.env.scope.kind==.class|| (C.env.scope.kind==.module&&C.env.locals !=C.env.globals))=false) aR)(hs:autoParam (∀v,foldedSetIterable it C.env v=pure v) aI):X1 C σ0 B9 (.For (.Name x px) it body [] pos) P:=.mk fun s Q E H k=>by
 refine wpAny_For (hi.run s _ _ H fun v s' g hv=>?_) hs
 obtain⟨t,rfl⟩:=hv
 have H':=H.go g
 refine x2a3 h0 fun σ₁ ld₁ hJ a b=>?_
 have E2:=H'.sub a b
 have fr:s'.heap.get? s'.heap.objs.size=none:=by
  cases q:s'.heap.get? s'.heap.objs.size with
  |none=>rfl
  |some o=>exact absurd (a0M q) (a1R _)
 have go:∀ {St:Nat ->Heap ->Prop} {o:Obj},o.isFreed=false ->Walks PR C.w C.A s'.heap.objs.size [s'.heap.objs.size] [s'.heap.objs.size] y.cps.size (SignAt y) St ->St 0 (s'.heap.push o) ->(∀i h,St i h ->∃o,h.get? s'.heap.objs.size=some o) ->
   codeAny (model PR C.w) C.A (.forLoop (.Name x px) (.ref s'.heap.objs.size) body [] C.env) (fun r s'=>match r with| .ok f=>Q f s'| .error e=>cameBackBy (model PR C.w) C.A C.env E e s') {s' with heap:=s'.heap.push o}:=by
  intro St o hf W hst hob
  refine forG (KTurns.ofWalks W fun i v s Q E _ q=>a5A rfl q) J K (fun i=>[(x,.str ⟨#[(y.cps[i]?).getD 0]⟩)]) (E2.iter (s':={s' with heap:=s'.heap.push o}) fr (fun b o e=>a0C _ e) (a0I _ hf) (C.ok _ _ _ E2.rest)) hst hJ (fun i h st b hb=>by rw[a0B.mp hb];exact hob i h st) (fun b hb=>.inl hb) ?_ ?_ done brk k
  ·rintro i v σ ld s Q E _ zu H kk;refine x2a2 zu fun c t' hc za=>?_;clear zu;obtain rfl:=za
   exact k6t (sv:=.str ⟨#[(y.cps[i]?).getD 0]⟩) (by rw[hc];exact⟨_,rfl⟩) H hx hp kk
  ·intro i σ ld it hi hJ hit
   obtain⟨p,rfl⟩:∃p,it=[p]:=by
    obtain _| ⟨p,_|_⟩:=it
    ·cases hit
    ·exact⟨p,rfl⟩
    ·simp at hit
   have hc:y.cps[i]?=some (y.cps[i]):=a2Z hi
   show Xs C ((x,.str ⟨#[(y.cps[i]?).getD 0]⟩)::σ) _ body _
   rw[hc]
   exact turn i _ σ ld p hc hJ
 cases ha:y.cps.all (· <128)with
 |true=>exact wpAny_pyIter_ascii ha (go rfl (Walks.strAscii G s'.heap.objs.size y t) ⟨_,a0I _ rfl,rfl,rfl⟩ fun i h st=>let⟨o,ho,_⟩:=st;⟨o,ho⟩)
 |false=>exact wpAny_pyIter_wide ha (go rfl (Walks.strWide G s'.heap.objs.size y t) ⟨_,a0I _ rfl,rfl,rfl⟩ fun i h st=>let⟨o,ho,_⟩:=st;⟨o,ho⟩)
end
inductive BindIs:Loc ->List (Str×Value) ->Prop
 |nil:BindIs [] []
 |cons {x:Str} {sv:SV} {v:Value} {σ:Loc} {b:List (Str×Value)} (h:sv.is v) (t:BindIs σ b):BindIs ((x,sv)::σ) ((x,v)::b)
theorem BindIs.get {σ:Loc}{b:List (Str×Value)}(h:BindIs σ b):∀x sv,σ.lookup x=some sv ->∃v,b.lookup x=some v∧sv.is v:=by
 induction h with
 |nil=>intro x sv e;cases e
 | @cons y sw v σ b hv t ih=>
  intro x sv e
  rw[a3T]at e⊢
  cases q:(x==y)with
  |true=>
   rw[q]at e
   injection e with e;subst e
   exact⟨v,rfl,hv⟩
  |false=>
   rw[q]at e
   exact ih x sv e
structure After (s s':Shared)(new:Led):Prop where
 g:Grow s s'
 led:∀p∈new,∃o,s.heap.get? p.1=none∧s'.heap.get? p.1=some o∧p.2.is o
 nodup:(new.map (·.1)).Nodup
noncomputable def Cn (w:World)(n:Nat)(f:Addr)(svs:List SV)(pre:Heap ->Prop)(post:SV ->Led ->Prop):Prop:=
 ∀(A:Around) (s:Shared) (Q:Value ->Shared ->Prop) (E:Value ->Shared ->Prop) (vs:List Value) (mg mb:Str ->Option Value),(hd.heap_1 w.params).In s.heap ->TopRead vw loose mg mb s.heap ->OkA A n ->Are svs vs ->pre s.heap ->
  (∀v sv new s',sv.is v ->post sv new ->After s s' new ->Q v s') ->wpAny (model PR w) A (call (.ref f) vs) Q E s
noncomputable def retP (post:SV ->Led ->Prop):Fl ->Loc ->Led ->Prop
 | .ret sv,_,ld=>∃new,post sv new∧List.Sublist new ld
 |_,_,ld=>∃new,post SN new∧List.Sublist new ld
noncomputable def shapeOf (s s':Shared):Prop:=∃h tk,s'={s with heap:=h,toks:=tk}
theorem k1l (B6:Shared):∀s h tk,shapeOf B6 s ->shapeOf B6 {s with heap:=h,toks:=tk}:=by
 rintro s h tk zu;refine ex2 zu fun h' tk' za=>?_;clear zu;obtain rfl:=za
 exact⟨h,tk,rfl⟩
theorem k3r {w:World}{n:Nat}{f:Addr}{svs:List SV}{pre:Heap ->Prop}{post:SV ->Led ->Prop}{name qual:Str}{params:Arguments}{body:List Stmt}{scope:Scope}
  {dV kV doc pm cdv ct oc:Value}{an od:Option Addr}{osl:Array (Option Value)}{σ:Loc}{binds:List Value ->List (Str×Value)}
  (ho:(hd.heap_1 w.params).lookup f=some ⟨oc,od,.func (fnOf name qual params body scope dV kV doc pm an cdv ct),osl⟩)(hcd:codeIn (hd.heap_1 w.params) cdv qual=true)
  (hbind:∀vs (s:Shared),(hd.heap_1 w.params).In s.heap ->Are svs vs ->BindsTo s (fnOf name qual params body scope dV kV doc pm an cdv ct) ⟨vs,[]⟩ (binds vs))(hσ:∀vs,Are svs vs ->BindIs σ (binds vs).reverse)(hloc:∀vs,Are svs vs ->∀y∈binds vs,scope.names.lookup y.1=some .local)
  (hn:(400-10*n).blt recursionLimit=true)
  (h:∀(h₀:Heap) (sh:Shared) (L:Addr),let C:Cx:=⟨w,(AL n).deeper (envOf qual scope L f cdv),envOf qual scope L f cdv,h₀,shapeOf sh,k1l sh⟩
   Gd C ->pre h₀ ->Xs C σ [] body (retP post))
  (hco:autoParam (scope.isCoroutine=false) aR) (hgen:autoParam (scope.isGenerator=false) aR) (hk:autoParam (scope.kind=.function) aR)
  (hcell:autoParam (∀x∈scope.names,x.2≠ .cell) aD):Cn w n f svs pre post:=by
 intro A s Q E vs mg mb X T hA hvs hpre k
 refine k6j hA (a4I (enter X T (kb hn) ho hcd (hbind vs s X hvs) (hloc vs hvs) (fun B2 F N=>?_) hco hgen hk hcell))
 have H:Hold ⟨w,(AL n).deeper (envOf qual scope s.heap.objs.size f cdv),envOf qual scope s.heap.objs.size f cdv,s.heap,shapeOf s,k1l s⟩ σ [] {s with heap:=B2,toks:=s.toks+(binds vs).length}:=by
  refine⟨⟨_,F,fun x sv e=>?_⟩,(fun _ h=>nomatch h),(fun _ h=>nomatch h),a1U,⟨_,_,rfl⟩⟩
  refine x1a2 ((hσ vs hvs).get x sv e) fun v hv q=>?_
  refine⟨v,q,.inl ⟨?_,hv⟩⟩
  have hm:=k0a hv
  exact hloc vs hvs _ (a4F.mp hm)
 refine(h s.heap s s.heap.objs.size ⟨X,⟨mg,mb,T⟩,rfl,rfl,hk,rfl⟩ hpre).run _ _ _ H fun f fl σ' ld' s' hf hp H'=>?_
 have G:Grow s s':=by refine x1a2 H'.fr fun m F' _=>?_;exact⟨F'.keep,H'.rest⟩
 have Af:∀new,List.Sublist new ld' ->After s s' new:=fun new hsub=>
  have H2:=H'.sub (σ₁:=[]) trivial hsub
  ⟨G,fun p hp=>let⟨o,a,b,_,d⟩:=H2.led p hp;⟨o,d,a,b⟩,(a1E.mp H2.nodup).2.1⟩
 cases fl with
 |ret sv=>
  refine x1a2 hf fun v za hv=>?_;clear hf;obtain rfl:=za
  refine x1a2 hp fun new hq hsub=>?_
  exact k v sv new s' hv hq (Af new hsub)
 |next=>obtain rfl:=hf;refine x1a2 hp fun new hq hsub=>?_;exact k _ SN new s' rfl hq (Af new hsub)
 |brk=>obtain rfl:=hf;refine x1a2 hp fun new hq hsub=>?_;exact k _ SN new s' rfl hq (Af new hsub)
 |cont=>obtain rfl:=hf;refine x1a2 hp fun new hq hsub=>?_;exact k _ SN new s' rfl hq (Af new hsub)
section
variable {C:Cx}{σ:Loc}{ld:Led}{x:Str}{np pos:Pos}{e:Expr}{rest:List Expr}{svs:List SV}
theorem k0g {w:World}{n:Nat}{f:Addr}{sv:SV}{x:Str}{pre:Heap ->Prop}{post:SV ->Led ->Prop}{name qual:Str}{params:Arguments}{body:List Stmt}{scope:Scope}
  {dV kV doc pm cdv ct oc:Value}{an od:Option Addr}{osl:Array (Option Value)}
  (ho:(hd.heap_1 w.params).lookup f=some ⟨oc,od,.func (fnOf name qual params body scope dV kV doc pm an cdv ct),osl⟩)(hcd:codeIn (hd.heap_1 w.params) cdv qual=true)
  (hb:∀v (s:Shared),BindsTo s (fnOf name qual params body scope dV kV doc pm an cdv ct) ⟨[v],[]⟩ [(x,v)])(hloc:scope.names.lookup x=some .local)
  (hn:(400-10*n).blt recursionLimit=true)
  (h:∀(h₀:Heap) (sh:Shared) (L:Addr),let C:Cx:=⟨w,(AL n).deeper (envOf qual scope L f cdv),envOf qual scope L f cdv,h₀,shapeOf sh,k1l sh⟩
   Gd C ->pre h₀ ->Xs C [(x,sv)] [] body (retP post))
  (hco:autoParam (scope.isCoroutine=false) aR) (hgen:autoParam (scope.isGenerator=false) aR) (hk:autoParam (scope.kind=.function) aR)
  (hcell:autoParam (∀x∈scope.names,x.2≠ .cell) aD):Cn w n f [sv] pre post:=
 k3r (binds:=fun vs=>[(x,vs.headD .none)]) ho hcd (fun vs s _ h=>by refine x1a2 h.one fun v za _=>?_;obtain rfl:=za;exact hb v s) (fun vs h=>by refine x1a2 h.one fun v za hv=>?_;obtain rfl:=za;exact .cons hv .nil)
  (fun vs _ y hy=>by rw[a0B.mp hy];exact hloc) hn h hco hgen hk hcell
theorem Hold.call {s s':Shared}{new:Led}(H:Hold C σ ld s)(A:After s s' new):Hold C σ (new++ld) s':=by
 have G:=H.go A.g
 refine x1a2 H.fr fun m F r=>?_
 obtain⟨oL,hL⟩:=H.loc
 have fresh:∀p∈new,∀b o,s.heap.get? b=some o ->b≠p.1:=fun p hp b o e q=>by
  refine x1a2 (A.led p hp) fun o' n _=>?_
  rw[q,n]at e;cases e
 refine⟨G.fr,fun p hp=>?_,G.cel,?_,G.rest⟩
 ·rcases a0V.mp hp with hp|hp
  ·refine x1a3 (A.led p hp) fun o n a b=>?_
   exact⟨o,a,b,fun q=>fresh p hp _ _ hL q.symm,k0e F.keep n⟩
  ·exact G.led p hp
 ·have nd:=H.nodup
  rw[a1E]at nd
  rw[a0U,a1E]
  refine⟨nd.1,?_,fun a ha b hb q=>?_⟩
  ·rw[a1E]
   refine⟨A.nodup,nd.2.1,fun a ha b hb q=>?_⟩
   refine x1a2 (a0K.mp ha) fun p hp za=>?_;obtain rfl:=za
   refine x1a2 (a0K.mp hb) fun p' hp' za=>?_;obtain rfl:=za
   refine x1a2 (H.led p' hp') fun o a _=>?_
   exact fresh p hp _ _ a q.symm
  ·rcases a0V.mp hb with hb|hb
   ·refine x1a2 (a0K.mp hb) fun p hp za=>?_;obtain rfl:=za
    refine x1a2 (a0K.mp ha) fun p' hp' za=>?_;obtain rfl:=za
    refine x2a2 (H.cel p' hp') fun o v a _=>?_
    exact fresh p hp _ _ a q
   ·exact nd.2.2 a ha b hb q
theorem Ew.a1 {f:Addr}{n:Nat}{pre:Heap ->Prop}{post:SV ->Led ->Prop}{P:SV ->Led ->Prop}(G:Gd C)(c:Cn C.w n f svs pre post)(hargs:EwL C σ ld (e::rest) fun svs' ld'=>svs'=svs∧(∀s,Hold C σ ld' s ->pre s.heap)∧∀sv new,post sv new ->P sv (new++ld'))
  (hA:OkA C.A n)(e1:nsIn (hd.heap_1 C.w.params) mainGlobals x=some (some (.ref f))){o:Obj}{fd:FuncData}(hf:(hd.heap_1 C.w.params).lookup f=some o)(hfd:o.data=.func fd)(hx:autoParam (C.env.kindOf x=some .globalImplicit) aR)(hd:autoParam ((x==("__debug__":Str))=false) aE)
  (he:autoParam (eval (.Call (.Name x np) (e::rest) [] pos) C.env=(do callWith pos (<-eval (.Name x np) C.env) [] (backTo pos (starEach (e::rest) C.env)) (backToKw pos (keywordEach [] C.env)))) aR)
  (hs:autoParam (starEach (e::rest) C.env=(false,eval e C.env)::starEach rest C.env) aR):Ew C σ ld (.Call (.Name x np) (e::rest) [] pos) P:=.mk fun s Q E H k=>by
 refine Call_ (k5k G H e1 hx hd (callWith_def (o:=o) hfd (hargs.run pos s _ E H fun vs svs' ld' s' hvs hp H'=>?_) hs)) he
 refine an3 hp fun za hpre hpost=>?_;clear hp;obtain rfl:=za
 refine ex2 G.T fun mg mb T=>?_
 refine x1a2 H'.fr fun m F _=>?_
 exact⟨G.X.keeps F.keep f o hf,c C.A s' Q E vs mg mb (G.X.keeps F.keep) (T.keeps F.keep) hA hvs (hpre s' H') fun v sv new s'' hv hq A=>k v sv _ s'' hv (hpost sv new hq) (H'.call A)⟩
end
noncomputable def TyIs (C:Cx)(σ:Loc)(ld:Led)(sa:SV)(T:String):Prop:=∀v s,sa.is v ->Hold C σ ld s ->s.TypeIs v T∧∀a,v=.ref a ->∃o,s.heap.get? a=some o∧o.dict=none
noncomputable def Has (C:Cx)(σ:Loc)(ld:Led)(a:Addr)(so:SO):Prop:=∀s,Hold C σ ld s ->∃o,s.heap.get? a=some o∧so.is o
section
variable {C:Cx}{σ:Loc}{ld:Led}{x y:Str}{a b e:Expr}{pos np ap:Pos}{i j:Int}{sv sa:SV}{args rest:List Expr}{svs xs ys:List SV}{D:Addr}{id:String}{T:String}
theorem TyIs.str:TyIs C σ ld (.str x) "str":=by
 rintro v s ⟨t,rfl⟩ H
 exact⟨typeIs_str _ _ _,fun a e=>nomatch e⟩
theorem Has.mem {so:SO}(h:(D,so)∈ld):Has C σ ld D so:=fun s H=>let⟨o,a,b,_⟩:=H.led _ h;⟨o,a,b⟩
theorem Has.frz {so:SO}{o:Obj}(h:(D,SO.obj o)∈ld)(i:so.is o):Has C σ ld D so:=fun s H=>⟨o,H.get h,i⟩
theorem Has.base {so:SO}{o:Obj}(h:C.h₀.get? D=some o)(i:so.is o):Has C σ ld D so:=fun s H=>⟨o,H.base h,i⟩
theorem TyIs.list (h:Has C σ ld D (.list xs)):TyIs C σ ld (SR D) "list":=by
 rintro v s rfl H
 refine x1a2 (h s H) fun o ho zx=>x2a2 zx fun vs n za _=>?_;clear zx;obtain rfl:=za
 exact⟨⟨_,ho,rfl⟩,fun a e=>by cases e;exact⟨_,ho,rfl⟩⟩
theorem Ew.meth {name:Str} {P:SV ->Led ->Prop} (ha:Ev C σ ld a sa) (hargs:EwL C σ ld (e::rest) fun svs ld'=>TyIs C σ ld sa T ->
   ∀v vs s (Q:Value ->Shared ->Prop) (E:Value ->Shared ->Prop),sa.is v ->Are svs vs ->Hold C σ ld' s ->(∀r sr ld'' s',sr.is r ->P sr ld'' ->Hold C σ ld'' s' ->Q r s') ->wpAny (model PR C.w) C.A (call (.builtin id) (v::vs)) Q E s)
  (hT:TyIs C σ ld sa T) (pa:PlainAttrs T) (slot:Slot T name id) (hty:typeOf (.builtin id)=Pure.pure (.type "method_descriptor"))
  {pl:Sem Bool} (he:autoParam (eval (.Call (.Attribute a name ap) (e::rest) [] pos) C.env=(do
   let ov <-eval a C.env
   standAt ap.atName
   let(f,first) <-holding [ov] (getMethod ov name pl)
   callWith pos f first (backTo pos (starEach (e::rest) C.env)) [])) aR)
  (hs:autoParam (starEach (e::rest) C.env=(false,eval e C.env)::starEach rest C.env) aR) (hplain:autoParam ((backTo pos (starEach rest C.env)).any (·.1)=false) aR):Ew C σ ld (.Call (.Attribute a name ap) (e::rest) [] pos) P:=.mk fun s Q E H k=>by
 refine MethodCall_ (ha.run s _ _ H fun v s' g hv=>?_) he
 obtain⟨h1,h2⟩:=hT v s' hv (H.go g)
 refine a6A h1 pa slot hty h2 ?_
 refine a6O (by rw[hs];show(false|| (backTo pos (starEach rest C.env)).any (·.1))=false;rw[hplain];rfl) ?_
 have hq:=hargs.run pos s' (fun vs B1=>wpAny (model PR C.w) C.A (call (.builtin id) (v::vs)) Q E B1) E (H.go g) fun vs svs ld' s'' hvs hp H'=>hp hT v vs s'' Q E hv hvs H' fun r sr ld'' s3 hr p H3=>k r sr ld'' s3 hr p H3
 rw[hs]at hq⊢
 exact a5N hq
theorem Ev.meth {name:Str}(ha:Ev C σ ld a sa)(hargs:EvL C σ ld (e::rest) svs)(hb:∀v vs s (Q:Value ->Shared ->Prop) (E:Value ->Shared ->Prop),sa.is v ->Are svs vs ->Hold C σ ld s ->(∀r s',Grow s s' ->sv.is r ->Q r s') ->wpAny (model PR C.w) C.A (call (.builtin id) (v::vs)) Q E s)
  (hT:TyIs C σ ld sa T)(pa:PlainAttrs T)(slot:Slot T name id)(hty:typeOf (.builtin id)=Pure.pure (.type "method_descriptor"))
  {pl:Sem Bool}(he:autoParam (eval (.Call (.Attribute a name ap) (e::rest) [] pos) C.env=(do
   let ov <-eval a C.env
   standAt ap.atName
   let(f,first) <-holding [ov] (getMethod ov name pl)
   callWith pos f first (backTo pos (starEach (e::rest) C.env)) [])) aR)
  (hs:autoParam (starEach (e::rest) C.env=(false,eval e C.env)::starEach rest C.env) aR) (hplain:autoParam ((backTo pos (starEach rest C.env)).any (·.1)=false) aR):Ev C σ ld (.Call (.Attribute a name ap) (e::rest) [] pos) sv:=.mk fun s Q E H k=>by
 refine MethodCall_ (ha.run s _ _ H fun v s' g hv=>?_) he
 obtain⟨h1,h2⟩:=hT v s' hv (H.go g)
 refine a6A h1 pa slot hty h2 ?_
 refine a6O (by rw[hs];show(false|| (backTo pos (starEach rest C.env)).any (·.1))=false;rw[hplain];rfl) ?_
 have hq:=hargs.run pos s' (fun vs B1=>wpAny (model PR C.w) C.A (call (.builtin id) (v::vs)) Q E B1) E (H.go g) fun vs s'' g' hvs=>hb v vs s'' Q E hv hvs ((H.go g).go g') fun r s3 g3 hr=>k r s3 ((g.trans g').trans g3) hr
 rw[hs]at hq⊢
 exact a5N hq
theorem Opr.mulI (hm:IntMulOk i j):Opr C .Mult (.int i) (.int j) (.int (i*j)):=.mk<|by
 rintro v u s Q E ⟨t,rfl⟩ ⟨t',rfl⟩ k
 exact mul_int (k _ _ .tk ⟨_,rfl⟩) hm
end
noncomputable def blk (C:Cx)(scope:Scope)(cl:List (Str×Addr))(B:Addr)(s:Shared):Cx:={C with env:=compEnvC scope cl B C.env,rest:=shapeOf s,ok:=k1l s}
structure CapOk (C:Cx)(scope:Scope)(cl:List (Str×Addr))(σ σc:Loc):Prop where
 clos:closureFor scope C.env=Pure.pure cl
 sub:∀p∈cl,p∈C.env.cells
 nd:(cl.map (·.2)).Nodup
 cap:∀p∈σc,σ.lookup p.1=some p.2∧(C.env.kindOf p.1=some .cell∨C.env.kindOf p.1=some .free)∧cl.lookup p.1=C.env.cells.lookup p.1∧∀B,(compEnvC scope cl B C.env).kindOf p.1=some .cell∨(compEnvC scope cl B C.env).kindOf p.1=some .free
noncomputable def SV.plain:SV ->Bool
 | .val (.int ..)=>false
 | .val (.str ..)=>false
 |_=>true
theorem SV.one {a b:SV}{v:Value}(ha:a.plain=true)(hb:b.plain=true)(h:a.is v)(g:b.is v):a=b:=by
 cases a with
 |val u=>
  obtain rfl:v=u:=h
  cases b with
  |val u'=>obtain rfl:v=u':=g;rfl
  |int i=>obtain⟨t,rfl⟩:=g;cases ha
  |str y=>obtain⟨t,rfl⟩:=g;cases ha
 |int i=>
  obtain⟨t,rfl⟩:=h
  cases b with
  |val u'=>obtain rfl:_=u':=g;cases hb
  |int j=>obtain⟨u,e⟩:=g;cases e;rfl
  |str y=>obtain⟨u,e⟩:=g;cases e
 |str y=>
  obtain⟨t,rfl⟩:=h
  cases b with
  |val u'=>obtain rfl:_=u':=g;cases hb
  |int j=>obtain⟨u,e⟩:=g;cases e
  |str z=>obtain⟨u,e⟩:=g;cases e;rfl
theorem Are.len {as:List SV}{vs:List Value}(h:Are as vs):as.length=vs.length:=by
 induction h with
 |nil=>rfl
 |cons _ _ ih=>simp[ih]
theorem Are.get {as:List SV}{vs:List Value}(h:Are as vs):∀(i:Nat) (v:Value),vs[i]?=some v ->∃a,as[i]?=some a∧a.is v:=by
 induction h with
 |nil=>intro i v e;simp at e
 | @cons a u as vs ha t ih=>
  intro i v e
  cases i with
  |zero=>simp at e;subst e;exact⟨a,rfl,ha⟩
  |succ i=>simpa using ih i v (by simpa using e)
theorem Are.at {as:List SV}{vs:List Value}(h:Are as vs):∀(i:Nat) (a:SV),as[i]?=some a ->∃v,vs[i]?=some v∧a.is v:=by
 induction h with
 |nil=>intro i v e;simp at e
 | @cons a u as vs ha t ih=>
  intro i v e
  cases i with
  |zero=>simp at e;subst e;exact⟨u,rfl,ha⟩
  |succ i=>simpa using ih i v (by simpa using e)
theorem Are.ofGet:∀ {as:List SV} {vs:List Value},vs.length=as.length ->(∀(i:Nat) (v:Value),vs[i]?=some v ->∃a:SV,as[i]?=some a∧a.is v) ->Are as vs
 | [],[],_,_=>.nil
 | [],_::_,e,_=>by simp at e
 |_::_,[],e,_=>by simp at e
 |a::as,v::vs,e,h=>by
  refine x1a2 (h 0 v rfl) fun b hb q=>?_
  simp at hb;subst hb
  exact .cons q (Are.ofGet (by simpa using e) fun i u hu=>by simpa using h (i+1) u (by simpa using hu))
theorem Are.pairF {f:SV ->SV}{p:SV ->Bool}{pv:Value ->Bool}{xs:List SV}(hx:∀a∈xs,SV.plain a=true)(hp:∀a∈xs,∀v,SV.is a v ->pv v=p a):∀ {as:List SV} {vs ys:List Value},(∀a∈as,a∈xs) ->Are as vs ->Paired (fun v y=>∃a∈xs,a.is v∧(f a).is y) (vs.filter pv) ys ->Are ((as.filter p).map f) ys
 |_,_,_,_,.nil,h=>by
  have h:Paired _ [] _:=h
  cases h;exact .nil
 |a::as,v::vs,ys,hm,.cons h t,q=>by
  have hpa:=hp a (hm a a4M) v h
  rw[a5J]at q⊢
  cases e:p a with
  |true=>
   rw[hpa,e,if_pos rfl]at q
   rw[if_pos rfl,a0P]
   cases q with
   |cons q1 q2=>
    refine x1a3 q1 fun b hb h1 h2=>?_
    have:=SV.one (hx a (hm a a4M)) (hx b hb) h h1
    subst this
    exact .cons h2 (Are.pairF hx hp (fun a ha=>hm a (a4T _ ha)) t q2)
  |false=>
   rw[hpa,e,if_neg (by decide)]at q
   rw[if_neg (by decide)]
   exact Are.pairF hx hp (fun a ha=>hm a (a4T _ ha)) t q
noncomputable def SrcAt (C:Cx)(B6:Shared)(xs:List SV)(it:Value)(B0:Shared):Prop:=
 ∃I fp wr Pi St,it=.ref I∧Walks PR C.w C.A I fp wr xs.length Pi St∧(∀i h,St i h ->∀b∈wr,∃o,h.get? b=some o)∧St 0 B0.heap∧(∀b∈fp,b<B0.heap.objs.size)∧(∀b∈wr,B6.heap.get? b=none)∧(∀i v,Pi i v ->∃a,xs[i]?=some a∧a.is v)∧Grow B6 B0
structure Src (C:Cx)(σ:Loc)(ld:Led)(iter:Expr)(xs:List SV):Prop where
 run:∀(s:Shared) (Q:Value ->Shared ->Prop) (E:Value ->Shared ->Prop),Hold C σ ld s ->(∀it B0,SrcAt C s xs it B0 ->Q it B0) ->wpAny (model PR C.w) C.A (eval iter C.env) (fun xv B1=>wpAny (model PR C.w) C.A (pyIter xv) Q E B1) E s
section
variable {C:Cx}{σ σc:Loc}{ld:Led}{s s':Shared}{x:Str}
theorem Hold.blkN {scope:Scope}{cl:List (Str×Addr)}{B:Addr}{D8:Str ->Option Value}{σl:Loc}(H:Hold C σ ld s)(hc:CapOk C scope cl σ σc)(k:∀b o,s.heap.get? b=some o ->s'.heap.get? b=some o)(hn:s'.heap.Ns B D8)(hB:∀a o,s.heap.get? a=some o ->a<B)
  (hl:∀p∈σl,(compEnvC scope cl B C.env).kindOf p.1=some .local∧∃v,D8 p.1=some v∧p.2.is v):Hold (blk C scope cl B s') (σl++σc) ld s':=by
 refine x1a2 H.fr fun m F r=>?_
 have nB:∀a o,s.heap.get? a=some o ->a≠B:=fun a o e=>a0S (hB a o e)
 have sz:C.h₀.objs.size<=B:=by
  obtain⟨oL,hL⟩:=H.loc
  exact a0H F.above (a4C (hB _ _ hL))
 refine⟨⟨D8,⟨hn,fun b o e=>k b o (F.keep b o e),sz⟩,fun y sw e=>?_⟩,fun p hp=>?_,fun p hp=>?_,?_,⟨s'.heap,s'.toks,rfl⟩⟩
 ·rcases a0V.mp (k0a e)with q|q
  ·refine an2 (hl _ q) fun hk zz=>x1a2 zz fun v hm hv=>?_
   exact⟨v,hv,.inl ⟨hk,hm⟩⟩
  ·refine an4 (hc.cap _ q) fun a1 a2 a3 a4=>?_
   refine x1a2 (r y sw a1) fun u hu q=>?_
   refine⟨u,hu,.inr ⟨a4 B,?_⟩⟩
   rcases q with⟨q,_⟩| ⟨q,c,o,e1,e2,e3⟩
   ·rw[q]at a2;rcases a2 with a2|a2<;>cases a2
   ·exact⟨c,o,a3.trans e1,k _ _ e2,e3⟩
 ·refine x1a4 (H.led p hp) fun o a b c d=>?_
  exact⟨o,k _ _ a,b,nB _ _ a,d⟩
 ·refine x2a4 (H.cel p (hc.sub p hp)) fun o u a b c d=>?_
  exact⟨o,u,k _ _ a,b,nB _ _ a,d⟩
 ·have nd:=H.nodup
  rw[a1E]at nd⊢
  refine⟨hc.nd,nd.2.1,fun a ha b hb=>nd.2.2 a ?_ b hb⟩
  refine x1a2 (a0K.mp ha) fun p hp za=>?_;obtain rfl:=za
  exact a0K.mpr ⟨p,hc.sub p hp,rfl⟩
theorem Hold.blk {scope:Scope}{cl:List (Str×Addr)}{B:Addr}{D8:Str ->Option Value}{v:Value}{sv:SV}(H:Hold C σ ld s)(hc:CapOk C scope cl σ σc)(k:∀b o,s.heap.get? b=some o ->s'.heap.get? b=some o)(hn:s'.heap.Ns B D8)(hB:∀a o,s.heap.get? a=some o ->a<B)(hm:D8 x=some v)(hv:sv.is v)
  (hk:(compEnvC scope cl B C.env).kindOf x=some .local):Hold (Mine.blk C scope cl B s') ((x,sv)::σc) ld s':=
 H.blkN (σl:=[(x,sv)]) hc k hn hB fun p hp=>by rw[a0B.mp hp];exact⟨hk,v,hm,hv⟩
inductive Tests (C:Cx)(σ:Loc)(ld:Led):List Expr ->Bool ->Prop
 |nil:Tests C σ ld [] true
 |one {c:Expr} {b:Bool} (h:Tst C σ ld c b):Tests C σ ld [c] b
theorem Tests.run {ifs:List Expr}{b:Bool}(h:Tests C σ ld ifs b){Q:Bool ->Shared ->Prop}{E:Value ->Shared ->Prop}(H:Hold C σ ld s)(k:∀s',Grow s s' ->Q b s'):
  wpAny (model PR C.w) C.A (forIn ifs true fun c r=>if r=true then do let ok <-isTrue c C.env (eval c C.env);Pure.pure (ForInStep.yield ok)else Pure.pure (ForInStep.yield r)) Q E s:=by
 cases h with
 |nil=>exact a0F (k s .refl)
 |one h=>
  rw[a4H]
  refine a0A ?_
  rw[if_pos rfl]
  refine a0A (h.run s _ E H fun c s' g hc=>?_)
  subst hc
  exact a0F (a0F (k s' g))
variable {elt iter:Expr}{px py:Pos}{scope:Scope}{pos spos:Pos}{y:Str}{P:SV ->Led ->Prop}{P':Fl ->Loc ->Led ->Prop}{ifs:List Expr}
structure CompOk (C:Cx)(σ:Loc)(ld:Led)(scope:Scope)(cl:List (Str×Addr))(σc:Loc)(x:Str)(ifs:List Expr)(elt:Expr)(xs:List SV)(p:SV ->Bool)(f:SV ->SV):Prop where
 cap:CapOk C scope cl σ σc
 kx:∀B,(compEnvC scope cl B C.env).kindOf x=some .local
 plain:∀a∈xs,a.plain=true
 size:xs.length<=10000
 tests:∀a∈xs,∀B s,Tests (blk C scope cl B s) ((x,a)::σc) ld ifs (p a)
 elt:∀a∈xs,p a=true ->∀B s,Ev (blk C scope cl B s) ((x,a)::σc) ld elt (f a)
open Classical in
noncomputable def pvOf (xs:List SV)(p:SV ->Bool)(v:Value):Bool:=decide (∃a∈xs,a.is v∧p a=true)
open Classical in
theorem k7h {xs:List SV}{p:SV ->Bool}(hx:∀a∈xs,a.plain=true):∀a∈xs,∀v,a.is v ->pvOf xs p v=p a:=by
 intro a ha v hv
 unfold pvOf
 cases e:p a with
 |true=>exact a3N ⟨a,ha,hv,e⟩
 |false=>
  refine a2G ?_
  rintro zu;refine x1a3 zu fun b hb h1 h2=>?_
  rw[<-SV.one (hx a ha) (hx b hb) hv h1,e]at h2;cases h2
theorem CompOk.quiet {cl:List (Str×Addr)}{xs:List SV}{p:SV ->Bool}{f:SV ->SV}(c:CompOk C σ ld scope cl σc x ifs elt xs p f)(H:Hold C σ ld s){wr:List Addr}{Pi:Nat ->Value ->Prop}{B0:Shared}(g:Grow s B0)(hw:∀b∈wr,s.heap.get? b=none)(hP:∀i v,Pi i v ->∃a,xs[i]?=some a∧a.is v):
  QuietOnC PR C.w C.A C.env scope cl x ifs elt wr Pi (pvOf xs p) (fun v y=>∃a∈xs,a.is v∧(f a).is y) B0:=by
 have kk:∀ {B5:Shared},(∀b o,b∉wr ->B0.heap.get? b=some o ->B5.heap.get? b=some o) ->∀b o,s.heap.get? b=some o ->B5.heap.get? b=some o:=fun hk b o e=>hk b o (fun q=>by rw[hw b q]at e;cases e) (g.keep b o e)
 have sz:∀ {B:Addr},B0.heap.objs.size<=B ->∀a o,s.heap.get? a=some o ->a<B:=fun hB a o e=>a1C (a0M (g.keep a o e)) hB
 refine⟨fun B i v B5 D8 E' hB hv hn hm hk _=>?_,fun B i v B5 D8 E' hB hv hp hn hm hk _=>?_⟩
 ·refine x1a2 (hP i v hv) fun a ha hav=>?_
  have ham:=a1D ha
  refine(c.tests a ham B B5).run (C:=Mine.blk C scope cl B B5) (H.blk c.cap (kk hk) hn (sz hB) hm hav (c.kx B)) fun C4 g'=>⟨(k7h c.plain a ham v hav).symm,?_⟩
  obtain⟨k,h',tk,rfl⟩:=g'
  exact⟨h',tk,rfl,k⟩
 ·refine x1a2 (hP i v hv) fun a ha hav=>?_
  have ham:=a1D ha
  rw[k7h c.plain a ham v hav]at hp
  refine(c.elt a ham hp B B5).run B5 _ _ (H.blk c.cap (kk hk) hn (sz hB) hm hav (c.kx B)) fun y C4 g' hy=>⟨⟨a,ham,hav,hy⟩,?_⟩
  obtain⟨k,h',tk,rfl⟩:=g'
  exact⟨h',tk,rfl,k⟩
theorem Ew.comp {cl:List (Str×Addr)}{xs:List SV}{p:SV ->Bool}{f:SV ->SV}(hsrc:Src C σ ld iter xs)(c:CompOk C σ ld scope cl σc x ifs elt xs p f)(hP:∀D,P (SR D) ((D,.list ((xs.filter p).map f))::ld))
  (hcell:autoParam (∀z∈scope.names,z.2≠ .cell) aD)(hkind:autoParam (scope.kind=.function) aR)
  (hnames:autoParam (∀z∈scope.names,z.2=.local ->scope.names.lookup z.1=some .local) aD)(hx:autoParam (scope.names.lookup x=some .local) aR)
  (hs:autoParam (∀x,foldedSetIterable iter C.env x=Pure.pure x) aI):Ew C σ ld (.ListComp elt [⟨.Name x px,iter,ifs,0⟩] scope pos) P:=.mk fun s Q E H k=>by
 refine wpAny_ListComp_free (cl:=cl) (pvOf xs p) (fun v y=>∃a∈xs,a.is v∧(f a).is y) c.cap.clos hcell hkind hnames hx (hsrc.run s _ E H fun it B0 hS=>?_) hs
 refine x5a8 hS fun I fp wr Pi St za W hl hst hfp hw hPi g=>?_;clear hS;obtain rfl:=za
 refine⟨I,fp,wr,xs.length,Pi,St,rfl,W,by rw[a1S];have:=c.size;exact om45 this,hst,hfp,c.quiet H g hw hPi,fun D h' tk ys vs hD hL hpl hlen hPv hF hk=>?_⟩
 have kk:∀b o,s.heap.get? b=some o ->h'.get? b=some o:=fun b o e=>hk b o (fun q=>by rw[hw b q]at e;cases e) (g.keep b o e)
 obtain⟨e,hpl⟩:=hpl
 obtain⟨_,B3,F6,rfl⟩:=id g
 have hA:Are xs vs:=Are.ofGet hlen fun i v hv=>hPi i v (hPv i v hv)
 refine k _ (SR D) _ {s with heap:=h',toks:=tk} rfl (hP D) (H.new (k0e g.keep hD) kk hpl ⟨ys.toList,e,by simp,Are.pairF c.plain (k7h c.plain) (fun _ h=>h) hA hF⟩ (C.ok _ _ _ H.rest))
set_option tactic.hygienic true in
theorem X1.asgC {cl:List (Str×Addr)}{xs:List SV}{p:SV ->Bool}{f:SV ->SV}(hsrc:Src C σ ld iter xs)(c:CompOk C σ ld scope cl σc x ifs elt xs p f)(hP:∀D,P' .next ((y,SR D)::σ) ((D,.list ((xs.filter p).map f))::ld))
  (hcell:autoParam (∀z∈scope.names,z.2≠ .cell) aD)(hkind:autoParam (scope.kind=.function) aR)
  (hnames:autoParam (∀z∈scope.names,z.2=.local ->scope.names.lookup z.1=some .local) aD)(hx:autoParam (scope.names.lookup x=some .local) aR)
  (hy:autoParam (C.env.kindOf y=some .local) aR)(hp:autoParam ((C.env.scope.kind==.class|| (C.env.scope.kind==.module&&C.env.locals !=C.env.globals))=false) aR)
  (hsw:autoParam (swapsWith (.ListComp elt [⟨.Name x px,iter,ifs,0⟩] scope pos) (some (.Name y py)) spos.line C.env=Pure.pure true) aR)
  (hs:autoParam (∀x,foldedSetIterable iter C.env x=Pure.pure x) aI):X1 C σ ld (.Assign [.Name y py] (.ListComp elt [⟨.Name x px,iter,ifs,0⟩] scope pos) spos) P':=.mk fun s Q E H k=>by
 refine wpAny_Assign_ListComp_free (cl:=cl) (pvOf xs p) (fun v y=>∃a∈xs,a.is v∧(f a).is y) hsw c.cap.clos hcell hkind hnames hx hy hp (hsrc.run s _ E H fun it B0 hS=>?_) hs
 refine x5a8 hS fun I fp wr Pi St za W hl hst hfp hw hPi g=>?_;clear hS;obtain rfl:=za
 have C8:=H.go g
 refine x1a2 C8.fr fun m F r=>?_
 have hLw:C.env.locals∉wr:=fun q=>by obtain⟨o,ho⟩:=H.loc;rw[hw _ q]at ho;cases ho
 refine⟨I,fp,wr,xs.length,Pi,St,m,rfl,W,by rw[a1S];have:=c.size;exact om45 this,hst,hfp,hLw,F.ns,c.quiet H g hw hPi,fun D h' tk ys vs hD hL hpl hlen hPv hF hn hk=>?_⟩
 have hDs:s.heap.get? D=none:=k0e g.keep hD
 have kk:∀b o,b≠C.env.locals ->s.heap.get? b=some o ->h'.get? b=some o:=fun b o hb e=>hk b o hb (fun q=>by rw[hw b q]at e;cases e) (g.keep b o e)
 obtain⟨e,hpl⟩:=hpl
 obtain⟨_,B3,F6,rfl⟩:=id g
 have hA:Are xs vs:=Are.ofGet hlen fun i v hv=>hPi i v (hPv i v hv)
 have hLD:D≠C.env.locals:=by
  rintro rfl
  obtain⟨o,ho⟩:=H.loc
  rw[ho]at hDs;cases hDs
 have h0L:∀b o,C.h₀.get? b=some o ->b≠C.env.locals:=fun b o e q=>by
  have h1:=a0M e;rw[q]at h1;exact absurd (a1C h1 F.above) (a1R _)
 refine x1a2 H.fr fun m0 F0 r0=>?_
 have H':Hold C ((y,SR D)::σ) ld {s with heap:=h',toks:=tk}:=by
  refine⟨⟨_,⟨hn,fun b o e=>kk b o (h0L b o e) (F0.keep b o e),F.above⟩,fun z sv ez=>?_⟩,fun p hp=>?_,fun p hp=>?_,H.nodup,C.ok _ _ _ H.rest⟩
  ·rw[a3T]at ez
   split at ez
   ·rename_i q
    injection ez with ez;subst ez
    have:z=y:=a1T.mp q
    subst this
    exact⟨_,rfl,.inl ⟨hy,if_pos rfl⟩⟩
   ·rename_i q
    have hne:z≠y:=by intro e;subst e;simp at q
    refine x1a2 (r z sv ez) fun v hv q'=>?_
    refine⟨v,hv,?_⟩
    rcases q' with⟨q1,q2⟩| ⟨q1,c,oc,e1,e2,e3⟩
    ·exact .inl ⟨q1,(if_neg hne).trans q2⟩
    ·refine x2a4 (H.cel _ (k0a e1)) fun oc' vc a1 a2 a3 _=>?_
     have:oc'=oc:=by rw[g.keep _ _ a1]at e2;cases e2;rfl
     subst this
     exact .inr ⟨q1,c,oc',e1,kk _ _ a3 a1,e3⟩
  ·refine x1a4 (H.led p hp) fun o a b c d=>?_
   exact⟨o,kk _ _ c a,b,c,d⟩
  ·refine x2a4 (H.cel p hp) fun o v a b c d=>?_
   exact⟨o,v,kk _ _ c a,b,c,d⟩
 refine k _ .next _ _ {s with heap:=h',toks:=tk} rfl (hP D) ?_
 refine⟨H'.fr,fun p hp=>?_,H'.cel,?_,H'.rest⟩
 ·rcases a0G.mp hp with rfl|hp
  ·exact⟨_,hpl,⟨ys.toList,e,by simp,Are.pairF c.plain (k7h c.plain) (fun _ h=>h) hA hF⟩,hLD,k0e F0.keep hDs⟩
  ·exact H'.led p hp
 ·have nd:=H.nodup
  have f1:D∉C.env.cells.map (·.2):=fun q=>by
   refine x1a2 (a0K.mp q) fun p hp za=>?_;obtain rfl:=za
   refine x2a2 (H.cel p hp) fun o v a _=>?_
   rw[a]at hDs;cases hDs
  have f2:D∉ld.map (·.1):=fun q=>by
   refine x1a2 (a0K.mp q) fun p hp za=>?_;obtain rfl:=za
   refine x1a2 (H.led p hp) fun o a _=>?_
   rw[a]at hDs;cases hDs
  rw[a1E]at nd⊢
  refine⟨nd.1,by simp only[a0P,a1L];exact⟨f2,nd.2.1⟩,fun a ha b hb q=>?_⟩
  simp only[a0P,a0G]at hb
  rcases hb with hb|hb
  ·exact f1 (hb▸q▸ha)
  ·exact nd.2.2 a ha b hb q
end
noncomputable def snapA (C:Cx)(ld:Led):List Addr:=C.env.cells.map (·.2)++ld.map (·.1)
noncomputable def snap (C:Cx)(ld:Led)(h:Heap):List (Addr×Obj):=(snapA C ld).map fun a=>(a,(h.get? a).getD default)
section
variable {C:Cx}{σ:Loc}{ld:Led}{s s':Shared}
theorem k0h (h:Heap):h.get? h.objs.size=none:=by
 cases q:h.get? h.objs.size with
 |none=>rfl
 |some o=>exact absurd (a0M q) (a1R _)
theorem Hold.all (H:Hold C σ ld s):∀a∈snapA C ld,∃o,s.heap.get? a=some o∧a≠C.env.locals∧C.h₀.get? a=none:=by
 intro a ha
 rcases a0V.mp ha with ha|ha
 ·refine x1a2 (a0K.mp ha) fun p hp za=>?_;obtain rfl:=za
  refine x2a3 (H.cel p hp) fun o v a _ b=>?_
  exact⟨o,a,b⟩
 ·refine x1a2 (a0K.mp ha) fun p hp za=>?_;obtain rfl:=za
  refine x1a3 (H.led p hp) fun o a _ b=>?_
  exact⟨o,a,b⟩
theorem Hold.news (H:Hold C σ ld s):News C.h₀ C.env.locals s.heap (snap C ld s.heap):=by
 intro p hp
 refine x1a2 (a0K.mp hp) fun a ha za=>?_;obtain rfl:=za
 refine x1a2 (H.all a ha) fun o e b=>?_
 exact⟨by show s.heap.get? a=some ((s.heap.get? a).getD default);rw[e];rfl,b⟩
theorem k9t {h h':Heap}{L:Addr}{h₀:Heap}(N:News h₀ L h' (snap C ld h)){a:Addr}(ha:a∈snapA C ld){o:Obj}(e:h.get? a=some o):h'.get? a=some o:=by
 have:=(N _ (a0K.mpr ⟨a,ha,rfl⟩)).1
 dsimp only at this
 rw[this,e];rfl
theorem Hold.made {D:Addr}{o:Obj}{so:SO}{h':Heap}{tk:Nat}{m:Str ->Option Value}(H:Hold C σ ld s)(r:∀x sv,σ.lookup x=some sv ->∃v,sv.is v∧Rd C.env m s.heap x v)(F:Fr C.h₀ C.env.locals h' m)
  (N:News C.h₀ C.env.locals h' ((D,o)::snap C ld s.heap))(hn:∀p∈snap C ld s.heap,p.1≠D)(i:so.is o):Hold C σ ((D,so)::ld) {s with heap:=h',toks:=tk}:=by
 have N':News C.h₀ C.env.locals h' (snap C ld s.heap):=fun p hp=>N p (.tail _ hp)
 have nD:=N _ (.head _)
 have notin:D∉snapA C ld:=fun q=>hn _ (a0K.mpr ⟨D,q,rfl⟩) rfl
 refine⟨⟨m,F,fun x sv e=>?_⟩,fun p hp'=>?_,fun p hp=>?_,?_,C.ok _ _ _ H.rest⟩
 ·refine x1a2 (r x sv e) fun v hv q=>?_
  refine⟨v,hv,?_⟩
  rcases q with q| ⟨q,c,oc,e1,e2,e3⟩
  ·exact .inl q
  ·exact .inr ⟨q,c,oc,e1,k9t N' (a0N _ (a0K.mpr ⟨_,k0a e1,rfl⟩)) e2,e3⟩
 ·rcases a0G.mp hp' with rfl|hp'
  ·exact⟨_,nD.1,i,nD.2⟩
  ·refine x1a2 (H.led p hp') fun o a b=>?_
   exact⟨o,k9t N' (a0L _ (a1N hp')) a,b⟩
 ·refine x2a2 (H.cel p hp) fun o v a b=>?_
  exact⟨o,v,k9t N' (a0N _ (a1N hp)) a,b⟩
 ·have nd:=H.nodup
  unfold snapA at notin
  rw[a1E]at nd⊢
  refine⟨nd.1,by simp only[a0P,a1L];exact⟨fun q=>notin (a0L _ q),nd.2.1⟩,fun a ha b hb q=>?_⟩
  simp only[a0P,a0G]at hb
  rcases hb with hb|hb
  ·exact notin (hb▸q▸a0N _ ha)
  ·exact nd.2.2 a ha b hb q
theorem Has.isList {D:Addr}{xs:List SV}(h:Has C σ ld D (.list xs))(H:Hold C σ ld s):∃vs,s.heap.IsList D vs.toArray∧Are xs vs:=by
 refine x1a2 (h s H) fun o ho zx=>x2a2 zx fun vs n za hv=>?_;clear zx;obtain rfl:=za
 exact⟨vs,IsL.isList ho,hv⟩
theorem Are.take {as:List SV}{vs:List Value}(h:Are as vs)(k:Nat):Are (as.take k) (vs.take k):=by
 induction h generalizing k with
 |nil=>simp;exact .nil
 |cons a t ih=>cases k with
  |zero=>exact .nil
  |succ k=>exact .cons a (ih k)
theorem Are.drop {as:List SV}{vs:List Value}(h:Are as vs)(k:Nat):Are (as.drop k) (vs.drop k):=by
 induction h generalizing k with
 |nil=>simp;exact .nil
 |cons a t ih=>cases k with
  |zero=>exact .cons a t
  |succ k=>exact ih k
theorem Are.app {as bs:List SV}{vs ws:List Value}(h:Are as vs)(g:Are bs ws):Are (as++bs) (vs++ws):=by
 induction h with
 |nil=>exact g
 |cons a t ih=>exact .cons a ih
theorem Are.strs:∀ {xs:List Str} {vs:List Value},Are (xs.map .str) vs ->StrsAre vs xs
 | [],_,.nil=>.nil
 |x::xs,_,.cons ⟨t,e⟩ r=>by subst e;exact .cons x t r.strs
theorem Are.ofStrs:∀ {xs:List Str} {vs:List Value},StrsAre vs xs ->Are (xs.map .str) vs
 |_,_,.nil=>.nil
 |_,_,.cons x t r=>.cons ⟨t,rfl⟩ (Are.ofStrs r)
end
section
variable {C:Cx}{σ:Loc}{ld:Led}{x y:Str}{a b e:Expr}{pos np ap:Pos}{i j:Int}{sv sa:SV}{args rest elts:List Expr}{svs xs ys:List SV}{D l l':Addr}{P:SV ->Led ->Prop}
theorem Ew.list (h:EwL C σ ld elts fun svs ld'=>svs.length<=10000∧∀D,P (SR D) ((D,.list svs)::ld')):Ew C σ ld (.List elts pos) P:=.mk fun s Q E H k=>by
 walk1
 refine h.run _ s _ E H fun vs svs ld' s' hv hp H'=>?_
 refine wpAny_newList (k _ (SR _) _ {s' with heap:=_,toks:=s'.toks} rfl (hp.2 _) (H'.new (k0h _) (fun b o e=>a0C _ e) (a0I _ rfl) ⟨vs,0,rfl,hv⟩ (C.ok _ _ _ H'.rest))) (by rw[a1S];exact om8 hv.len hp.1)
theorem Ew.tuple {n:Nat}(h:EwL C σ ld elts fun svs ld'=>svs.length<=10000∧∀D,P (SR D) ((D,.tup svs)::ld')):Ew C σ ld (.Tuple elts n pos) P:=.mk fun s Q E H k=>by
 walk1
 refine h.run _ s _ E H fun vs svs ld' s' hv hp H'=>?_
 refine a6M (k _ (SR _) _ {s' with heap:=_,toks:=s'.toks} rfl (hp.2 _) (H'.new (k0h _) (fun b o e=>a0C _ e) (a0I _ rfl) ⟨vs,rfl,hv⟩ (C.ok _ _ _ H'.rest))) (by rw[a1S];exact om8 hv.len hp.1)
theorem Ev.a7 (ha:Ev C σ ld a (SR l))(hl:Has C σ ld l (.list xs))(hb:Ev C σ ld b (.int i))(h0:0<=i)(hx:xs[i.toNat]?=some sv)(h1:i<2^63)
  (hs:autoParam (∀u,subscripted b false (.ref l) (.int i u)=operate [.ref l,.int i u] (getItem (.ref l) (.int i u))) aJ)(hg:autoParam (∀r,letTemporaryGo a (.ref l) r=Pure.pure ()) aJ):Ev C σ ld (.Subscript a b pos) sv:=.mk fun s Q E H k=>by
 walk1
 refine ha.run s _ _ H fun v s' g hv=>?_
 obtain rfl:=hv
 refine hb.run _ _ _ (H.go g) fun v s'' g' hv=>?_
 obtain⟨u,rfl⟩:=hv
 refine x1a2 (hl.isList ((H.go g).go g')) fun vs hI hA=>?_
 refine x1a2 (hA.at _ _ hx) fun v hv q=>?_
 exact item_listL hI h0 h1 hv (k _ _ (g.trans g') q) (hs u) hg
theorem Ev.a8 {t:Addr}(ha:Ev C σ ld a (SR t))(hl:Has C σ ld t (.tup xs))(hb:Ev C σ ld b (.int i))(h0:0<=i)(hx:xs[i.toNat]?=some sv)(h1:i<2^63)
  (hs:autoParam (∀u,subscripted b false (.ref t) (.int i u)=operate [.ref t,.int i u] (getItem (.ref t) (.int i u))) aJ)(hg:autoParam (∀r,letTemporaryGo a (.ref t) r=Pure.pure ()) aJ):Ev C σ ld (.Subscript a b pos) sv:=.mk fun s Q E H k=>by
 walk1
 refine ha.run s _ _ H fun v s' g hv=>?_
 obtain rfl:=hv
 refine hb.run _ _ _ (H.go g) fun v s'' g' hv=>?_
 obtain⟨u,rfl⟩:=hv
 obtain⟨o,ho,vs,rfl,hA⟩:=hl _ ((H.go g).go g')
 obtain⟨v,hv,q⟩:=hA.at _ _ hx
 have hlt:i.toNat<vs.length:=(a1A.mp hv).1
 exact item_tupleL (j:=i.toNat) ⟨_,ho,rfl,_,rfl⟩ (om120 h0) h1 (seqIndex_of h0 (Int.lt_of_toNat_lt hlt)) hv (k _ _ (g.trans g') q) (hs u) hg
theorem len_list {vs:List Value}{s:Shared}{Q:Value ->Shared ->Prop}{E:Value ->Shared ->Prop}(hl:Has C σ ld l (.list xs))(hz:xs.length<=1000000)(h:Are [SR l] vs)(H:Hold C σ ld s)(k:∀v s',Grow s s' ->(SV.int (xs.length:Int)).is v ->Q v s'):wpAny (model PR C.w) C.A (call (.builtin "len") vs) Q E s:=by
 refine x1a2 h.one fun _ za e=>?_;obtain rfl:=za
 obtain rfl:=e
 refine x1a2 (hl.isList H) fun vs hI hA=>?_
 exact len_my hI (by rw[<-hA.len];exact hz) fun t k'=>k _ _ .tk ⟨t,by rw[hA.len]⟩
theorem Ev.lenL (G:Gd C)(h:Ev C σ ld e (SR l))(hl:Has C σ ld l (.list xs))(hz:xs.length<=1000000)(e1:autoParam (nsIn (hd.heap_1 C.w.params) mainGlobals (Str.ofString "len")=some none) aK)(hx:autoParam (C.env.kindOf (Str.ofString "len")=some .globalImplicit) aR)
  (he:autoParam (eval (.Call (.Name (Str.ofString "len") np) [e] [] pos) C.env=(do callWith pos (<-eval (.Name (Str.ofString "len") np) C.env) [] (backTo pos (starEach [e] C.env)) (backToKw pos (keywordEach [] C.env)))) aR)
  (hs:autoParam (starEach [e] C.env=(false,eval e C.env)::starEach [] C.env) aR):Ev C σ ld (.Call (.Name (Str.ofString "len") np) [e] [] pos) (.int (xs.length:Int)):=
 Ev.a2 G (.cons h .nil hs) (fun vs s Q E a H k=>len_list hl hz a H k) e1 (by boot_by_name) (hx:=hx) (he:=he) (hs:=hs)
theorem Ew.a2 {lo:Expr}{sp:Pos}(ha:Ev C σ ld a (SR l))(hl:Has C σ ld l (.list xs))(hlo:Ev C σ ld lo (.int i))(h0:0<=i)(hz:xs.length<=10000)(p:∀D,P (SR D) ((D,.list (xs.drop i.toNat))::ld))
  (hs:autoParam (∀D,subscripted (.Slice (some lo) none none sp) false (.ref l) (.ref D)=operate [.ref D,.ref l] (getItem (.ref l) (.ref D))) aJ)
  (ht:autoParam (∀r,letTemporaryGo a (.ref l) r=Pure.pure ()) aJ):Ew C σ ld (.Subscript a (.Slice (some lo) none none sp) pos) P:=.mk fun s Q E H k=>by
 walk1
 refine ha.run s _ _ H fun v s' g hv=>?_
 obtain rfl:=hv
 walk1
 refine hlo.run _ _ _ (H.go g) fun v s'' g' hv=>?_
 obtain⟨u,rfl⟩:=hv
 walk1
 walk1
 have H':=(H.go g).go g'
 refine x1a2 (hl.isList H') fun vs hI hA=>?_
 refine x1a2 H'.fr fun m F r=>?_
 exact m6a F H'.news hI (IsPart.int _ _) IsPart.none h0 (by have:=hA.len;exact om8 this hz) (fun D h' F2 N2 hn=>k _ (SR D) _ {s'' with heap:=h',toks:=s''.toks} rfl (p D) (H'.made r F2 N2 (fun p hp=>a0S (hn p hp)) ⟨_,_,rfl,hA.drop _⟩)) (hs _) ht
theorem Ew.a3 {hi:Expr}{sp:Pos}(ha:Ev C σ ld a (SR l))(hl:Has C σ ld l (.list xs))(hlo:Ev C σ ld hi (.int i))(h0:0<=i)(hz:xs.length<=10000)(p:∀D,P (SR D) ((D,.list (xs.take i.toNat))::ld))
  (hs:autoParam (∀D,subscripted (.Slice none (some hi) none sp) false (.ref l) (.ref D)=operate [.ref D,.ref l] (getItem (.ref l) (.ref D))) aJ)
  (ht:autoParam (∀r,letTemporaryGo a (.ref l) r=Pure.pure ()) aJ):Ew C σ ld (.Subscript a (.Slice none (some hi) none sp) pos) P:=.mk fun s Q E H k=>by
 walk1
 refine ha.run s _ _ H fun v s' g hv=>?_
 obtain rfl:=hv
 walk1
 walk1
 refine hlo.run _ _ _ (H.go g) fun v s'' g' hv=>?_
 obtain⟨u,rfl⟩:=hv
 walk1
 have H':=(H.go g).go g'
 refine x1a2 (hl.isList H') fun vs hI hA=>?_
 refine x1a2 H'.fr fun m F r=>?_
 exact m5y F H'.news hI IsPart.none (IsPart.int _ _) h0 (by have:=hA.len;exact om8 this hz) (fun D h' F2 N2 hn=>k _ (SR D) _ {s'' with heap:=h',toks:=s''.toks} rfl (p D) (H'.made r F2 N2 (fun p hp=>a0S (hn p hp)) ⟨_,_,rfl,hA.take _⟩)) (hs _) ht
theorem Ew.a4 (h:Ew C σ ld a fun sv ld'=>∃l,sv=SR l∧Has C σ ld' l (.list xs)∧Ew C σ ld' b fun sv' ld''=>∃l',sv'=SR l'∧Has C σ ld'' l (.list xs)∧∃ys,Has C σ ld'' l' (.list ys)∧xs.length+ys.length<=10000∧∀D,P (SR D) ((D,.list (xs++ys))::ld'')):Ew C σ ld (.BinOp a .Add b pos) P:=.mk fun s Q E H k=>by
 walk1
 refine h.run s _ _ H fun v sv ld' s' hv hp H'=>?_
 refine x1a3 hp fun l za hl hb=>?_;clear hp;obtain rfl:=za
 obtain rfl:=hv
 refine hb.run s' _ _ H' fun v' sv' ld'' s'' hv' hp' H''=>?_
 refine x1a3 hp' fun l' za hl zx=>x1a3 zx fun ys hl' hz p=>?_;clear hp' zx;obtain rfl:=za
 obtain rfl:=hv'
 refine x1a2 (hl.isList H'') fun vs hI hA=>?_
 refine x1a2 (hl'.isList H'') fun ws hI' hA'=>?_
 refine x1a2 H''.fr fun m F r=>?_
 exact add_my F H''.news hI hI' (by have:=hA.len;have:=hA'.len;exact om355 hz (by assumption) this) fun D h' F2 N2 hn=>k _ (SR D) _ {s'' with heap:=h',toks:=s''.toks} rfl (p D) (H''.made r F2 N2 (fun p hp=>a0S (hn p hp)) ⟨_,_,rfl,hA.app hA'⟩)
end
noncomputable def SrcAt2 (C:Cx)(B6:Shared)(xs:List (SV×SV))(it:Value)(B0:Shared):Prop:=
 ∃I fp wr Pt St Mid,it=.ref I∧WalksU PR C.w C.A I fp wr xs.length Pt St Mid∧(∀i h,St i h ->∀b∈wr,∃o,h.get? b=some o)∧St 0 B0.heap∧(∀b∈fp,b<B0.heap.objs.size)∧(∀b∈wr,B6.heap.get? b=none)∧
  (∀i vals,Pt i vals ->∃a b va vb,xs[i]?=some (a,b)∧vals= #[va,vb]∧a.is va∧b.is vb)∧Grow B6 B0
structure Src2 (C:Cx)(σ:Loc)(ld:Led)(iter:Expr)(xs:List (SV×SV))(R:Led ->Prop):Prop where
 run:∀(s:Shared) (Q:Value ->Shared ->Prop) (E:Value ->Shared ->Prop),Hold C σ ld s ->(∀it B1 B0 ld',R ld' ->Hold C σ ld' B1 ->SrcAt2 C B1 xs it B0 ->Q it B0) ->wpAny (model PR C.w) C.A (eval iter C.env) (fun xv B1=>wpAny (model PR C.w) C.A (pyIter xv) Q E B1) E s
section
variable {C:Cx}{σ σc:Loc}{ld:Led}{s s':Shared}{x E3:Str}{elt iter:Expr}{px px2 tp pos:Pos}{scope:Scope}{P:SV ->Led ->Prop}{tk:Nat}
theorem Ew.comp2 {cl:List (Str×Addr)}{xs:List (SV×SV)}{f:SV×SV ->SV}{R:Led ->Prop}(hsrc:Src2 C σ ld iter xs R)(cap:CapOk C scope cl σ σc)(hxx:x≠E3)
  (kx:∀B,(compEnvC scope cl B C.env).kindOf x=some .local)(kx2:∀B,(compEnvC scope cl B C.env).kindOf E3=some .local)(size:xs.length<=10000)
  (he:∀ld',R ld' ->∀p∈xs,∀B s,Ev (blk C scope cl B s) ((E3,p.2)::(x,p.1)::σc) ld' elt (f p))(hh:C.A.handled=none)(hP:∀ld',R ld' ->∀D,P (SR D) ((D,.list (xs.map f))::ld'))
  (hcell:autoParam (∀z∈scope.names,z.2≠ .cell) aD)(hkind:autoParam (scope.kind=.function) aR)
  (hnames:autoParam (∀z∈scope.names,z.2=.local ->scope.names.lookup z.1=some .local) aD)
  (hs:autoParam (∀x,foldedSetIterable iter C.env x=Pure.pure x) aI):Ew C σ ld (.ListComp elt [⟨.Tuple [.Name x px,.Name E3 px2] tk tp,iter,[],0⟩] scope pos) P:=.mk fun B6 Q E H5 k=>by
 rw[eval_ListComp]
 refine wpAny_comprehension_free (use:=none) rfl hs cap.clos hkind hnames (hsrc.run B6 _ E H5 fun it s B0 ld' hR H hS=>?_)
 refine x6a8 hS fun I fp wr Pt St Mid za W hl hst hfp hw hPt g=>?_;clear hS;obtain rfl:=za
 refine a2U (a6I hcell (by intro y hy;simp at hy) (fun B2 hns1 hsb1=>?_) hkind)
 dsimp only at hns1 hsb1⊢
 generalize hH2:B0.heap.push {cls:=.type "list",dict:=none,data:=.seq ([]:List Value).toArray}=H2 at hns1 hsb1⊢;revert H2;refine id ?_;intros
 have hC:H2.objs.size=B0.heap.objs.size+1:=by rw[<-hH2,a1Q]
 generalize hB:H2.objs.size=B at hns1 hsb1⊢
 generalize hD:B0.heap.objs.size=D at*;revert B D;refine id ?_;intros
 have hDB:D≠B:=by rw[<-hB,hC];exact a0S (a2B _)
 have lt2:∀b o,B0.heap.get? b=some o ->b<D:=fun b o e=>hD▸a0M e
 have ltB:∀b o,B0.heap.get? b=some o ->b<B:=fun b o e=>Nat.lt_trans (lt2 b o e) (by rw[<-hB,hC];exact a2B _)
 have hDf:D∉fp:=fun hm=>a1R _ (hfp _ hm)
 have hBf:B∉fp:=fun hm=>by have:=hfp _ hm;rw[<-hB,hC]at this;exact a1R _ (Nat.lt_of_succ_lt this)
 have old:∀b o,B0.heap.get? b=some o ->B2.get? b=some o:=fun b o e=>hsb1.extBut b o (a0S (ltB b o e)) (a0C _ (hH2▸a0C _ e))
 have hacc:B2.get? D=some (listOf #[] 0):=hsb1.extBut _ _ hDB (a0C _ (hH2▸hD▸a0I _ rfl))
 have hst1:St 0 B2:=W.frame _ _ _ hst fun b _ o e=>old b o e
 have kB:(compEnvC scope cl B C.env).scope.kind=.function:=by simp[compEnvC,relabel,hkind]
 have loop:∀B5:Shared,B5={B0 with heap:=B2,toks:=B0.toks+([]:List (Str×Value)).length} ->
   codeAny (model PR C.w) C.A (.compLoop (.ListComp elt [⟨.Tuple [.Name x px,.Name E3 px2] tk tp,iter,[],0⟩] scope pos) 0 (.ref I) (.ref D) (compEnvC scope cl B C.env))
    (compPost (model PR C.w) C.A E none Q (.ref D) B) B5:=by
  rintro B5 rfl
  refine LCp.codeAny_compLoop_pair (fun n s'=>∃i h tk m ys e,i<=xs.length∧s'={B0 with heap:=h,toks:=tk}∧(∀b o,b∉wr ->B0.heap.get? b=some o ->h.get? b=some o)∧h.Ns B m∧h.get? D=some (listOf (List.toArray ys) e)∧Are ((xs.take i).map f) ys∧St i h∧n=xs.length+1-i) ?_ (xs.length+1)
   ⟨0,B2,_,_,[],0,a0R _,rfl,fun b o _ e=>old b o e,hns1,hacc,.nil,hst1,rfl⟩
  rintro n s' zu;refine x6a8 zu fun i h tk' m ys e hi za hk hn hd hA hsti zb=>?_;clear zu;refine eq2 za zb ?_;clear za zb
  have keepS:∀ {h':Heap},(∀b o,b∉wr ->B0.heap.get? b=some o ->h'.get? b=some o) ->∀b o,s.heap.get? b=some o ->h'.get? b=some o:=fun hk b o e=>hk b o (fun q=>by rw[hw b q]at e;cases e) (g.keep b o e)
  have hDw:D∉wr:=fun q=>hDf (W.sub _ q)
  have hBw:B∉wr:=fun q=>hBf (W.sub _ q)
  by_cases hlt:i<xs.length
  ·refine W.item i _ _ _ hlt hsti fun T vals h2 tk2 hPv hT hM hk2=>?_
   have hTw:=W.apart _ _ _ hM
   refine W.go _ _ _ i T _ _ _ hM fun h3 hst3 hk3=>?_
   refine x4a4 (hPt i vals hPv) fun a b va vb hx za hva hvb=>?_;obtain rfl:=za
   have hk13:∀c o,c∉wr ->h.get? c=some o ->h3.get? c=some o:=fun c o hc e=>hk3 c o hc (hk2 c o hc e)
   have hn3:h3.Ns B m:=hn.at' fun o e=>hk13 _ o hBw e
   have hT3:h3.IsTuple T #[va,vb]:=hT.at fun o e=>hk3 _ o hTw e
   refine kcp_assign (env:=compEnvC scope cl B C.env) hh hT3 (kx B) (kx2 B) (by rw[kB];rfl) hn3 fun h4 tk4 hn4 hk4=>?_
   have hd4:h4.get? D=some (listOf (List.toArray ys) e):=hk4 _ _ hDB (hk13 _ _ hDw hd)
   have hs4:∀c o,c∉wr ->B0.heap.get? c=some o ->h4.get? c=some o:=fun c o hc e=>hk4 c o (a0S (ltB c o e)) (hk13 c o hc (hk c o hc e))
   have H4:=H.blkN (s':={B0 with heap:=h4,toks:=tk4}) (σl:=[(E3,b),(x,a)]) cap (keepS hs4) hn4 (fun c o e=>ltB c o (g.keep c o e)) fun p hp=>by
    rcases a0G.mp hp with rfl|hp
    ·exact⟨kx2 B,vb,if_pos rfl,hvb⟩
    ·rw[a0B.mp hp]
     exact⟨kx B,va,(if_neg hxx).trans (if_pos rfl),hva⟩
   refine(he ld' hR (a,b) (a1D hx) B _).run _ _ _ H4 fun y s5 g5 hy=>?_
   obtain⟨k5,h5,t5,rfl⟩:=g5
   refine append_at (k5 _ _ hd4) (fun h6 hs6 hd6=>?_) (by rw[a1S,a1M,<-hA.len,a0J,a2F];exact om240 size)
   refine⟨xs.length+1-(i+1),by exact om3 hlt,i+1,h6,t5,_,ys++[y],e+1,hlt,rfl,fun c o hc e=>hs6.extBut c o (a0S (lt2 c o e)) (k5 c o (hs4 c o hc e)),(hn4.keeps k5).sameBut hs6 (Ne.symm hDB),?_,?_,?_,rfl⟩
   ·rw[hd6];simp
   ·rw[a2A,hx,a0U]
    exact hA.app (.cons hy .nil)
   ·refine W.frame _ _ _ hst3 fun c hc o e=>hs6.extBut c o (fun q=>hDf (q▸hc)) (k5 c o (hk4 c o (fun q=>hBf ((show c=B from q)▸hc)) e))
  ·obtain rfl:i=xs.length:=om22 hi hlt
   refine W.done _ _ _ hsti fun h2 tk2 hk2=>?_
   have hd2:=hk2 _ _ hDw hd
   refine⟨m,hn.at' fun o e=>hk2 _ o hBw e,fun h3 hs3=>?_⟩
   rw[a3S]at hA
   have kk:∀c o,s.heap.get? c=some o ->h3.get? c=some o:=fun c o e=>hs3.extBut c o (a0S (ltB c o (g.keep c o e))) (keepS (fun c o hc e=>hk2 c o hc (hk c o hc e)) c o e)
   obtain⟨_,h0,t0,rfl⟩:=id g
   refine k _ (SR D) _ {s with heap:=h3,toks:=tk2} rfl (hP ld' hR D) (H.new (k0e g.keep ?_) kk (hs3.extBut _ _ hDB hd2) ⟨ys,e,rfl,hA⟩ (C.ok _ _ _ H.rest))
   rw[<-hD];exact k0h _
 exact codeAny_compStart_list (loop _ rfl) (W.self 0 _ _ _ hst1 (loop _ rfl))
theorem p0w {as:List SV}{bs:List SV}{vs ws:List Value}(hA:Are as vs)(hB:Are bs ws)(i:Nat)(vals:Array Value)(h:∃x y,vs.toArray[i]?=some x∧ws.toArray[i]?=some y∧vals= #[x,y]):
  ∃a b va vb,(as.zip bs)[i]?=some (a,b)∧vals= #[va,vb]∧a.is va∧b.is vb:=by
 refine x2a3 h fun x y hx hy za=>?_;clear h;obtain rfl:=za
 refine x1a2 (hA.get i x (by simpa using hx)) fun a ha h1=>?_
 refine x1a2 (hB.get i y (by simpa using hy)) fun b hb h2=>?_
 exact⟨a,b,x,y,by rw[a6N];exact⟨ha,hb⟩,rfl,h1,h2⟩
theorem Src2.zip {a b:Expr}{np:Pos}{as bs:List SV}{R:Led ->Prop}(G:Gd C)(hargs:EwL C σ ld [a,b] fun svs ld'=>∃l1 l2,svs=[SR l1,SR l2]∧Has C σ ld' l1 (.list as)∧Has C σ ld' l2 (.list bs)∧R ld')
  (e1:autoParam (nsIn (hd.heap_1 C.w.params) mainGlobals (Str.ofString "zip")=some none) aK)(hx:autoParam (C.env.kindOf (Str.ofString "zip")=some .globalImplicit) aR)
  (he:autoParam (eval (.Call (.Name (Str.ofString "zip") np) [a,b] [] pos) C.env=(do callWith pos (<-eval (.Name (Str.ofString "zip") np) C.env) [] (backTo pos (starEach [a,b] C.env)) (backToKw pos (keywordEach [] C.env)))) aR)
  (hs:autoParam (starEach [a,b] C.env=(false,eval a C.env)::starEach [b] C.env) aR)(hplain:autoParam ((backTo pos (starEach [b] C.env)).any (·.1)=false) aR):Src2 C σ ld (.Call (.Name (Str.ofString "zip") np) [a,b] [] pos) (as.zip bs) R:=.mk fun s Q E H k=>by
 refine Call_ (k0i G H e1 (by boot_by_name) (by decide+kernel) hx (by decide+kernel) ?_) he
 rw[hs]
 refine a1J (by show(false|| (backTo pos (starEach [b] C.env)).any (·.1))=false;rw[hplain];rfl) ?_
 have hq:=hargs.run pos s (fun vs B1=>wpAny (model PR C.w) C.A (call (.type "zip") vs) (fun xv B1=>wpAny (model PR C.w) C.A (pyIter xv) Q E B1) E B1) E H fun vs svs ld' s' hvs hp H'=>by
  refine x2a4 hp fun l1 l2 za h1 h2 hR=>?_;clear hp;obtain rfl:=za
  refine x2a3 hvs.two fun _ _ za e1 e2=>?_;obtain rfl:=za
  obtain rfl:=e1
  obtain rfl:=e2
  refine x1a2 (h1.isList H') fun vs hI1 hA=>?_
  refine x1a2 (h2.isList H') fun ws hI2 hB=>?_
  refine call_zip_2 hI1 hI2 fun h' z1 z2 z3 z4 z5 z6 z7=>?_
  refine wpAny_pyIter_zip (s:={s' with heap:=h'}) z1 ?_
  have hl1: @LT.lt Nat instLTNat l1 s'.heap.objs.size:=by refine x1a2 hI1 fun _ ho _=>?_;exact a0M ho
  have hl2: @LT.lt Nat instLTNat l2 s'.heap.objs.size:=by refine x1a2 hI2 fun _ ho _=>?_;exact a0M ho
  have ap:ZipApart (s'.heap.objs.size+4) (s'.heap.objs.size+2) (s'.heap.objs.size+3) s'.heap.objs.size (s'.heap.objs.size+1) l1 l2:=by
   constructor<;>(show @Ne Nat _ _;first|exact a0S (by assumption)|exact ne_lt (by assumption)|exact ne_ab (by decide)|exact a0S (a4G (kb rfl))|exact a3E (a4G (kb rfl)))
  have hsz:min vs.toArray.size ws.toArray.size=(as.zip bs).length:=by rw[a1M,a1M,<-hA.len,<-hB.len,List.length_zip]
  have WW:=(WalksT.zip2 (prog:=PR) (w:=C.w) G.h _ _ _ _ _ _ _ ap vs.toArray ws.toArray).toU
  rw[hsz]at WW
  refine k _ _ _ _ hR H' ⟨_,_,_,_,_,_,rfl,WW,?_,⟨z1,z2,⟨_,_,z3⟩,z4,z5,hI1.at fun o e=>z7 _ _ e,hI2.at fun o e=>z7 _ _ e⟩,?_,?_,fun i vals h=>p0w hA hB i vals h,.of z7⟩
  ·rintro i h zu c hc;refine an6 zu fun y1 y2 za zb zc _=>?_;clear zu;obtain⟨a,b,y3⟩:=za;obtain⟨o4,y4,_⟩:=zb;obtain⟨o5,y5,_⟩:=zc
   simp at hc
   rcases hc with rfl|rfl|rfl|rfl
   ·exact⟨_,y1⟩
   ·exact⟨_,y3⟩
   ·exact⟨_,y4⟩
   ·exact⟨_,y5⟩
  ·intro c hc
   show c<h'.objs.size
   rw[z6]
   simp at hc
   rcases hc with rfl|rfl|rfl|rfl|rfl|rfl|rfl<;>(show(_:Nat)<_;first|exact a1C (by assumption) (a4J _ _)|exact Nat.add_lt_add_left (kb rfl) _|exact a4G (kb rfl))
  ·intro c hc
   simp at hc
   cases q:s'.heap.get? c with
   |none=>rfl
   |some o=>
    have:=a0M q
    rcases hc with rfl|rfl|rfl|rfl<;>(exfalso;revert this;show¬(_:Nat)<_;(first|exact om524|exact om525|exact om575|exact om18))
 rw[hs]at hq
 exact a5N hq
end
noncomputable def intsFrom (i:Int)(n:Nat):List SV:=(List.range n).map fun(k:Nat)=>SV.int (i+(k:Int))
theorem k1h {i:Int}{n k:Nat}(h:k<n):(intsFrom i n)[k]?=some (.int (i+(k:Int))):=by simp[intsFrom,h]
theorem k1g {i:Int}{n:Nat}:(intsFrom i n).length=n:=by simp[intsFrom]
theorem k6v {prog:Program}{w:World}{A:Around}{I:Addr}{fp wr:List Addr}{n:Nat}{P:Nat ->Value ->Prop}{St:Nat ->Heap ->Prop}(W:Walks prog w A I fp wr n P St):Walks prog w A I fp wr n (fun i v=>i<n∧P i v) St where
 sub:=W.sub
 frame:=W.frame
 item:=fun i s Q E hi st hQ=>W.item i s Q E hi st fun v h' tk hP st' hk=>hQ v h' tk ⟨hi,hP⟩ st' hk
 done:=W.done
 self:=W.self
section
variable {C:Cx}{σ σc:Loc}{ld:Led}{s:Shared}{x:Str}{a b e iter:Expr}{np pos:Pos}{i j:Int}{xs:List SV}{l:Addr}
theorem SrcAt.range {r:Addr}{t u v:Tok}{n:Nat}(hh:C.A.handled=none){B6:Shared}{Q:Value ->Shared ->Prop}{E:Value ->Shared ->Prop}(g:Grow B6 s)(hr:IsRange s.heap r i j 1 t u v)(hn:(j-i).toNat=n)(h1: -(2^62)<=i)(h2:i<2^62)(h3: -(2^62)<=j)(h4:j<2^62)
  (k:∀it B0,SrcAt C B6 (intsFrom i n) it B0 ->Q it B0):wpAny (model PR C.w) C.A (pyIter (.ref r)) Q E s:=by
 have hsz:Builtin.Range.rangeSize i j 1=(n:Int):=by rw[rangeSize_one];split<;>(first|exact om257 hn (by assumption)|exact om299 hn (by assumption))
 refine wpAny_pyIter_range hr (small_one h1 h2 h3 h4) (k _ _ ⟨_,_,_,_,_,rfl,(by rw[k1g];exact k6v (Walks.range hh s.heap.objs.size i 1 n)),fun i h st c hc=>?_,?_,fun c hc=>?_,fun c hc=>?_,fun m w hw=>?_,g.trans (.of fun b o e=>a0C _ e)⟩)
 ·rw[a0B.mp hc];exact⟨_,st⟩
 ·show IsRangeIter _ _ _ _ _
  rw[hsz];simpa using a0I _ rfl
 ·rw[a0B.mp hc]
  show _<(s.heap.push _).objs.size
  rw[a1Q];exact a2B _
 ·rw[a0B.mp hc];exact k0e g.keep (k0h _)
 ·refine an2 hw fun hm zz=>ex1 zz fun t za=>?_;clear hw zz;obtain rfl:=za
  exact⟨_,k1h hm,t,by rw[Int.mul_one]⟩
theorem SrcAt.list {B6:Shared}{Q:Value ->Shared ->Prop}{E:Value ->Shared ->Prop}(hh:C.A.handled=none)(g:Grow B6 s){vs:List Value}(hI:s.heap.IsList l vs.toArray)(hA:Are xs vs)
  (k:∀it B0,SrcAt C B6 xs it B0 ->Q it B0):wpAny (model PR C.w) C.A (pyIter (.ref l)) Q E s:=by
 have hlt:l≠s.heap.objs.size:=let⟨_,ho,_⟩:=hI;a0S (a0M ho)
 have hlt2:l<s.heap.objs.size:=let⟨_,ho,_⟩:=hI;a0M ho
 have WW:=Walks.list (prog:=PR) (w:=C.w) hh s.heap.objs.size l hlt vs.toArray
 rw[show vs.toArray.size=xs.length from by simp[hA.len]]at WW
 refine a3J hI (k _ _ ⟨_,_,_,_,_,rfl,WW,fun i h st c hc=>?_,⟨⟨_,a0I _ rfl,rfl,rfl⟩,hI.at fun o e=>a0C _ e⟩,fun c hc=>?_,fun c hc=>?_,fun m w hw=>hA.get m w (by simpa using hw),g.trans (.of fun b o e=>a0C _ e)⟩)
 ·rw[a0B.mp hc];obtain⟨⟨o,ho,_⟩,_⟩:=st;exact⟨o,ho⟩
 ·show _<(s.heap.push _).objs.size
  rw[a1Q]
  rcases a0G.mp hc with rfl|hc
  ·exact a2B _
  ·rw[a0B.mp hc];exact a3V hlt2
 ·rw[a0B.mp hc];exact k0e g.keep (k0h _)
theorem SrcAt.tup {B6:Shared}{Q:Value ->Shared ->Prop}{E:Value ->Shared ->Prop}(hh:C.A.handled=none)(g:Grow B6 s){vs:List Value}(hI:s.heap.IsTuple l vs.toArray)(hA:Are xs vs)
  (k:∀it B0,SrcAt C B6 xs it B0 ->Q it B0):wpAny (model PR C.w) C.A (pyIter (.ref l)) Q E s:=by
 have hlt:l≠s.heap.objs.size:=let⟨_,ho,_⟩:=hI;a0S (a0M ho)
 have hlt2:l<s.heap.objs.size:=let⟨_,ho,_⟩:=hI;a0M ho
 have WW:=Walks.tuple (prog:=PR) (w:=C.w) hh s.heap.objs.size l hlt vs.toArray
 rw[show vs.toArray.size=xs.length from by simp[hA.len]]at WW
 refine wpAny_pyIter_tuple hI (k _ _ ⟨_,_,_,_,_,rfl,WW,fun i h st c hc=>?_,⟨⟨_,a0I _ rfl,rfl,rfl⟩,hI.at fun o e=>a0C _ e⟩,fun c hc=>?_,fun c hc=>?_,fun m w hw=>hA.get m w (by simpa using hw),g.trans (.of fun b o e=>a0C _ e)⟩)
 ·rw[a0B.mp hc];obtain⟨⟨o,ho,_⟩,_⟩:=st;exact⟨o,ho⟩
 ·show _<(s.heap.push _).objs.size
  rw[a1Q]
  rcases a0G.mp hc with rfl|hc
  ·exact a2B _
  ·rw[a0B.mp hc];exact a3V hlt2
 ·rw[a0B.mp hc];exact k0e g.keep (k0h _)
theorem Src.list (hh:C.A.handled=none)(h:Ev C σ ld iter (SR l))(hl:Has C σ ld l (.list xs)):Src C σ ld iter xs:=.mk fun s Q E H k=>by
 refine h.run s _ E H fun v s' g hv=>?_
 obtain rfl:=hv
 refine x1a2 (hl.isList (H.go g)) fun vs hI hA=>?_
 exact SrcAt.list hh g hI hA k
theorem Src.tup (hh:C.A.handled=none)(h:Ev C σ ld iter (SR l))(hl:Has C σ ld l (.tup xs)):Src C σ ld iter xs:=.mk fun s Q E H k=>by
 refine h.run s _ E H fun v s' g hv=>?_
 obtain rfl:=hv
 refine x1a2 (hl _ (H.go g)) fun o ho zx=>x1a2 zx fun vs za hA=>?_;clear zx;obtain rfl:=za
 exact SrcAt.tup hh g ⟨_,ho,rfl,_,rfl⟩ hA k
theorem Src.range2 (G:Gd C)(h:EvL C σ ld [a,b] [.int i,.int j])(h1: -(2^62)<=i)(h2:i<2^62)(h3: -(2^62)<=j)(h4:j<2^62)
  (e1:autoParam (nsIn (hd.heap_1 C.w.params) mainGlobals (Str.ofString "range")=some none) aK)(hx:autoParam (C.env.kindOf (Str.ofString "range")=some .globalImplicit) aR)
  (he:autoParam (eval (.Call (.Name (Str.ofString "range") np) [a,b] [] pos) C.env=(do callWith pos (<-eval (.Name (Str.ofString "range") np) C.env) [] (backTo pos (starEach [a,b] C.env)) (backToKw pos (keywordEach [] C.env)))) aR)
  (hs:autoParam (starEach [a,b] C.env=(false,eval a C.env)::starEach [b] C.env) aR)(hplain:autoParam ((backTo pos (starEach [b] C.env)).any (·.1)=false) aR):Src C σ ld (.Call (.Name (Str.ofString "range") np) [a,b] [] pos) (intsFrom i (j-i).toNat):=.mk fun s Q E H k=>by
 refine Call_ (k0i G H e1 (by boot_by_name) (by decide+kernel) hx (by decide+kernel) ?_) he
 rw[hs]
 refine a1J (by show(false|| (backTo pos (starEach [b] C.env)).any (·.1))=false;rw[hplain];rfl) ?_
 have hq:=h.run pos s (fun vs B1=>wpAny (model PR C.w) C.A (call (.type "range") vs) (fun xv B1=>wpAny (model PR C.w) C.A (pyIter xv) Q E B1) E B1) E H fun vs s' g hvs=>by
  refine x2a3 hvs.two fun _ _ za zb zx=>ex1 zx fun u zc=>?_;clear zx;obtain rfl:=za;obtain⟨t,rfl⟩:=zb;obtain rfl:=zc
  refine call_range_2 (SrcAt.range G.h (g.trans (.of fun b o e=>a0C _ e)) (IsRange.new _ _ _ _ _ _ _) rfl h1 h2 h3 h4 k)
 rw[hs]at hq
 exact a5N hq
theorem Src.range1 (G:Gd C)(h:EvL C σ ld [a] [.int j])(h3: -(2^62)<=j)(h4:j<2^62)
  (e1:autoParam (nsIn (hd.heap_1 C.w.params) mainGlobals (Str.ofString "range")=some none) aK)(hx:autoParam (C.env.kindOf (Str.ofString "range")=some .globalImplicit) aR)
  (he:autoParam (eval (.Call (.Name (Str.ofString "range") np) [a] [] pos) C.env=(do callWith pos (<-eval (.Name (Str.ofString "range") np) C.env) [] (backTo pos (starEach [a] C.env)) (backToKw pos (keywordEach [] C.env)))) aR)
  (hs:autoParam (starEach [a] C.env=(false,eval a C.env)::starEach [] C.env) aR):Src C σ ld (.Call (.Name (Str.ofString "range") np) [a] [] pos) (intsFrom 0 (j-0).toNat):=.mk fun s Q E H k=>by
 refine Call_ (k0i G H e1 (by boot_by_name) (by decide+kernel) hx (by decide+kernel) ?_) he
 rw[hs]
 refine a1J rfl ?_
 have hq:=h.run pos s (fun vs B1=>wpAny (model PR C.w) C.A (call (.type "range") vs) (fun xv B1=>wpAny (model PR C.w) C.A (pyIter xv) Q E B1) E B1) E H fun vs s' g hvs=>by
  refine x1a2 hvs.one fun _ za zx=>ex1 zx fun t zb=>?_;clear zx;obtain rfl:=za;obtain rfl:=zb
  refine call_range_1 (SrcAt.range G.h (g.trans (.of fun b o e=>a0C _ e)) (IsRange.new _ _ _ _ _ _ _) rfl (by decide) (by decide) h3 h4 k)
 rw[hs]at hq
 exact a5N hq
end
theorem k1i:∀(names:List (Str×NameKind)) (n:Nat) (acc:List (Str×Addr)),(acc.map (·.2)).Nodup ->(∀p∈acc,p.2<n) ->((cellsFrom n names acc).map (·.2)).Nodup
 | [],n,acc,h,_=>h
 | (x,k)::r,n,acc,h,hl=>by
  simp only[cellsFrom]
  split
  ·refine k1i r _ _ ?_ ?_
   ·simp only[a0P,a1L]
    refine⟨fun q=>?_,h⟩
    refine x1a2 (a0K.mp q) fun p hp e=>?_
    exact absurd (hl p hp) (by rw[e];exact a1R _)
   ·intro p hp
    rcases a0G.mp hp with rfl|hp
    ·exact a2B _
    ·exact a3V (hl p hp)
  ·exact k1i r _ _ h hl
theorem k6c {cm:Str ->Option Value}{cs:List (Str×Addr)}{cells:List (Addr×Obj)}(h:CellsAre cm cs cells):∀p∈cs,∃o,(p.2,o)∈cells∧o.data=.cell (cm p.1):=by
 induction h with
 |nil=>exact fun _ h=>nomatch h
 | @cons n c o cs cells hd _ ih=>
  intro p hp
  rcases a0G.mp hp with rfl|hp
  ·exact⟨o,.head _,hd⟩
  ·refine x1a2 (ih p hp) fun o' a b=>?_
   exact⟨o',.tail _ a,b⟩
theorem k8c {w:World}{n:Nat}{f:Addr}{svs:List SV}{pre:Heap ->Prop}{post:SV ->Led ->Prop}{name qual:Str}{params:Arguments}{body:List Stmt}{scope:Scope}
  {dV kV doc pm cdv ct oc:Value}{an od:Option Addr}{osl:Array (Option Value)}{σ:Loc}{binds:List Value ->List (Str×Value)}
  (ho:(hd.heap_1 w.params).lookup f=some ⟨oc,od,.func (fnOf name qual params body scope dV kV doc pm an cdv ct),osl⟩)(hcd:codeIn (hd.heap_1 w.params) cdv qual=true)
  (hbind:∀vs s,Are svs vs ->BindsTo s (fnOf name qual params body scope dV kV doc pm an cdv ct) ⟨vs,[]⟩ (binds vs))
  (hkind:∀vs,Are svs vs ->((binds vs).all fun y=>scope.names.lookup y.1==some .local||scope.names.lookup y.1==some .cell)=true)
  (hnd:((cellsFrom 0 scope.names []).map (·.1)).Nodup)
  (hσ:∀vs L,Are svs vs ->∀p∈σ,∃v,p.2.is v∧((((envOfC qual scope L f cdv).kindOf p.1=some .local∧bindL (envOfC qual scope L f cdv).kindOf (binds vs) (fun _=>none) p.1=some v))∨
   ((envOfC qual scope L f cdv).kindOf p.1=some .cell∧(∃c,(cellsFrom (L+1) scope.names []).lookup p.1=some c)∧bindC (envOfC qual scope L f cdv).kindOf (binds vs) (fun _=>none) p.1=some v)))
  (hn:(400-10*n).blt recursionLimit=true)
  (h:∀(h₀:Heap) (sh:Shared) (L:Addr),let C:Cx:=⟨w,(AL n).deeper (envOfC qual scope L f cdv),envOfC qual scope L f cdv,h₀,shapeOf sh,k1l sh⟩
   Gd C ->pre h₀ ->Xs C σ [] body (retP post))
  (hco:autoParam (scope.isCoroutine=false) aR) (hgen:autoParam (scope.isGenerator=false) aR) (hk:autoParam (scope.kind=.function) aR):Cn w n f svs pre post:=by
 intro A s Q E vs mg mb X T hA hvs hpre k
 refine k6j hA (a4I (enterC X T (kb hn) ho hcd (hbind vs s hvs) (hkind vs hvs) hnd (fun B2 tk cells F N Y=>?_) hco hgen hk))
 have H:Hold ⟨w,(AL n).deeper (envOfC qual scope s.heap.objs.size f cdv),envOfC qual scope s.heap.objs.size f cdv,s.heap,shapeOf s,k1l s⟩ σ [] {s with heap:=B2,toks:=tk}:=by
  refine⟨⟨_,F,fun x sv e=>?_⟩,(fun _ h=>nomatch h),fun p hp=>?_,?_,⟨_,_,rfl⟩⟩
  ·refine x1a2 (hσ vs s.heap.objs.size hvs _ (k0a e)) fun v hv q=>?_
   refine⟨v,hv,?_⟩
   rcases q with q| ⟨q1,⟨c,q2⟩,q3⟩
   ·exact .inl q
   ·refine x1a2 (k6c Y _ (k0a q2)) fun o a b=>?_
    exact .inr ⟨.inl q1,c,o,q2,(N _ a).1,by rw[b,q3]⟩
  ·refine x1a2 (k6c Y _ hp) fun o a b=>?_
   exact⟨o,_,(N _ a).1,b,(N _ a).2⟩
  ·rw[a6V,a2O]
   exact k1i _ _ _ a1U fun _ h=>nomatch h
 refine(h s.heap s s.heap.objs.size ⟨X,⟨mg,mb,T⟩,rfl,rfl,hk,rfl⟩ hpre).run _ _ _ H fun f fl σ' ld' s' hf hp H'=>?_
 have G:Grow s s':=by refine x1a2 H'.fr fun m F' _=>?_;exact⟨F'.keep,H'.rest⟩
 have Af:∀new,List.Sublist new ld' ->After s s' new:=fun new hsub=>
  have H2:=H'.sub (σ₁:=[]) trivial hsub
  ⟨G,fun p hp=>let⟨o,a,b,_,d⟩:=H2.led p hp;⟨o,d,a,b⟩,(a1E.mp H2.nodup).2.1⟩
 cases fl with
 |ret sv=>
  refine x1a2 hf fun v za hv=>?_;clear hf;obtain rfl:=za
  refine x1a2 hp fun new hq hsub=>?_
  exact k v sv new s' hv hq (Af new hsub)
 |next=>obtain rfl:=hf;refine x1a2 hp fun new hq hsub=>?_;exact k _ SN new s' rfl hq (Af new hsub)
 |brk=>obtain rfl:=hf;refine x1a2 hp fun new hq hsub=>?_;exact k _ SN new s' rfl hq (Af new hsub)
 |cont=>obtain rfl:=hf;refine x1a2 hp fun new hq hsub=>?_;exact k _ SN new s' rfl hq (Af new hsub)
noncomputable def NM (l:List Code):Prop:=(∃a,Code.builtin "claim.caller" a∈l)∨∃a,Code.builtin "map.__next__" a∈l.takeWhile (·.env?.isNone)
noncomputable def codesOf (Γ:PySem.Ctx):List Code:=Γ.code::Γ.below.map (·.1)
theorem NM.cons {l:List Code}{c:Code}(h:NM l)(hc:c.env?.isNone=true):NM (c::l):=by
 rcases h with⟨a,h⟩| ⟨a,h⟩
 ·exact .inl ⟨a,.tail _ h⟩
 ·exact .inr ⟨a,by rw[a1P,if_pos hc];exact .tail _ h⟩
theorem NM.quiet {l:List Code}{own:List String}(h:NM l)(ho:own.contains "map.__next__"=false):pythonCodeMadeTheCall own l=false:=by
 unfold pythonCodeMadeTheCall
 rcases h with⟨a,h⟩| ⟨a,h⟩
 ·refine a3L.mpr (.inl (a3L.mpr (.inl ?_)))
  rw[Bool.not_eq_false']
  exact a6P.mpr ⟨_,h,rfl⟩
 ·refine a3L.mpr (.inr ?_)
  rw[List.all_eq_false]
  refine⟨_,h,?_⟩
  have h2:¬"map.__next__"∈own:=by simpa using ho
  simp[h2]
noncomputable def wpN {α:Type}(M:Model)(A:Around)(t:Sem α)(Q:α ->Shared ->Prop)(E:Value ->Shared ->Prop)(s:Shared):Prop:=
 ∀Γ p,Γ.In A ->NM (codesOf Γ) ->Sem.wp M Γ t (fun a _ s'=>Q a s') (fun e _ s'=>E e s') p s
noncomputable def m6x (M:Model)(A:Around)(c:Code)(R:Result ->Shared ->Prop)(s:Shared):Prop:=
 ∀Γ p,Γ.code=c ->Γ.Below A ->NM (Γ.below.map (·.1)) ->wpCode M Γ R p s
section
variable {α β:Type}{M:Model}{A:Around}{E:Value ->Shared ->Prop}{s:Shared}
theorem k2y {t:Sem α}{Q:α ->Shared ->Prop}(h:wpAny M A t Q E s):wpN M A t Q E s:=fun Γ p hΓ _=>h Γ p hΓ
theorem k4g {t:Sem α}{Q Q':α ->Shared ->Prop}{E':Value ->Shared ->Prop}(h:wpN M A t Q E s)(hQ:∀a s,Q a s ->Q' a s)(hE:∀e s,E e s ->E' e s):wpN M A t Q' E' s:=
 fun Γ p hΓ hc=>a5D M Γ t (fun a _ s=>hQ a s) (fun e _ s=>hE e s) p s (h Γ p hΓ hc)
theorem k3l {m:Sem α}{f:α ->Sem β}{Q:β ->Shared ->Prop}(h:wpN M A m (fun a s'=>wpN M A (f a) Q E s') E s):wpN M A (m>>=f) Q E s:=fun Γ p hΓ hc=>by
 rw[Sem.wp_bind']
 exact a5D M Γ m (fun a p' s' h'=>h' Γ p' hΓ hc) (fun _ _ _ h'=>h') p s (h Γ p hΓ hc)
theorem k0j {m:Sem α}{f:α ->Sem β}{Q:β ->Shared ->Prop}(h:wpAny M A m (fun a s'=>wpN M A (f a) Q E s') E s):wpN M A (m>>=f) Q E s:=k3l (k2y h)
theorem k6u {l:List Value}{t:Sem α}{Q:α ->Shared ->Prop}(h:wpN M A t Q E s):wpN M A (holding l t) Q E s:=fun Γ p hΓ hc=>by
 rw[Sem.wp_holding];exact h Γ p hΓ hc
theorem k2p {c:Code}{R:Result ->Shared ->Prop}(hc:c.env?.isNone=true)
  (h:wpN M (A.under c) (M.den c) (fun fin s'=>match fin with| .done f=>R (.ok f) s'| .again c'=>c'.quiet=true∧m6x M A c' R s') (fun e s'=>R (.error e) s') s):m6x M A c R s:=fun Γ p hcc hΓ hn=>by
 rw[wpCode_iff_wp,hcc]
 refine a5D M Γ _ (fun fin p' s' h'=>?_) (fun _ _ _ h'=>h') p s (h Γ p (hcc▸hΓ.in) (by unfold codesOf;rw[hcc];exact hn.cons hc))
 cases fin with
 |done f=>exact h'
 |again c'=>exact⟨h'.1,h'.2 (Γ.goto c') p' rfl (hΓ.goto c') hn⟩
theorem m1e {c:Code}{Q:Value ->Shared ->Prop}(h:m6x M A c (fun r s'=>match r with| .ok (.ret v)=>Q v s'| .ok _=>False| .error e=>E e s') s):wpN M A (runValue c) Q E s:=fun Γ p hΓ hn=>by
 rw[Sem.wp_runValue];exact h _ p rfl (hΓ.enter c none p (by intro x;cases x)) hn
theorem m4k {f:Value}{pos:List Value}{kw:List (Str×Value)}{Q:Value ->Shared ->Prop}(h:m6x M A (.call f ⟨pos,kw⟩) (fun r s'=>match r with| .ok (.ret v)=>Q v s'| .ok _=>False| .error e=>E e s') s):wpN M A (call f pos kw) Q E s:=m1e h
theorem m4j {own:List String}{e:Value}{Q:Unit ->Shared ->Prop}(ho:own.contains "map.__next__"=false)(h:Q () s):wpN M A (markTheRefusal own e) Q E s:=fun Γ p hΓ hn=>by
 unfold markTheRefusal stack
 show Sem.wp M Γ (Sem.bind _ _) _ _ p s
 rw[Sem.wp_bind,Sem.wp_stack]
 have:=hn.quiet ho
 unfold codesOf at this
 show Sem.wp M Γ (if pythonCodeMadeTheCall own (Γ.code::Γ.below.map (·.1))=true then _ else pure ()) _ _ p s
 rw[this]
 exact h
end
section
open PySem.NumText
section
variable {prog:Program}{w:World}{A:Around}{E:Value ->Shared ->Prop}{s:Shared}{x:PySem.Str}{u:Tok}
local macro_rules | `(tactic| walk_at "ns") => `(tactic| (show wpN _ _ (_ >>= _) _ _ _; refine k0j ?_; (repeat (first | assumption | wp_step)); show wpN _ _ _ _ _ _))
theorem m8r (y:PySem.Str):(Str.ofString (toString "invalid literal for int() with base "++toString 10++toString ": ")++({cps:=y.cps.extract 0 200}:PySem.Str)).length<=sizeLine:=by
 have h1:(Str.ofString (toString "invalid literal for int() with base "++toString 10++toString ": ")).length<=100:=by decide+kernel
 have h2:({cps:=y.cps.extract 0 200}:PySem.Str).length<=200:=by
  show(y.cps.extract 0 200).size<=200
  rw[Array.size_extract];exact om224
 rw[Str.length_append,a1S]
 exact om389 h1 h2
theorem p4a {Q:Value ->Shared ->Prop}(hn:PySem.intText? x=none)(hl:x.length<=640)(hr:(reprText x).length<=sizeLine)(hh:A.handled=none)
  (hE:∀e h' tk ms,Heap.MadeExc s.heap h' e "ValueError" ms ->E (.ref e) {s with heap:=h',toks:=tk}):
  wpN (model prog w) A ((int_private%"intFromText") (.str x u) (numTextOf x) 10) Q E s:=by
 obtain⟨hp,g,d,tk,os⟩:=s
 have hs:(numSeenOf x).length<=640:=a0H (seen_length x) hl
 have hs':((numTextOf x).takeWhile (·!=0)).length<=640:=hs
 show wpN _ _ (ite _ _ _) _ _ _
 rw[if_pos hs']
 walk_at "ns"
 rcases read0 x hs with⟨m,h1,_⟩| ⟨_,h1| ⟨i,h1,h2⟩⟩
 ·rw[hn]at h1;cases h1
 ·dsimp only
  rw[show(int_private%"readNumeral") 0 10 ((numTextOf x).takeWhile (·!=0))=_ from h1]
  walk_at "ns"
  rw[if_neg (by simp)]
  (walk_at "ns";walk_at "ns";(show wpN _ _ (_>>=_) _ _ _);(refine k0j (wpAny_pyRepr_str ?_ (by assumption)));(show wpN _ _ _ _ _ _);(show wpN _ _ (_>>=_) _ _ _);(refine k0j (wpAny_mkStr ?_ ?hz));(show wpN _ _ _ _ _ _);(show wpN _ _ (_>>=_) _ _ _);(refine k0j (wpAny_newExc_plain plainExc_ValueError ?_);intro h' e me);(show wpN _ _ _ _ _ _);(show wpN _ _ (_>>=_) _ _ _);(refine k3l (m4j (by decide) ?_));(refine k2y (wpAny_raiseNew_none (by assumption) ?_));skip)
  ·exact hE _ _ _ _ (by assumption)
  ·exact m8r _
 ·dsimp only
  rw[show(int_private%"readNumeral") 0 10 ((numTextOf x).takeWhile (·!=0))=_ from h1]
  dsimp only
  rw[if_neg h2]
  (walk_at "ns";walk_at "ns";(show wpN _ _ (_>>=_) _ _ _);(refine k0j (wpAny_pyRepr_str ?_ (by assumption)));(show wpN _ _ _ _ _ _);(show wpN _ _ (_>>=_) _ _ _);(refine k0j (wpAny_mkStr ?_ ?hz2));(show wpN _ _ _ _ _ _);(show wpN _ _ (_>>=_) _ _ _);(refine k0j (wpAny_newExc_plain plainExc_ValueError ?_);intro h' e me);(show wpN _ _ _ _ _ _);(show wpN _ _ (_>>=_) _ _ _);(refine k3l (m4j (by decide) ?_));(refine k2y (wpAny_raiseNew_none (by assumption) ?_));skip)
  ·exact hE _ _ _ _ (by assumption)
  ·exact m8r _
theorem int_no {Q:Fin ->Shared ->Prop}(hn:PySem.intText? x=none)(hl:x.length<=640)(hr:(reprText x).length<=sizeLine)(hh:A.handled=none)
  (hE:∀e h' tk ms,Heap.MadeExc s.heap h' e "ValueError" ms ->E (.ref e) {s with heap:=h',toks:=tk}):
  wpN (model prog w) A (Builtin.«int.__new__» ⟨[.type "int",.str x u],[]⟩) Q E s:=by
 obtain⟨hp,g,d,tk,os⟩:=s
 have f1:=F.conv_sub_int
 have f2:=F.madeHere_int
 have f3:=KIN.str_int
 have f4:=KIN.str_idx
 have f5:=KIN.str_trunc
 have f6:typeOf (.str x u)=pure (.type "str"):=rfl
 have hs:(numSeenOf x).length<=640:=a0H (seen_length x) hl
 walk_at "ns"
 walk_at "ns"
 walk_at "ns"
 walk_at "ns"
 show wpN _ _ (_>>=_) _ _ _
 refine k3l ?_
 walk_at "ns"
 walk_at "ns"
 walk_at "ns"
 walk_at "ns"
 show wpN _ _ ((int_private%"intFromText") (.str x u) (numTextOf x) 10) _ _ _
 exact p4a hn hl hr hh hE
end
section
variable {prog:Program}{w:World}{A:Around}{E:Value ->Shared ->Prop}{s:Shared}{x:PySem.Str}{u:Tok}
local macro_rules | `(tactic| walk_at "ns") => `(tactic| (show wpN _ _ (_ >>= _) _ _ _; refine k0j ?_; (repeat (first | assumption | wp_step)); show wpN _ _ _ _ _ _))
theorem k5d {id:String}{args:Args}{b:Builtin}{R:Result ->Shared ->Prop}(hb:entryFor table id=some b)
  (h:wpN (model prog w) (A.under (.builtin id args)) (b args) (fun fin s'=>match fin with| .done f=>R (.ok f) s'| .again c'=>c'.quiet=true∧m6x (model prog w) A c' R s') (fun e s'=>R (.error e) s') s):m6x (model prog w) A (.builtin id args) R s:=by
 refine k2p rfl ?_
 show wpN _ _ (match entryFor table id with|some b=>b args|none=>unsupported ((withoutEnding? id "#data").getD id)) _ _ s
 rw[hb];exact h
theorem k8e {Q:Value ->Shared ->Prop}(hn:PySem.intText? x=none)(hl:x.length<=640)(hr:(reprText x).length<=sizeLine)(hh:A.handled=none)
  (hE:∀e h' tk ms,Heap.MadeExc s.heap h' e "ValueError" ms ->E (.ref e) {s with heap:=h',toks:=tk}):
  wpN (model prog w) A (call (.type "int") [.str x u]) Q E s:=by
 refine m4k (k2p rfl ?_)
 show wpN _ _ (callAny (.type "int") _) _ _ _
 refine k2y (a0F ⟨Code.quiet_builtin _ (by decide+kernel),?_⟩)
 refine k5d F.entry_type_call ?_
 rw[Around.under_plain (weight_type_call_type "int" [.str x u] []) (units_type_call_type "int" [.str x u] [])]
 have ft:=F.called_int
 refine ex2 ft.mro fun c tl hmro=>?_
 have hmade:=ft.made
 have hsub:=ft.sub
 have h1:=ft.notType
 have h2:=ft.canCreate
 have h3:=F.typeCall_int_1 (.str x u)
 walk_at "ns"
 walk_at "ns"
 walk_at "ns"
 walk_at "ns"
 show wpN _ _ (_>>=_) _ _ _
 refine k3l (k6u (m4k (k2p rfl ?_)))
 show wpN _ A.in1.in1 (do checkBuiltinCall "int.__new__" ⟨[.type "int",.str x u],[]⟩;again (.builtin "int.__new__" ⟨[.type "int",.str x u],[]⟩)) _ _ s
 refine k0j (a5A (F.newCall_int_1 (.str x u)) (k2y (a0F ⟨a1Z ft.plain _,k5d F.entry_int_new ?_⟩)))
 exact int_no hn hl hr hh hE
end
end
theorem k9g:mroOf (.type "filter")=pure [.type "filter",.type "object"]:=by rw[mroOf_type];kernel_rfl
theorem slot_filter_next:Slot "filter" "__next__" "filter.__next__":=
 .of (owner:="filter") (n:="__next__") (by rw[a3Q,a2N];kernel_rfl) (by decide+kernel) (by decide+kernel) (by decide+kernel)
  (by first|exact .inl (by decide+kernel)|exact .inr (by decide+kernel)) (by rw[a2I];kernel_rfl)
theorem k2u:Slot "filter" "__iter__" "filter.__iter__":=
 .of (owner:="filter") (n:="__iter__") (by rw[a3Q,a2N];kernel_rfl) (by decide+kernel) (by decide+kernel) (by decide+kernel)
  (by first|exact .inl (by decide+kernel)|exact .inr (by decide+kernel)) (by rw[a2I];kernel_rfl)
theorem k6d:Slot "filter" "__init__" "object.__init__":=
 .of (owner:="object") (n:="__init__") (by rw[a3Q,a2N];kernel_rfl) (by decide+kernel) (by decide+kernel) (by decide+kernel)
  (by first|exact .inl (by decide+kernel)|exact .inr (by decide+kernel)) (by rw[a2I];kernel_rfl)
theorem k2i:entryFor table "filter.__next__"=some Builtin.«filter.__next__» :=entryFor_of_tree (by kernel_rfl)
theorem k6g:entryFor table "filter.__new__"=some Builtin.«filter.__new__» :=entryFor_of_tree (by kernel_rfl)
theorem k5s:entryFor table "filter.__iter__"=some Builtin.«dict_keyiterator.__iter__» :=
 entryFor_alias (id':="dict_keyiterator.__iter__") (by rw[fastTable_eq_tree];kernel_rfl) (by first|rfl|decide+kernel) (by decide+kernel) (by rw[fastTable_eq_tree];kernel_rfl)
theorem k6h (a:Value):argsOk "filter.__next__" ⟨[a],[]⟩:=by
 unfold argsOk;kernel_rfl
theorem k6i (a:Value):argsOk "filter.__iter__" ⟨[a],[]⟩:=by
 unfold argsOk;kernel_rfl
theorem k5o:typeLookup (.type "filter") "__new__"=pure (some (.builtin "filter.__new__")):=by rw[a3Q,a2N];kernel_rfl
theorem m0x:TypeCalled "filter" "filter.__new__" "object.__init__":=
 ⟨by decide+kernel,by decide+kernel,⟨_,_,k9g⟩,madeBy_type k9g k5o (by decide+kernel),by decide+kernel,by rw[a2I];kernel_rfl,k6d⟩
theorem k6w (a b:Value):checkTypeCall "filter" ⟨[a,b],[]⟩=pure ():=by kernel_rfl
theorem k8l (a b:Value):checkBuiltinCall "filter.__new__" ⟨[.type "filter",a,b],[]⟩=pure ():=by kernel_rfl
theorem m5w:isSubtype (.type "filter") (.type "filter")=pure true:=by rw[a2I];kernel_rfl
theorem k2h:plainId "filter.__next__"=true:=by decide+kernel
noncomputable abbrev IsFilter (h:Heap)(f I:Addr):Prop:=h.get? f=some {cls:=.type "filter",dict:=none,data:=.fields #[.builtin "len",.ref I],slots:= #[]}
section
variable {prog:Program}{w:World}{A:Around}{E:Value ->Shared ->Prop}{s:Shared}
theorem k9r {it t:Addr}{i:Nat}{items:Array Value}{x:Value}{Q:Option Value ->Shared ->Prop}(hit:s.heap.IsTupleIter it t i)(ht:s.heap.IsTuple t items)(hx:items[i]?=some x)
  (hQ:∀h',h'.IsTupleIter it t (i+1) ->Heap.SameBut it s.heap h' ->Q (some x) {s with heap:=h'}):wpAny (model prog w) A (callSpecial? (.ref it) "__next__") Q E s:=by
 refine x1a3 (id hit) fun o ho hc hd=>?_
 refine x1a3 ht fun ol hol _ zx=>ex1 zx fun nl hdl=>?_
 refine a1I (name:=Str.ofString "__next__") hit.typeIs a6G (a2E a6G hit.typeIs F.entry_tuple_iterator_next ?_ (F.args_tuple_iterator_next_1 _))
 show wpAny _ _ (field (.ref it) 0>>=_) _ _ s
 refine a0A (a2K ho hd (x:=.ref t) rfl ?_)
 show wpAny _ _ (if(Value.ref t==Value.none)=true then _ else _) _ _ s
 rw[if_neg (show¬((Value.ref t==Value.none)=true)from a2W)]
 show wpAny _ _ (field (.ref it) 1>>=_) _ _ s
 refine a0A (a2K ho hd (x:=.int i 0) rfl ?_)
 show wpAny _ _ (seqItems? (.ref t)>>=_) _ _ s
 refine a0A (a2P hol hdl ?_)
 simp only[a1W,hx]
 refine a0A (a6L ho hd (by simp) (a0F ⟨x,rfl,hQ _ ?_ (a5H ..)⟩))
 exact⟨_,a1G _ ho (Obj.isFreed_of_fields (Obj.data_mapFields hd _)),(Obj.cls_mapFields ..).trans hc,by
  rw[Obj.data_mapFields hd];simp[rawInt]⟩
theorem m1f {it t:Addr}{i:Nat}{items:Array Value}{Q:Option Value ->Shared ->Prop}(hh:A.handled=none)(hit:s.heap.IsTupleIter it t i)(ht:s.heap.IsTuple t items)(hx:items[i]?=none)
  (hE:∀h' e,Heap.ExtBut it s.heap h' ->(∃o,h'.get? e=some o∧o.cls=.type "StopIteration") ->E (.ref e) {s with heap:=h'}):wpAny (model prog w) A (callSpecial? (.ref it) "__next__") Q E s:=by
 refine x1a3 (id hit) fun o ho hc hd=>?_
 refine x1a3 ht fun ol hol _ zx=>ex1 zx fun nl hdl=>?_
 refine a1I (name:=Str.ofString "__next__") hit.typeIs a6G (a2E a6G hit.typeIs F.entry_tuple_iterator_next ?_ (F.args_tuple_iterator_next_1 _))
 show wpAny _ _ (field (.ref it) 0>>=_) _ _ s
 refine a0A (a2K ho hd (x:=.ref t) rfl ?_)
 show wpAny _ _ (if(Value.ref t==Value.none)=true then _ else _) _ _ s
 rw[if_neg (show¬((Value.ref t==Value.none)=true)from a2W)]
 show wpAny _ _ (field (.ref it) 1>>=_) _ _ s
 refine a0A (a2K ho hd (x:=.int i 0) rfl ?_)
 show wpAny _ _ (seqItems? (.ref t)>>=_) _ _ s
 refine a0A (a2P hol hdl ?_)
 simp only[a1W,hx]
 refine a0A (a5Y (a0A (a6L ho hd (by simp) ?_)))
 show wpAny _ _ (newExc (.type "StopIteration") []>>=_) _ _ _
 refine a0A ?_
 simp only[newExc,newTuple]
 refine a0A (a2U ?_ (by size_fits))
 refine a0A (m:=firstArgMember _ _) (a5A (a:=Value.none) (by first|rfl| (simp only[firstArgMember];rfl)) ?_)
 refine a2U ?_ (by size_fits)
 simp only[raiseNew]
 refine a0A (wpAny_handled ?_)
 first|rw[show A.in1.handled=none from hh]|rw[hh]
 refine a0A (a0F (wpAny_throw ?_))
 exact hE _ _ (((a5H ..).extBut.push _).push _) ⟨_,a0I _ rfl,rfl⟩
theorem lenV {x:Str}{t:Tok}{Q:Value ->Shared ->Prop}(hz:x.length<=16777216)(h:∀tk,Q (.int (x.length:Int) (s.toks+1)) {s with toks:=tk}):wpAny (model prog w) A (call (.builtin "len") [.str x t]) Q E s:=P.len_str (om345 hz) (h _)
theorem m6t {R:Result ->Shared ->Prop}{f I T:Addr}{xs:List Str}{vs:List Value}(hv:StrsAre vs xs)(hz:∀x∈xs,x.length<=16777216)(hh:A.handled=none)(hfI:f≠I)(hTI:T≠I):∀(n j:Nat) (s:Shared),vs.length-j=n ->
  IsFilter s.heap f I ->s.heap.IsTupleIter I T j ->s.heap.IsTuple T vs.toArray ->
  (∀i x t h' tk,j<=i ->vs[i]?=some (.str x t) ->xs[i]?=some x ->x≠Str.ofString "" ->(xs.take i).filter (·!=Str.ofString "")=(xs.take j).filter (·!=Str.ofString "") ->h'.IsTupleIter I T (i+1) ->Heap.SameBut I s.heap h' ->R (.ok (.ret (.str x t))) {s with heap:=h',toks:=tk}) ->
  (xs.filter (·!=Str.ofString "")=(xs.take j).filter (·!=Str.ofString "") ->∀e h' tk,Heap.ExtBut I s.heap h' ->(∃o,h'.get? e=some o∧o.cls=.type "StopIteration") ->R (.error (.ref e)) {s with heap:=h',toks:=tk}) ->
  wpAny (model prog w) A.in1 (Builtin.«filter.__next__» ⟨[.ref f],[]⟩) (fun fin s'=>match fin with| .done f=>R (.ok f) s'| .again c'=>c'.quiet=true∧codeAny (model prog w) A c' R s') (fun e s'=>R (.error e) s') s:=by
 have hl:=k1a hv
 intro n
 induction n with
 |zero=>
  intro j s hn hf hI hT hi he
  show wpAny _ _ (field (.ref f) 0>>=_) _ _ s
  refine a0A (a2K hf rfl (x:=.builtin "len") rfl ?_)
  show wpAny _ _ (field (.ref f) 1>>=_) _ _ s
  refine a0A (a2K hf rfl (x:=.ref I) rfl ?_)
  refine a0A (m1f hh hI hT (by simp;exact om40 hn) fun h' e hk ho=>?_)
  exact he (by rw[a2H (om39 hn hl)]) e h' _ hk ho
 |succ n ih=>
  intro j s hn hf hI hT hi he
  have hjl:j<vs.length:=om21 hn
  refine x2a2 (m4r hv (a0D hjl)) fun x t hx hvj=>?_
  have hvj:vs[j]?=some (.str x t):=by rw[a0D hjl,hvj]
  show wpAny _ _ (field (.ref f) 0>>=_) _ _ s
  refine a0A (a2K hf rfl (x:=.builtin "len") rfl ?_)
  show wpAny _ _ (field (.ref f) 1>>=_) _ _ s
  refine a0A (a2K hf rfl (x:=.ref I) rfl ?_)
  refine a0A (k9r hI hT (x:=.str x t) (by simpa using hvj) fun h' hI' hs'=>?_)
  refine a0A (a1O ?_)
  rw[if_neg (by decide)]
  refine a0A (lenV (hz x (a1D hx)) fun tk=>?_)
  refine a1O ?_
  have htk:(xs.take (j+1)).filter (·!=Str.ofString "")=(xs.take j).filter (·!=Str.ofString "")++[x].filter (·!=Str.ofString ""):=by
   rw[a2A,hx,List.filter_append];rfl
  have hlen:((x.length:Int) !=0)=(x !=Str.ofString ""):=k3m x
  have tr:wpAny (model prog w) A.in1 (truthy (.int (x.length:Int) (s.toks+1))) (fun b s'=>b=(x !=Str.ofString "")∧s'={s with heap:=h',toks:=tk}) (fun e s'=>R (.error e) s') {s with heap:=h',toks:=tk}:=by
   walk1
   exact⟨hlen,rfl⟩
  refine a2L tr (fun b s' hb=>?_) fun _ _ e=>e
  obtain⟨rfl,rfl⟩:=hb
  cases hb:(x !=Str.ofString "")with
  |true=>
   rw[if_pos rfl]
   refine a0F ?_
   exact hi j x t h' tk (a0W _) hvj hx (by simpa using hb) rfl hI' hs'
  |false=>
   rw[if_neg (by decide)]
   refine a0F ⟨a1Z k2h _,?_⟩
   have hx0:[x].filter (·!=Str.ofString "")=[]:=by rw[a5J,hb];rfl
   rw[hx0,a2O]at htk
   refine a2D k2i ?_
   rw[a1H k2h _]
   refine ih (j+1) {s with heap:=h',toks:=tk} (om2 hn) (hs'.extBut _ _ hfI hf) hI' (hT.at fun o e=>hs'.extBut _ _ hTI e) (fun i y u h'' tk' hji h1 h2 h3 h4 h5 h6=>?_) fun h1 e h'' tk' h2 h3=>?_
   ·exact hi i y u h'' tk' (om48 hji) h1 h2 h3 (h4.trans htk) h5 (hs'.trans h6)
   ·exact he (h1.trans htk) e h'' tk' (fun c o hc e=>h2 c o hc (hs'.extBut c o hc e)) h3
theorem k8a {R:Result ->Shared ->Prop}{f I T:Addr}{xs:List Str}{vs:List Value}(hv:StrsAre vs xs)(hz:∀x∈xs,x.length<=16777216)(hh:A.handled=none)(hfI:f≠I)(hTI:T≠I)(j:Nat)
  (a:IsFilter s.heap f I)(b:s.heap.IsTupleIter I T j)(c:s.heap.IsTuple T vs.toArray)
  (hi:∀i x t h' tk,j<=i ->vs[i]?=some (.str x t) ->xs[i]?=some x ->x≠Str.ofString "" ->(xs.take i).filter (·!=Str.ofString "")=(xs.take j).filter (·!=Str.ofString "") ->h'.IsTupleIter I T (i+1) ->Heap.SameBut I s.heap h' ->R (.ok (.ret (.str x t))) {s with heap:=h',toks:=tk})
  (he:xs.filter (·!=Str.ofString "")=(xs.take j).filter (·!=Str.ofString "") ->∀e h' tk,Heap.ExtBut I s.heap h' ->(∃o,h'.get? e=some o∧o.cls=.type "StopIteration") ->R (.error (.ref e)) {s with heap:=h',toks:=tk}):
  codeAny (model prog w) A (.call (.builtin "filter.__next__") ⟨[.ref f],[]⟩) R s:=
 codeAny_call_builtin slot_filter_next.plain k2i (slot_filter_next.check _ _ _ _ _ _ _ _ ⟨_,a,rfl⟩ (k6h _) (m6t hv hz hh hfI hTI _ j s rfl a b c hi he))
noncomputable def m5q (f I T:Addr)(xs:List Str)(vs:List Value)(i:Nat)(h:Heap):Prop:=
 ∃j,IsFilter h f I∧h.IsTupleIter I T j∧h.IsTuple T vs.toArray∧((xs.take j).filter (·!=Str.ofString "")).length=i
theorem k9l {xs:List Str}{i j:Nat}{x:Str}(hx:xs[i]?=some x)(hne:x≠Str.ofString "")(h:(xs.take i).filter (·!=Str.ofString "")=(xs.take j).filter (·!=Str.ofString "")):
  (xs.filter (·!=Str.ofString ""))[((xs.take j).filter (·!=Str.ofString "")).length]?=some x∧(xs.take (i+1)).filter (·!=Str.ofString "")=(xs.take j).filter (·!=Str.ofString "")++[x]:=by
 have e1:(xs.take (i+1)).filter (·!=Str.ofString "")=(xs.take j).filter (·!=Str.ofString "")++[x]:=by
  rw[a2A,hx,List.filter_append,h]
  congr 1
  have:(x !=Str.ofString "")=true:=by simpa using hne
  show [x].filter _=_
  rw[a5J,this];rfl
 refine⟨?_,e1⟩
 have e2:xs.filter (·!=Str.ofString "")=(xs.take (i+1)).filter (·!=Str.ofString "")++(xs.drop (i+1)).filter (·!=Str.ofString ""):=by rw[<-List.filter_append,a5T]
 rw[e2,e1,a6E]
 simp
theorem Walks.filter {f I T:Addr}{xs:List Str}{vs:List Value}(hv:StrsAre vs xs)(hz:∀x∈xs,x.length<=16777216)(hfI:f≠I)(hTI:T≠I)(hh:A.handled=none):
  Walks prog w A f [f,I,T] [I] (xs.filter (·!=Str.ofString "")).length (fun i v=>∃x t,(xs.filter (·!=Str.ofString ""))[i]?=some x∧v=.str x t) (m5q f I T xs vs) where
 sub:=fun b hb=>by rw[a0B.mp hb];simp
 frame:=fun i h h' st hk=>by
  refine x1a4 st fun j a b c d=>?_
  exact⟨j,hk f (by simp) _ a,b.at fun o e=>hk I (by simp) o e,c.at fun o e=>hk T (by simp) o e,d⟩
 item:=fun i s Q E hi st hQ=>by
  refine x1a4 st fun j a b c d=>?_
  have hT:s.TypeIs (.ref f) "filter":=⟨_,a,rfl⟩
  unfold pyNext
  refine a0A (wpAny_attempt (a1I (name:=Str.ofString "__next__") hT slot_filter_next (a4I (k8a hv hz hh hfI hTI j a b c ?_ ?_))))
  ·intro i' x t h' tk hji h1 h2 h3 h4 h5 h6
   obtain⟨g1,g2⟩:=k9l h2 h3 h4
   rw[d]at g1
   refine a0F (hQ _ h' tk ⟨x,t,g1,rfl⟩ ⟨i'+1,h6.extBut _ _ hfI a,h5,c.at fun o e=>h6.extBut _ _ hTI e,?_⟩ fun b o hb e=>h6.extBut b o (fun q=>hb (by rw[q];exact .head _)) e)
   rw[g2,a0Y,d];rfl
  ·intro h1
   rw[h1,d]at hi;exact absurd hi (a1R _)
 done:=fun s Q E st hQ=>by
  refine x1a4 st fun j a b c d=>?_
  have hT:s.TypeIs (.ref f) "filter":=⟨_,a,rfl⟩
  unfold pyNext
  refine a0A (wpAny_attempt (a1I (name:=Str.ofString "__next__") hT slot_filter_next (a4I (k8a hv hz hh hfI hTI j a b c ?_ ?_))))
  ·intro i' x t h' tk hji h1 h2 h3 h4 h5 h6
   obtain⟨g1,g2⟩:=k9l h2 h3 h4
   rw[d]at g1
   have:=(a1A.mp g1).1
   exact absurd this (a1R _)
  ·intro h1 e h' tk h2 ho
   revert ho;intro zq;refine x1a2 zq fun o ho hc=>?_
   refine a0A (wpAny_isInstance (T:="StopIteration") (b:=true) ⟨o,ho,hc⟩ isSubtype_stop ?_)
   exact a0F (hQ h' tk fun b o hb e=>h2 b o (fun q=>hb (by rw[q];exact .head _)) e)
 self:=fun i s Q E st hQ=>by
  refine x1a4 st fun j a b c d=>?_
  have hT:s.TypeIs (.ref f) "filter":=⟨_,a,rfl⟩
  refine wpAny_pyIter_slot hT k2u (a2E k2u hT k5s ?_ (k6i _))
  show wpAny _ _ (ret (.ref f)) _ _ s
  exact a0F ⟨_,rfl,"filter",_,hT,slot_filter_next.lookup,hQ⟩
theorem k6e (T:Addr)(its:Array Value):
  Meets (Builtin.«filter.__new__» ⟨[.type "filter",.builtin "len",.ref T],[]⟩) (fun _ R s=>s.heap.IsTuple T its∧
   R (.ok (.ret (.ref (s.heap.push {cls:=.type "tuple_iterator",data:=.fields #[.ref T,.int 0 0]}).objs.size))) {s with heap:=(s.heap.push {cls:=.type "tuple_iterator",data:=.fields #[.ref T,.int 0 0]}).push {cls:=.type "filter",dict:=none,data:=.fields #[.builtin "len",.ref s.heap.objs.size],slots:= #[]}}):=
 .of_wp fun prog w A R s h=>by
  obtain⟨hp,g,d,tk,os⟩:=s;obtain⟨hl1,h⟩:=h
  have hsub:=m5w
  have hL1:Heap.IsTuple (Shared.heap ⟨hp,g,d,tk,os⟩) T its:=hl1
  wp_walk using wpAny_pyIter_tuple hL1
  exact⟨_,rfl,h⟩
theorem m4d {T:Addr}{its:Array Value}{Q:Value ->Shared ->Prop}(ht:s.heap.IsTuple T its)
  (h:∀f I h',IsFilter h' f I ->h'.IsTupleIter I T 0 ->f≠I ->T≠I ->s.heap.objs.size<=f ->s.heap.objs.size<=I ->f<h'.objs.size ->(∀c o,s.heap.get? c=some o ->h'.get? c=some o) ->Q (.ref f) {s with heap:=h'}):
  wpAny (model prog w) A (call (.type "filter") [.builtin "len",.ref T]) Q E s:=by
 refine callType_new m0x (by decide) (k6w _ _) (k8l _ _) (fun obj=>F.args_object_init_3 obj _ _) k6g (k6e T its) ⟨ht,?_⟩
 have hsz:(s.heap.push {cls:=.type "tuple_iterator",data:=.fields #[.ref T,.int 0 0]}).objs.size=s.heap.objs.size+1:=a1Q ..
 have hT:T<s.heap.objs.size:=by refine x1a2 ht fun _ ho _=>?_;exact a0M ho
 refine⟨⟨_,a0I _ rfl,rfl⟩,h _ s.heap.objs.size _ (a0I _ rfl) ⟨_,a0C _ (a0I _ rfl),rfl,rfl⟩ ?_ (a0S hT) ?_ (a0W _) ?_ fun c o e=>a0C _ (a0C _ e)⟩
 ·rw[hsz];exact a3R _
 ·rw[hsz];exact a6S _
 ·rw[a1Q,a1Q,hsz];exact a2B _
end
noncomputable def k8g (h:Heap)(e:Addr)(X:String):Prop:=∃o vs,h.get? e=some o∧o.cls=.type X∧o.data=.fields vs∧vs[1]?=some .none
structure NextAt (prog:Program)(w:World)(I:Addr)(fp wr:List Addr)(n:Nat)(P:Nat ->Value ->Prop)(X:String)(St:Nat ->Heap ->Prop)(K:Around ->Prop:=fun A=>A.handled=none):Prop where
 sub:∀b∈wr,b∈fp
 frame:∀i h h',St i h ->(∀b∈fp,∀o,h.get? b=some o ->h'.get? b=some o) ->St i h'
 live:∀i h,St i h ->∀b∈wr,∃o,h.get? b=some o
 item:∀(A:Around) i (s:Shared) (Q:Option Value ->Shared ->Prop) (E:Value ->Shared ->Prop),K A ->i<n ->St i s.heap ->
  (∀v h' tk,P i v ->St (i+1) h' ->(∀b o,b∉wr ->s.heap.get? b=some o ->h'.get? b=some o) ->Q (some v) {s with heap:=h',toks:=tk}) ->wpAny (model prog w) A (callSpecial? (.ref I) "__next__") Q E s
 last:∀(A:Around) (s:Shared) (Q:Option Value ->Shared ->Prop) (E:Value ->Shared ->Prop),K A ->St n s.heap ->
  (∀e h' tk,(∀b o,b∉wr ->s.heap.get? b=some o ->h'.get? b=some o) ->s.heap.get? e=none ->k8g h' e X ->E (.ref e) {s with heap:=h',toks:=tk}) ->wpAny (model prog w) A (callSpecial? (.ref I) "__next__") Q E s
section
variable {prog:Program}{w:World}{A:Around}{E:Value ->Shared ->Prop}{s:Shared}
theorem k8p {it l:Addr}{i:Nat}{items:Array Value}{x:Value}{Q:Option Value ->Shared ->Prop}(hit:s.heap.IsListIter it l i)(hl:s.heap.IsList l items)(hx:items[i]?=some x)
  (hQ:∀h',h'.IsListIter it l (i+1) ->Heap.SameBut it s.heap h' ->Q (some x) {s with heap:=h'}):wpAny (model prog w) A (callSpecial? (.ref it) "__next__") Q E s:=by
 refine x1a3 (id hit) fun o ho hc hd=>?_
 refine x1a3 hl fun ol hol _ zx=>ex1 zx fun nl hdl=>?_
 refine a1I (name:=Str.ofString "__next__") hit.typeIs slot_listiter_next (a2E slot_listiter_next hit.typeIs entry_listiter_next ?_ (args_listiter_next _))
 show wpAny _ _ (field (.ref it) 0>>=_) _ _ s
 refine a0A (a2K ho hd (x:=.ref l) rfl ?_)
 show wpAny _ _ (if(Value.ref l==Value.none)=true then _ else _) _ _ s
 rw[if_neg (show¬((Value.ref l==Value.none)=true)from a2W)]
 show wpAny _ _ (field (.ref it) 1>>=_) _ _ s
 refine a0A (a2K ho hd (x:=.int i 0) rfl ?_)
 show wpAny _ _ (seqItems? (.ref l)>>=_) _ _ s
 refine a0A (a2P hol hdl ?_)
 simp only[a1W,hx]
 refine a0A (a6L ho hd (by simp) (a0F ⟨x,rfl,hQ _ ?_ (a5H ..)⟩))
 exact⟨_,a1G _ ho (Obj.isFreed_of_fields (Obj.data_mapFields hd _)),(Obj.cls_mapFields ..).trans hc,by rw[Obj.data_mapFields hd];simp[rawInt]⟩
theorem m0k {it l:Addr}{i:Nat}{items:Array Value}{Q:Option Value ->Shared ->Prop}(hh:A.handled=none)(hit:s.heap.IsListIter it l i)(hl:s.heap.IsList l items)(hx:items[i]?=none)
  (hE:∀h' e,Heap.ExtBut it s.heap h' ->s.heap.get? e=none ->k8g h' e "StopIteration" ->E (.ref e) {s with heap:=h'}):wpAny (model prog w) A (callSpecial? (.ref it) "__next__") Q E s:=by
 refine x1a3 (id hit) fun o ho hc hd=>?_
 refine x1a3 hl fun ol hol _ zx=>ex1 zx fun nl hdl=>?_
 refine a1I (name:=Str.ofString "__next__") hit.typeIs slot_listiter_next (a2E slot_listiter_next hit.typeIs entry_listiter_next ?_ (args_listiter_next _))
 show wpAny _ _ (field (.ref it) 0>>=_) _ _ s
 refine a0A (a2K ho hd (x:=.ref l) rfl ?_)
 show wpAny _ _ (if(Value.ref l==Value.none)=true then _ else _) _ _ s
 rw[if_neg (show¬((Value.ref l==Value.none)=true)from a2W)]
 show wpAny _ _ (field (.ref it) 1>>=_) _ _ s
 refine a0A (a2K ho hd (x:=.int i 0) rfl ?_)
 show wpAny _ _ (seqItems? (.ref l)>>=_) _ _ s
 refine a0A (a2P hol hdl ?_)
 simp only[a1W,hx]
 refine a0A (a5Y (a0A (a6L ho hd (by simp) ?_)))
 show wpAny _ _ (newExc (.type "StopIteration") []>>=_) _ _ _
 refine a0A ?_
 simp only[newExc,newTuple]
 refine a0A (a2U ?_ (by size_fits))
 refine a0A (m:=firstArgMember _ _) (a5A (a:=Value.none) (by first|rfl| (simp only[firstArgMember];rfl)) ?_)
 refine a2U ?_ (by size_fits)
 simp only[raiseNew]
 refine a0A (wpAny_handled ?_)
 first|rw[show A.in1.handled=none from hh]|rw[hh]
 refine a0A (a0F (wpAny_throw ?_))
 refine hE _ _ (((a5H ..).extBut.push _).push _) ?_ ⟨_,_,a0I _ rfl,rfl,rfl,by first|rfl| (rw[Array.getElem?_append_left (by simp)];rfl)⟩
 cases q:s.heap.get? _ with
 |none=>rfl
 |some o=>exact absurd (a0M q) (by rw[a1Q,Heap.size_after_update];exact a6U.mpr (a6S _))
noncomputable def p0v (I l:Addr)(items:Array Value)(i:Nat)(h:Heap):Prop:=h.IsListIter I l i∧h.IsList l items
theorem NextAt.list {I l:Addr}(hne:l≠I)(items:Array Value):NextAt prog w I [I,l] [I] items.size (fun i v=>items[i]?=some v) "StopIteration" (p0v I l items) where
 sub:=fun b hb=>by rw[a0B.mp hb];simp
 frame:=fun i h h' st hk=>⟨st.1.at fun o e=>hk I (by simp) o e,st.2.at fun o e=>hk l (by simp) o e⟩
 live:=fun i h st b hb=>by
  rw[a0B.mp hb]
  refine x1a2 st.1 fun o ho _=>?_
  exact⟨o,ho⟩
 item:=fun A i s Q E hh hi st hQ=>by
  refine k8p st.1 st.2 (a2Z hi) fun h' a b=>?_
  exact hQ _ h' _ (a2Z hi) ⟨a,st.2.at fun o e=>b.extBut l o hne e⟩ fun c o hc e=>b.extBut c o (fun q=>hc (by rw[q];exact .head _)) e
 last:=fun A s Q E hh st hE=>by
  refine m0k hh st.1 st.2 (Array.getElem?_eq_none (a0W _)) fun h' e a f b=>?_
  exact hE e h' _ (fun c o hc e=>a c o (fun q=>hc (by rw[q];exact .head _)) e) f b
theorem slot_map_next:Slot "map" "__next__" "map.__next__":=
 .of (owner:="map") (n:="__next__") (by rw[a3Q,a2N];kernel_rfl) (by decide+kernel) (by decide+kernel) (by decide+kernel)
  (by first|exact .inl (by decide+kernel)|exact .inr (by decide+kernel)) (by rw[a2I];kernel_rfl)
theorem k4l:Slot "map" "__iter__" "map.__iter__":=
 .of (owner:="map") (n:="__iter__") (by rw[a3Q,a2N];kernel_rfl) (by decide+kernel) (by decide+kernel) (by decide+kernel)
  (by first|exact .inl (by decide+kernel)|exact .inr (by decide+kernel)) (by rw[a2I];kernel_rfl)
theorem k9u:Slot "map" "__init__" "object.__init__":=
 .of (owner:="object") (n:="__init__") (by rw[a3Q,a2N];kernel_rfl) (by decide+kernel) (by decide+kernel) (by decide+kernel)
  (by first|exact .inl (by decide+kernel)|exact .inr (by decide+kernel)) (by rw[a2I];kernel_rfl)
theorem k8r:entryFor table "map.__next__"=some Builtin.«map.__next__» :=entryFor_of_tree (by kernel_rfl)
theorem k4y:entryFor table "map.__new__"=some Builtin.«map.__new__» :=entryFor_of_tree (by kernel_rfl)
theorem k8s:entryFor table "map.__iter__"=some Builtin.«dict_keyiterator.__iter__» :=
 entryFor_alias (id':="dict_keyiterator.__iter__") (by rw[fastTable_eq_tree];kernel_rfl) (by first|rfl|decide+kernel) (by decide+kernel) (by rw[fastTable_eq_tree];kernel_rfl)
theorem m1a (a:Value):argsOk "map.__next__" ⟨[a],[]⟩:=by
 unfold argsOk;kernel_rfl
theorem m1b (a:Value):argsOk "map.__iter__" ⟨[a],[]⟩:=by
 unfold argsOk;kernel_rfl
theorem m8s:mroOf (.type "map")=pure [.type "map",.type "object"]:=by rw[mroOf_type];kernel_rfl
theorem k8o:typeLookup (.type "map") "__new__"=pure (some (.builtin "map.__new__")):=by rw[a3Q,a2N];kernel_rfl
theorem k9o:TypeCalled "map" "map.__new__" "object.__init__":=
 ⟨by decide+kernel,by decide+kernel,⟨_,_,m8s⟩,madeBy_type m8s k8o (by decide+kernel),by decide+kernel,by rw[a2I];kernel_rfl,k9u⟩
theorem k5v (a b:Value):checkTypeCall "map" ⟨[a,b],[]⟩=pure ():=by kernel_rfl
theorem k7o (a b:Value):checkBuiltinCall "map.__new__" ⟨[.type "map",a,b],[]⟩=pure ():=by kernel_rfl
theorem m7l:isSubtype (.type "map") (.type "map")=pure true:=by rw[a2I];kernel_rfl
theorem k3v:plainId "map.__next__"=true:=by decide+kernel
noncomputable abbrev k7s (g:Value)(t:Addr):Obj:={cls:=.type "map",dict:=none,data:=.fields #[.ref t,g],slots:= #[]}
theorem den_of {id:String}{args:Args}{b:Builtin}(hb:entryFor table id=some b):(model prog w).den (.builtin id args)=b args:=by
 show(match entryFor table id with|some b=>b args|none=>unsupported ((withoutEnding? id "#data").getD id))=_
 rw[hb]
theorem k2r {m:Addr}{R:Result ->Shared ->Prop}(hm:s.TypeIs (.ref m) "map")
  (h:wpN (model prog w) A.in1 (Builtin.«map.__next__» ⟨[.ref m],[]⟩) (fun fin s'=>∃v,fin=.done (.ret v)∧R (.ok (.ret v)) s') (fun e s'=>R (.error e) s') s):codeAny (model prog w) A (.call (.builtin "map.__next__") ⟨[.ref m],[]⟩) R s:=by
 refine codeAny_of_tree ?_
 show wpAny _ A.in1 (do checkBuiltinCall "map.__next__" ⟨[.ref m],[]⟩;again (.builtin "map.__next__" ⟨[.ref m],[]⟩)) _ _ s
 refine a0A (slot_map_next.check _ _ _ _ _ _ _ _ hm (m1a _) (a0F ⟨a1Z k3v _,?_⟩))
 intro Γ p hc hΓ
 rw[wpCode_iff_wp,hc]
 have hin:=hΓ.in
 rw[hc,a1H k3v _]at hin
 rw[den_of k8r]
 refine a5D _ Γ _ (fun fin p' s' h'=>?_) (fun _ _ _ h'=>h') p s (h Γ p hin (.inr ⟨⟨[.ref m],[]⟩,by unfold codesOf;rw[hc,a1P];exact .head _⟩))
 refine x1a2 h' fun v za hR=>?_;clear h';obtain rfl:=za
 exact hR
end
section
variable {prog:Program}{w:World}{A:Around}{E:Value ->Shared ->Prop}{s:Shared}
theorem k6p {m t I:Addr}{g:Value}{Q:Value ->Shared ->Prop}(hm:s.heap.get? m=some (k7s g t))(ht:s.heap.get? t=some (tupOf [.ref I]))
  (hi:wpAny (model prog w) A (callSpecial? (.ref I) "__next__") (fun r s'=>∃v,r=some v∧s'.heap.get? m=some (k7s g t)∧wpN (model prog w) A (call g [v]) Q E s') E s):
  wpN (model prog w) A (Builtin.«map.__next__» ⟨[.ref m],[]⟩) (fun fin s'=>∃v,fin=.done (.ret v)∧Q v s') E s:=by
 show wpN _ _ (field (.ref m) 0>>=_) _ _ _
 refine k0j (a2K hm rfl (x:=.ref t) rfl ?_)
 show wpN _ _ (seqItems? (.ref t)>>=_) _ _ _
 refine k0j (a2P ht rfl ?_)
 show wpN _ _ (_>>=_) _ _ _
 simp only[List.forIn_toArray,a4H,List.forIn_nil,bind_assoc,pure_bind]
 show wpN _ _ (holding _ (callSpecial? (.ref I) "__next__">>=_)>>=_) _ _ _
 refine k0j (a1O (a0A (a2L hi (fun r s' hr=>?_) fun _ _ e=>e)))
 refine x1a3 hr fun v za hm' hc=>?_;clear hr;obtain rfl:=za
 refine a0F ?_
 show wpN _ _ (field (.ref m) 1>>=_) _ _ _
 refine k0j (a2K hm' rfl (x:=g) rfl ?_)
 show wpN _ _ (holding _ (call g [v])>>=_) _ _ _
 refine k3l (k6u (k4g hc (fun y s'' hy=>?_) fun _ _ e=>e))
 refine k2y (a0A (a5B (a0F ⟨y,rfl,hy⟩)))
noncomputable def k5u (m t:Addr)(I:Addr)(g:Value)(St:Nat ->Heap ->Prop)(i:Nat)(h:Heap):Prop:=h.get? m=some (k7s g t)∧h.get? t=some (tupOf [.ref I])∧St i h
theorem NextAt.map {m t I:Addr}{g:Value}{fp wr:List Addr}{n n':Nat}{P P':Nat ->Value ->Prop}{X:String}{St:Nat ->Heap ->Prop}(W:NextAt prog w I fp wr n P X St)(hm:m∉wr)(ht:t∉wr)(hn:n'<=n)
  (hg:∀(A:Around) i v (s:Shared) (Q:Value ->Shared ->Prop) (E:Value ->Shared ->Prop),A.handled=none ->i<n' ->P i v ->(∀y h' tk,P' i y ->(∀b o,s.heap.get? b=some o ->h'.get? b=some o) ->Q y {s with heap:=h',toks:=tk}) ->wpAny (model prog w) A (call g [v]) Q E s)
  (hx:n'<n ->∀(A:Around) v (s:Shared) (Q:Value ->Shared ->Prop) (E:Value ->Shared ->Prop),A.handled=none ->P n' v ->(∀e h' tk,(∀b o,s.heap.get? b=some o ->h'.get? b=some o) ->s.heap.get? e=none ->k8g h' e "ValueError" ->E (.ref e) {s with heap:=h',toks:=tk}) ->wpN (model prog w) A (call g [v]) Q E s):
  NextAt prog w m (m::t::fp) wr n' P' (if n'<n then "ValueError" else X) (k5u m t I g St) where
 sub:=fun b hb=>.tail _ (.tail _ (W.sub b hb))
 frame:=fun i h h' st hk=>⟨hk m (.head _) _ st.1,hk t (.tail _ (.head _)) _ st.2.1,W.frame i h h' st.2.2 fun b hb=>hk b (.tail _ (.tail _ hb))⟩
 live:=fun i h st=>W.live i h st.2.2
 item:=fun A i s Q E hh hi st hQ=>by
  refine a1I (name:=Str.ofString "__next__") ⟨_,st.1,rfl⟩ slot_map_next (a4I (k2r ⟨_,st.1,rfl⟩ ?_))
  refine k4g (k6p (Q:=fun v s'=>Q (some v) s') (E:=E) st.1 st.2.1 ?_) (fun fin s' h=>?_) fun _ _ e=>e
  ·refine W.item A.in1 i s _ _ hh (a1C hi hn) st.2.2 fun v h' tk hP st' hk=>⟨v,rfl,hk m _ hm st.1,?_⟩
   refine k2y (hg A.in1 i v _ _ _ hh hi hP fun y h'' tk' hP' hk'=>hQ y h'' tk' hP' ⟨hk' _ _ (hk m _ hm st.1),hk' _ _ (hk t _ ht st.2.1),W.frame _ _ _ st' fun b _ o e=>hk' b o e⟩ fun b o hb e=>hk' b o (hk b o hb e))
  ·revert h;intro zq;refine x1a2 zq fun v za h=>?_;clear zq;obtain rfl:=za
   exact⟨v,rfl,h⟩
 last:=fun A s Q E hh st hE=>by
  refine a1I (name:=Str.ofString "__next__") ⟨_,st.1,rfl⟩ slot_map_next (a4I (k2r ⟨_,st.1,rfl⟩ ?_))
  refine k4g (k6p (Q:=fun v s'=>Q (some v) s') (E:=E) st.1 st.2.1 ?_) (fun fin s' h=>?_) fun _ _ e=>e
  ·by_cases h:n'<n
   ·rw[if_pos h]at hE
    refine W.item A.in1 n' s _ _ hh h st.2.2 fun v h' tk hP st' hk=>⟨v,rfl,hk m _ hm st.1,?_⟩
    refine hx h A.in1 v _ _ _ hh hP fun e h'' tk' hk' hf ho=>hE e h'' tk' (fun b o hb e=>hk' b o (hk b o hb e)) ?_ ho
    cases q:s.heap.get? e with
    |none=>rfl
    |some o=>
     exfalso
     have:∃o,h'.get? e=some o:=by
      by_cases hb:e∈wr
      ·exact W.live _ _ st' e hb
      ·exact⟨o,hk e o hb q⟩
     obtain⟨o',ho'⟩:=this
     rw[show h'.get? e=none from hf]at ho'
     cases ho'
   ·rw[if_neg h]at hE
    have hnn:n'=n:=Nat.le_antisymm hn (a6U.mp h)
    exact W.last A.in1 s _ _ hh (hnn▸st.2.2) hE
  ·revert h;intro zq;refine x1a2 zq fun v za h=>?_;clear zq;obtain rfl:=za
   exact⟨v,rfl,h⟩
end
theorem k9h:typeLookup (.type "map") "__len__"=pure none:=by rw[a3Q,a2N];kernel_rfl
theorem k7q:typeLookup (.type "map") "__length_hint__"=pure none:=by rw[a3Q,a2N];kernel_rfl
theorem m5s:isSubtype (.type "ValueError") (.type "StopIteration")=pure false:=by rw[a2I];kernel_rfl
section
variable {prog:Program}{w:World}{A:Around}{E:Value ->Shared ->Prop}{s:Shared}{R:Result ->Shared ->Prop}{I:Addr}{fp wr:List Addr}{n:Nat}{P:Nat ->Value ->Prop}{X:String}{St:Nat ->Heap ->Prop}
theorem NextAt.one {K:Around ->Prop}{Q:Option Value ->Shared ->Prop}{i:Nat}(W:NextAt prog w I fp wr n P X St K)(hh:K A)(hi:i<n)(st:St i s.heap)
  (hQ:∀v h' tk,P i v ->St (i+1) h' ->(∀b o,b∉wr ->s.heap.get? b=some o ->h'.get? b=some o) ->Q (some v) {s with heap:=h',toks:=tk}):wpAny (model prog w) A (pyNext (.ref I)) Q E s:=by
 unfold pyNext
 exact a0A (wpAny_attempt (W.item A i s _ _ hh hi st fun v h' tk hP st' hk=>a0F (hQ v h' tk hP st' hk)))
theorem NextAt.fin {K:Around ->Prop}{Q:Option Value ->Shared ->Prop}(W:NextAt prog w I fp wr n P X St K)(hh:K A)(st:St n s.heap)(hX:X="StopIteration"∨X="ValueError")
  (hQ:X="StopIteration" ->∀h' tk,(∀b o,b∉wr ->s.heap.get? b=some o ->h'.get? b=some o) ->Q none {s with heap:=h',toks:=tk})
  (hE:X="ValueError" ->∀e h' tk,(∀b o,b∉wr ->s.heap.get? b=some o ->h'.get? b=some o) ->s.heap.get? e=none ->k8g h' e "ValueError" ->E (.ref e) {s with heap:=h',toks:=tk}):wpAny (model prog w) A (pyNext (.ref I)) Q E s:=by
 unfold pyNext
 refine a0A (wpAny_attempt (W.last A s _ _ hh st fun e h' tk hk hf hx=>?_))
 have hx':=hx
 refine x2a3 hx fun o vs ho hc _=>?_
 rcases hX with rfl|rfl
 ·refine a0A (wpAny_isInstance (T:="StopIteration") (b:=true) ⟨o,ho,hc⟩ isSubtype_stop ?_)
  exact a0F (hQ rfl h' tk hk)
 ·refine a0A (wpAny_isInstance (T:="ValueError") (b:=false) ⟨o,ho,hc⟩ m5s ?_)
  exact wpAny_throw (hE rfl e h' tk hk hf hx')
set_option tactic.hygienic true in
theorem m5e {K:Around ->Prop}(W:NextAt prog w I fp wr n P X St K)(hh:K A.in1)(hX:X="StopIteration"∨X="ValueError"){S:Addr}(hSf:S∉fp)(hn:n<=sizeLine)(res:Value):
  ∀(k i:Nat) (s:Shared) (acc:Array Value) (c:Nat),n-i=k ->i<=n ->St i s.heap ->s.heap.get? S=some (listOf acc c) ->acc.size=i ->(∀j v,acc[j]?=some v ->P j v) ->
  (X="StopIteration" ->∀h' tk acc' c',(∀b o,b∉wr ->b≠S ->s.heap.get? b=some o ->h'.get? b=some o) ->h'.get? S=some (listOf acc' c') ->acc'.size=n ->(∀j v,acc'[j]?=some v ->P j v) ->R (.ok (.ret res)) {s with heap:=h',toks:=tk}) ->
  (X="ValueError" ->∀e h' tk,(∀b o,b∉wr ->b≠S ->s.heap.get? b=some o ->h'.get? b=some o) ->s.heap.get? e=none ->k8g h' e "ValueError" ->R (.error (.ref e)) {s with heap:=h',toks:=tk}) ->
  codeAny (model prog w) A (.builtin "list.extend.loop" ⟨[.ref S,.ref I,res],[]⟩) R s:=by
 have hSw:S∉wr:=fun h=>hSf (W.sub _ h)
 intro k
 induction k with
 |zero=>
  intro i s acc c hk hi hst hS ha hP hR hE
  obtain rfl:i=n:=om83 hk hi
  refine a2D F.entry_extend_loop ?_
  rw[a1H a3Z _]
  show wpAny _ A.in1 (pyNext (.ref I)>>=_) _ _ s
  refine a0A (W.fin hh hst hX (fun hx h' tk hk'=>?_) fun hx e h' tk hk' hf ho=>?_)
  ·exact a0F (hR hx h' tk acc c (fun b o hb _ e=>hk' b o hb e) (hk' S _ hSw hS) ha hP)
  ·exact hE hx e h' tk (fun b o hb _ e=>hk' b o hb e) hf ho
 |succ k ih=>
  intro i s acc c hk hi hst hS ha hP hR hE
  have hlt:i<n:=om21 hk
  refine a2D F.entry_extend_loop ?_
  rw[a1H a3Z _]
  show wpAny _ A.in1 (pyNext (.ref I)>>=_) _ _ s
  refine a0A (W.one hh hlt hst fun v h' tk hPv hst' hk'=>?_)
  have hS':=hk' S _ hSw hS
  show wpAny _ A.in1 (updateSeq S (·.push v)>>=_) _ _ _
  refine a0A (a2X hS' rfl (a0F ⟨a1Z a3Z _,?_⟩) (om370 hlt ha hn) (by rw[Array.size_push];exact om315 hlt ha hn))
  have oth:∀b o,b≠S ->h'.get? b=some o ->(h'.update S (Obj.mapSeq (·.push v))).get? b=some o:=fun b o hb e=>(a0O _ _ (Ne.symm hb)).trans e
  have hS2:=a1G (Obj.mapSeq (·.push v)) hS' rfl
  refine ih (i+1) _ (acc.push v) _ (om2 hk) (om168 hlt) (W.frame _ _ _ hst' fun b hb o e=>oth b o (fun q=>hSf (q▸hb)) e) hS2 (by rw[Array.size_push,ha]) (fun j y hj=>?_) (fun hx h'' tk' acc' c' hk'' h1 h2 h3=>?_) fun hx e h'' tk' hk'' hf ho=>?_
  ·rw[Array.getElem?_push]at hj
   split at hj
   ·rename_i q;injection hj with hj;subst hj;rw[q,ha];exact hPv
   ·exact hP j y hj
  ·exact hR hx h'' tk' acc' c' (fun b o hb hbS e=>hk'' b o hb hbS (oth b o hbS (hk' b o hb e))) h1 h2 h3
  ·refine hE hx e h'' tk' (fun b o hb hbS e=>hk'' b o hb hbS (oth b o hbS (hk' b o hb e))) ?_ ho
   cases q:s.heap.get? e with
   |none=>rfl
   |some o=>
    exfalso
    have:∃o,h'.get? e=some o:=by
     by_cases hb:e∈wr
     ·exact W.live _ _ hst' e hb
     ·exact⟨o,hk' e o hb q⟩
    obtain⟨o',ho'⟩:=this
    by_cases hbS:e=S
    ·rw[hbS]at hf
     rw[show Heap.get? _ S=none from hf]at hS2
     cases hS2
    ·have:=oth e o' hbS ho'
     rw[show Heap.get? _ e=none from hf]at this
     cases this
end
section
variable {prog:Program}{w:World}{A:Around}{E:Value ->Shared ->Prop}{s:Shared}
theorem k5m {m t:Addr}{g:Value}{Q:Value ->Shared ->Prop}(hm:s.heap.get? m=some (k7s g t))(h:Q (.ref m) s):wpAny (model prog w) A (pyIter (.ref m)) Q E s:=by
 have hT:s.TypeIs (.ref m) "map":=⟨_,hm,rfl⟩
 refine wpAny_pyIter_slot hT k4l (a2E k4l hT k8s ?_ (m1b _))
 show wpAny _ _ (ret (.ref m)) _ _ s
 exact a0F ⟨_,rfl,"map",_,hT,slot_map_next.lookup,h⟩
theorem k8n (g:Value)(l:Addr)(its:Array Value):
  Meets (Builtin.«map.__new__» ⟨[.type "map",g,.ref l],[]⟩) (fun _ R s=>s.heap.IsList l its∧
   R (.ok (.ret (.ref ((s.heap.push {cls:=.type "list_iterator",data:=.fields #[.ref l,.int 0 0]}).push (tupOf [.ref s.heap.objs.size])).objs.size)))
    {s with heap:=((s.heap.push {cls:=.type "list_iterator",data:=.fields #[.ref l,.int 0 0]}).push (tupOf [.ref s.heap.objs.size])).push (k7s g (s.heap.push {cls:=.type "list_iterator",data:=.fields #[.ref l,.int 0 0]}).objs.size)}):=
 .of_wp fun prog w A R s h=>by
  obtain⟨hp,gg,d,tk,os⟩:=s;obtain⟨hl1,h⟩:=h
  have hsub:=m7l
  have hL1:Heap.IsList (Shared.heap ⟨hp,gg,d,tk,os⟩) l its:=hl1
  wp_walk using a3J hL1
  exact⟨_,rfl,h⟩
theorem m0j (g g0:Value)(m0 t0:Addr):
  Meets (Builtin.«map.__new__» ⟨[.type "map",g,.ref m0],[]⟩) (fun _ R s=>s.heap.get? m0=some (k7s g0 t0)∧
   R (.ok (.ret (.ref (s.heap.push (tupOf [.ref m0])).objs.size)))
    {s with heap:=(s.heap.push (tupOf [.ref m0])).push (k7s g s.heap.objs.size)}):=
 .of_wp fun prog w A R s h=>by
  obtain⟨hp,gg,d,tk,os⟩:=s;obtain⟨hl1,h⟩:=h
  have hsub:=m7l
  have hL1:Heap.get? (Shared.heap ⟨hp,gg,d,tk,os⟩) m0=some (k7s g0 t0):=hl1
  wp_walk using k5m hL1
  exact⟨_,rfl,h⟩
theorem k5f {l:Addr}{its:Array Value}{g:Value}{Q:Value ->Shared ->Prop}(hl:s.heap.IsList l its)
  (h:∀m t I h',h'.get? m=some (k7s g t) ->h'.get? t=some (tupOf [.ref I]) ->p0v I l its 0 h' ->s.heap.objs.size<=m ->s.heap.objs.size<=t ->s.heap.objs.size<=I ->m≠I ->t≠I ->m<h'.objs.size ->(∀c o,s.heap.get? c=some o ->h'.get? c=some o) ->Q (.ref m) {s with heap:=h'}):
  wpAny (model prog w) A (call (.type "map") [g,.ref l]) Q E s:=by
 refine callType_new k9o (by decide) (k5v _ _) (k7o _ _) (fun obj=>F.args_object_init_3 obj _ _) k4y (k8n g l its) ⟨hl,?_⟩
 have z1:(s.heap.push {cls:=.type "list_iterator",data:=.fields #[.ref l,.int 0 0]}).objs.size=s.heap.objs.size+1:=a1Q ..
 have z2:((s.heap.push {cls:=.type "list_iterator",data:=.fields #[.ref l,.int 0 0]}).push (tupOf [.ref s.heap.objs.size])).objs.size=s.heap.objs.size+2:=by rw[a1Q,z1]
 refine⟨⟨_,a0I _ rfl,rfl⟩,h _ (s.heap.push {cls:=.type "list_iterator",data:=.fields #[.ref l,.int 0 0]}).objs.size s.heap.objs.size _ (a0I _ rfl) (a0C _ (a0I _ rfl))
  ⟨⟨_,a0C _ (a0C _ (a0I _ rfl)),rfl,rfl⟩,hl.at fun o e=>a0C _ (a0C _ (a0C _ e))⟩
  (by rw[z2];exact a4J _ _) (by rw[z1];exact a4J _ _) (a0W _) (by rw[z2];exact a3E (a4G (by decide))) (by rw[z1];exact a3R _)
  (a0M (a0I _ rfl)) fun c o e=>a0C _ (a0C _ (a0C _ e))⟩
theorem m2r {m0 t0:Addr}{g g0:Value}{Q:Value ->Shared ->Prop}(hm:s.heap.get? m0=some (k7s g0 t0))
  (h:∀m t h',h'.get? m=some (k7s g t) ->h'.get? t=some (tupOf [.ref m0]) ->s.heap.objs.size<=m ->s.heap.objs.size<=t ->m<h'.objs.size ->(∀c o,s.heap.get? c=some o ->h'.get? c=some o) ->Q (.ref m) {s with heap:=h'}):
  wpAny (model prog w) A (call (.type "map") [g,.ref m0]) Q E s:=by
 refine callType_new k9o (by decide) (k5v _ _) (k7o _ _) (fun obj=>F.args_object_init_3 obj _ _) k4y (m0j g g0 m0 t0) ⟨hm,?_⟩
 have z1:(s.heap.push (tupOf [.ref m0])).objs.size=s.heap.objs.size+1:=a1Q ..
 exact⟨⟨_,a0I _ rfl,rfl⟩,h _ s.heap.objs.size _ (a0I _ rfl) (a0C _ (a0I _ rfl)) (by rw[z1];exact a4J _ _) (a0W _)
  (a0M (a0I _ rfl)) fun c o e=>a0C _ (a0C _ e)⟩
theorem m8x {m S:Addr}{fp wr:List Addr}{n c0:Nat}{P:Nat ->Value ->Prop}{X:String}{St:Nat ->Heap ->Prop}{Q:Value ->Shared ->Prop}{C5:Heap}(W:NextAt prog w m fp wr n P X St)(hX:X="StopIteration"∨X="ValueError")(hst:St 0 C5)(hSf:S∉fp)(hn:n<=sizeLine)(hh:A.handled=none)
  (hS:C5.get? S=some (listOf #[] c0))(oth:∀b o,s.heap.get? b=some o ->C5.get? b=some o)(hSs:∀b o,s.heap.get? b=some o ->b≠S)
  (hR:X="StopIteration" ->∀h' tk acc c,(∀b o,b∉wr ->s.heap.get? b=some o ->h'.get? b=some o) ->h'.get? S=some (listOf acc c) ->acc.size=n ->(∀j v,acc[j]?=some v ->P j v) ->Q (.ref S) {s with heap:=h',toks:=tk})
  (hE:X="ValueError" ->∀e h' tk,(∀b o,b∉wr ->s.heap.get? b=some o ->h'.get? b=some o) ->s.heap.get? e=none ->k8g h' e "ValueError" ->E (.ref e) {s with heap:=h',toks:=tk}):
  codeAny (model prog w) A (.builtin "list.extend.loop" ⟨[.ref S,.ref m,.none],[]⟩) (wants (fun r B0=>r=.none∧Q (.ref S) B0) E) {s with heap:=C5}:=by
 refine m5e W hh hX hSf hn .none n 0 _ #[] c0 rfl (a0R _) hst hS rfl (fun j v h=>by simp at h) (fun hx h' tk acc c hk hD h1 h2=>?_) fun hx e h' tk hk hf ho=>?_
 ·exact⟨rfl,hR hx h' tk acc c (fun b o hb e=>hk b o hb (hSs b o e) (oth b o e)) hD h1 h2⟩
 ·refine hE hx e h' tk (fun b o hb e=>hk b o hb (hSs b o e) (oth b o e)) ?_ ho
  cases q:s.heap.get? e with
  |none=>rfl
  |some o=>have:=oth e o q;rw[show C5.get? e=none from hf]at this;cases this
theorem m0y {m t I:Addr}{g:Value}{fp wr:List Addr}{n:Nat}{P:Nat ->Value ->Prop}{X:String}{St:Nat ->Heap ->Prop}{Q:Value ->Shared ->Prop}(W:NextAt prog w m (m::t::fp) wr n P X (k5u m t I g St))(hX:X="StopIteration"∨X="ValueError")(hst:k5u m t I g St 0 s.heap)
  (hfp:∀b∈m::t::fp,b<s.heap.objs.size)(hn:n<=sizeLine)(hh:A.handled=none)
  (hR:X="StopIteration" ->∀D h' tk acc c,(∀b o,b∉wr ->s.heap.get? b=some o ->h'.get? b=some o) ->s.heap.objs.size<=D ->h'.get? D=some (listOf acc c) ->acc.size=n ->(∀j v,acc[j]?=some v ->P j v) ->Q (.ref D) {s with heap:=h',toks:=tk})
  (hE:X="ValueError" ->∀e h' tk,(∀b o,b∉wr ->s.heap.get? b=some o ->h'.get? b=some o) ->s.heap.get? e=none ->k8g h' e "ValueError" ->E (.ref e) {s with heap:=h',toks:=tk}):
  wpAny (model prog w) A (call (.type "list") [.ref m]) Q E s:=by
 have hSf:s.heap.objs.size∉m::t::fp:=fun hm=>a1R _ (hfp _ hm)
 refine callType_codes (Q₁:=fun obj B1=>obj=.ref s.heap.objs.size∧B1={s with heap:=s.heap.push {cls:=.type "list",data:=.seq #[]}}) F.called_list (F.typeCall_list_1 _) F.entry_list_init (code_list_new _ ⟨rfl,rfl⟩) fun obj B1 B2=>?_
 obtain⟨rfl,rfl⟩:=B2
 have hS:(s.heap.push {cls:=.type "list",data:=.seq #[]}).get? s.heap.objs.size=some {cls:=.type "list",data:=.seq #[]}:=a0I _ rfl
 refine⟨⟨_,hS,rfl⟩,F.args_list_init_2 _ _,?_⟩
 show wpAny _ A.in1.in1 (do let old <-Builtin.List.listItems (.ref s.heap.objs.size);Builtin.List.listUpdate (.ref s.heap.objs.size) (fun _=> #[]);letGo old.toList.reverse;Builtin.List.listExtendWith (.ref s.heap.objs.size) (.ref m) .none) _ _ _
 refine a0A ?_
 unfold Builtin.List.listItems
 refine a0A (a2P hS rfl (a0F ?_))
 show wpAny _ A.in1.in1 (updateSeq s.heap.objs.size (fun _=> #[])>>=fun _=>letGo (#[]:Array Value).toList.reverse>>=fun _=>Builtin.List.listExtendWith (.ref s.heap.objs.size) (.ref m) .none) _ _ _
 refine a0A (a2X hS rfl ?_)
 have F7:=a1G (Obj.mapSeq (fun _=>(#[]:Array Value))) hS rfl
 have oth:∀b o,b≠s.heap.objs.size ->s.heap.get? b=some o ->((s.heap.push {cls:=.type "list",data:=.seq #[]}).update s.heap.objs.size (Obj.mapSeq (fun _=>(#[]:Array Value)))).get? b=some o:=
  fun b o hb e=>(a0O _ _ (Ne.symm hb)).trans (a0C _ e)
 have hst2:=W.frame 0 _ _ hst fun b hb o e=>oth b o (fun q=>hSf (q▸hb)) e
 refine a0A (a5B ?_)
 unfold Builtin.List.listExtendWith
 have hT:Shared.TypeIs {s with heap:=(s.heap.push {cls:=.type "list",data:=.seq #[]}).update s.heap.objs.size (Obj.mapSeq (fun _=>(#[]:Array Value)))} (.ref m) "map":=⟨_,hst2.1,rfl⟩
 refine a0A (wpAny_typeOf hT ?_)
 have hSm:s.heap.objs.size≠m:=fun e=>hSf (e▸ .head _)
 have h1:Builtin.List.listSameRef (.ref s.heap.objs.size) (.ref m)=false:=by simp[Builtin.List.listSameRef,hSm]
 have h2:(Value.type "map"==Value.type "list")=false:=by decide
 have h3:(Value.type "map"==Value.type "tuple")=false:=by decide
 simp only[h1,h2,h3,a6F,a3A,if_false]
 refine a0A (k5m hst2.1 ?_)
 refine a0A (a1O ?_)
 unfold Builtin.List.listLengthHint
 refine a0A (a4B hT k9h ?_)
 show wpAny _ _ (specialOf (Value.ref m) (Str.ofString "__length_hint__")>>=_) _ _ _
 refine a0A (a4B hT k7q ?_)
 refine a0F ?_
 show wpAny _ A.in1.in1 (rule "list.extend.makes-room">>=fun _=>Builtin.List.listTouch (.ref s.heap.objs.size)>>=fun _=>again (.builtin "list.extend.loop" ⟨[.ref s.heap.objs.size,.ref m,.none],[]⟩)) _ _ _
 refine a0A (a5Y ?_)
 refine a0A ?_
 show wpAny _ A.in1.in1 (updateSeq s.heap.objs.size (·.push .none)>>=fun _=>updateSeq s.heap.objs.size (·.pop)) _ _ _
 refine a0A (a2X F7 rfl ?_)
 have E6:=a1G (Obj.mapSeq (·.push Value.none)) F7 rfl
 refine a2X (hz:=by seq_fits) E6 rfl ?_
 have hS4:=a1G (Obj.mapSeq (·.pop)) E6 rfl
 have oth4:∀b o,b≠s.heap.objs.size ->s.heap.get? b=some o ->((((s.heap.push {cls:=.type "list",data:=.seq #[]}).update s.heap.objs.size (Obj.mapSeq (fun _=>(#[]:Array Value)))).update s.heap.objs.size (Obj.mapSeq (·.push Value.none))).update s.heap.objs.size (Obj.mapSeq (·.pop))).get? b=some o:=
  fun b o hb e=>(a0O _ _ (Ne.symm hb)).trans ((a0O _ _ (Ne.symm hb)).trans (oth b o hb e))
 have nS:∀b o,s.heap.get? b=some o ->b≠s.heap.objs.size:=fun b o e=>a0S (a0M e)
 exact a0F ⟨a1Z a3Z _,m8x (s:=s) W hX (W.frame 0 _ _ hst fun b hb o e=>oth4 b o (fun q=>hSf (q▸hb)) e) hSf hn hh hS4 (fun b o e=>oth4 b o (nS b o e) e) nS (fun hx h' tk acc c hk=>hR hx _ h' tk acc c hk (a0W _)) hE⟩
end
noncomputable def OutF (outer:List Env)(ld:Led):Prop:=∀env∈outer,env.scope.kind≠ .module∧∃F o,env.frame=some F∧(F,SO.frm o)∈ld∧∀vs,o.data≠ .fields vs
section
variable {C:Cx}{σ:Loc}{ld:Led}{outer:List Env}{s:Shared}{e:Addr}{X:String}
noncomputable def baseF (C:Cx)(outer:List Env)(h:Heap):Heap:=hideAll h ((C.env::outer).filterMap (·.frame))
theorem k7m {ld:Led}{F:Addr}{a b:SO}(nd:(ld.map (·.1)).Nodup)(h1:(F,a)∈ld)(h2:(F,b)∈ld):a=b:=by
 induction ld with
 |nil=>cases h1
 |cons p r ih=>
  simp only[a0P,a1L]at nd
  rcases a0G.mp h1 with q1|q1
  ·rcases a0G.mp h2 with q2|q2
   ·rw[<-q1]at q2;injection q2 with _ q2;exact q2.symm
   ·exact absurd (a1N (f:=(·.1)) q2) (by rw[<-q1]at nd;exact nd.1)
  ·rcases a0G.mp h2 with q2|q2
   ·exact absurd (a1N (f:=(·.1)) q1) (by rw[<-q2]at nd;exact nd.1)
   ·exact ih nd.2 q1 q2
theorem k9j (hf:C.env.frame=some C.env.locals)(ho:OutF outer ld){b:Addr}(h:b∈(C.env::outer).filterMap (·.frame)):b=C.env.locals∨∃o,(b,SO.frm o)∈ld∧∀vs,o.data≠ .fields vs:=by
 refine x1a2 (List.mem_filterMap.mp h) fun env he hb=>?_
 rcases a0G.mp he with rfl|he
 ·rw[hf]at hb;exact .inl (a4X hb).symm
 ·refine an2 (ho env he) fun _ zz=>x2a3 zz fun F o h1 h2 h3=>?_
  rw[h1]at hb
  obtain rfl:=a4X hb
  exact .inr ⟨o,h2,h3⟩
theorem Hold.slots {s':Shared}(H:Hold C σ ld s)(hf:C.env.frame=some C.env.locals)(ho:OutF outer ld)(k:(baseF C outer s.heap).StaysIn s'.heap)
  (kf:∀b o,s.heap.get? b=some o ->(∀vs,o.data≠ .fields vs) ->∃sl,s'.heap.get? b=some {o with slots:=sl})(hr:C.rest s'):Hold C σ ld s':=by
 refine x1a2 H.fr fun m F r=>?_
 have nd:=H.nodup
 rw[a1E]at nd
 have kb:∀b o,b≠C.env.locals ->(∀o,(b,SO.frm o)∉ld) ->s.heap.get? b=some o ->s'.heap.get? b=some o:=fun b o h1 h2 e=>k b o (a4R _ e fun hm=>by
  rcases k9j hf ho hm with q| ⟨o',q,_⟩
  ·exact h1 q
  ·exact h2 o' q)
 have kc:∀p∈C.env.cells,∀o,s.heap.get? p.2=some o ->p.2≠C.env.locals ->s'.heap.get? p.2=some o:=fun p hp o e hL=>kb p.2 o hL (fun o' q=>nd.2.2 p.2 (a1N hp) p.2 (a0K.mpr ⟨_,q,rfl⟩) rfl) e
 refine⟨⟨m,⟨?_,fun b o e=>?_,F.above⟩,fun x sv e=>?_⟩,fun p hp=>?_,fun p hp=>?_,H.nodup,hr⟩
 ·refine x3a3 F.ns fun oL es ep hL hd hk=>?_
  obtain⟨sl,hs⟩:=kf _ _ hL fun vs q=>by rw[hd]at q;cases q
  exact⟨_,es,ep,hs,hd,hk⟩
 ·refine kb b o (fun q=>?_) (fun o' q=>?_) (F.keep b o e)
  ·rw[q]at e
   exact absurd (a1C (a0M e) F.above) (a1R _)
  ·refine x1a4 (H.led _ q) fun _ _ _ _ h0=>?_
   rw[show C.h₀.get? b=none from h0]at e;cases e
 ·refine x1a2 (r x sv e) fun v hv q=>?_
  refine⟨v,hv,?_⟩
  rcases q with q| ⟨q,c,oc,e1,e2,e3⟩
  ·exact .inl q
  ·refine x2a4 (H.cel _ (k0a e1)) fun o2 v2 h1 h2 h3 h4=>?_
   exact .inr ⟨q,c,oc,e1,kc _ (k0a e1) _ e2 h3,e3⟩
 ·refine x1a4 (H.led p hp) fun o a b c d=>?_
  by_cases hfm:∃o',(p.1,SO.frm o')∈ld
  ·obtain⟨o',ho'⟩:=hfm
   have e1:p.2=SO.frm o':=k7m nd.2.1 (show(p.1,p.2)∈ld from hp) ho'
   by_cases hmem:p.1∈(C.env::outer).filterMap (·.frame)
   ·rcases k9j hf ho hmem with q| ⟨o3,q,q3⟩
    ·exact absurd q c
    ·have e2:SO.frm o'=SO.frm o3:=k7m nd.2.1 ho' q
     injection e2 with e2
     subst e2
     rw[e1]at b
     obtain⟨sl0,rfl⟩:=b
     obtain⟨sl,hs⟩:=kf _ _ a q3
     exact⟨_,hs,by rw[e1];exact⟨sl,rfl⟩,c,d⟩
   ·exact⟨o,k _ _ (a4R _ a hmem),b,c,d⟩
  ·exact⟨o,kb _ _ c (fun o' q=>hfm ⟨o',q⟩) a,b,c,d⟩
 ·refine x2a4 (H.cel p hp) fun o v a b c d=>?_
  exact⟨o,v,kc p hp o a c,b,c,d⟩
end
section
variable {C:Cx}{σ:Loc}{ld:Led}{outer:List Env}{s:Shared}{e:Addr}{X:String}{M:Model}{A:Around}{E:Value ->Shared ->Prop}
structure Fly (C:Cx)(outer:List Env)(s:Shared)(h:Heap)(e:Addr)(X:String):Prop where
 stays:(baseF C outer s.heap).StaysIn h
 slots:∀b o,s.heap.get? b=some o ->(∀vs,o.data≠ .fields vs) ->∃sl,h.get? b=some {o with slots:=sl}
 traced:h.Traced (baseF C outer s.heap) e (.type X)
theorem k9k {h':Heap}(H:Hold C σ ld s)(kp:∀b o,s.heap.get? b=some o ->h'.get? b=some o)(ho:OutF outer ld):∀l:List Env,(∀env∈l,env∈outer) ->h'.FunFrames (baseF C outer s.heap) l
 | [],_=>trivial
 |env::r,hm=>by
  refine an2 (ho env (hm env (.head _))) fun h1 zz=>x2a3 zz fun F o h2 h3 h4=>?_
  refine x1a3 (H.led _ h3) fun o' a za _=>?_;obtain⟨sl,rfl⟩:=za
  exact⟨h1,⟨F,_,h2,hideAll_none _ (List.mem_filterMap.mpr ⟨env,.tail _ (hm env (.head _)),h2⟩),kp _ _ a,h4⟩,k9k H kp ho r fun x hx=>hm x (.tail _ hx)⟩
theorem k7j {h':Heap}{tk:Nat}{R:Unit ->Shared ->Prop}(H:Hold C σ ld s)(kp:∀b o,s.heap.get? b=some o ->h'.get? b=some o)(hnew:s.heap.get? e=none)(hx:k8g h' e X)(hfr:A.frames=some (C.env::outer))(hf:C.env.frame=some C.env.locals)
  (hk:C.env.scope.kind=.function)(ho:OutF outer ld)(k:∀B7,Hold C σ ld {s with heap:=B7,toks:=tk} ->Fly C outer s B7 e X ->R () {s with heap:=B7,toks:=tk}):
  wpAny M A (noteFrame (.ref e) C.env) (fun _ B0=>wpAny M A (setFlight (.ref e) none) R E B0) E {s with heap:=h',toks:=tk}:=by
 refine x2a4 hx fun oe vs he hc hd h1=>?_
 have kb:(baseF C outer s.heap).StaysIn h':=fun b o q=>kp b o (a5Z _ q)
 have hen:(baseF C outer s.heap).get? e=none:=by
  cases q:(baseF C outer s.heap).get? e with
  |none=>rfl
  |some o=>rw[a5Z _ q]at hnew;cases hnew
 refine x1a2 H.fr fun m F _=>?_
 have hl:h'.FunFrames (baseF C outer s.heap) (C.env::outer):=by
  refine x3a3 F.ns fun oL es ep hL hdL _=>?_
  exact⟨by rw[hk];decide,⟨C.env.locals,oL,hf,hideAll_none _ (List.mem_filterMap.mpr ⟨C.env,.head _,hf⟩),kp _ _ hL,fun vs q=>by rw[hdL]at q;cases q⟩,k9k H kp ho outer fun x hx=>hx⟩
 unfold noteFrame
 simp only[hf]
 refine a0A (a2K he hd h1 ?_)
 rw[if_neg (by decide)]
 refine wpAny_newEntry (base:=baseF C outer s.heap) (s:={s with heap:=h',toks:=tk}) hfr hl hf he kb hen hd (a6H.mp h1).1 fun B7 ⟨x1,_,x3,x4⟩=>?_
 have kf:∀b o,s.heap.get? b=some o ->(∀vs,o.data≠ .fields vs) ->∃sl,B7.get? b=some {o with slots:=sl}:=fun b o q hn=>x4 b o (kp b o q) hn
 rw[hc]at x3
 exact k B7 (H.slots hf ho x1 kf (C.ok _ _ _ H.rest)) ⟨x1,kf,x3⟩
theorem k7v {B7:Heap}{tk:Nat}{R:Unit ->Shared ->Prop}(H:Hold C σ ld s)(hF:Fly C outer s B7 e X)(hf:C.env.frame=some C.env.locals)(ho:OutF outer ld)(k:∀C5,Hold C σ ld {s with heap:=C5,toks:=tk} ->R () {s with heap:=C5,toks:=tk}):
  wpAny M A (setFlight (.ref e) none) R E {s with heap:=B7,toks:=tk}:=by
 obtain⟨x1,x4,oe,vs,T,oT,ts,he,hcls,hd,h1,hnT,hTe,hT,hdT,h3⟩:=hF
 refine wpAny_setFlight_none he hd h1 hT hdT (a6H.mp h3).1 ?_
 refine k _ (H.slots (s':={s with heap:=B7.update T (Obj.mapFields (·.setIfInBounds 3 .none)),toks:=tk}) hf ho (fun b o q=>?_) (fun b o q hn=>?_) (C.ok _ _ _ H.rest))
 ·exact(a0O _ _ (fun p:T=b=>by rw[<-p,hnT]at q;cases q)).trans (x1 b o q)
 ·obtain⟨sl,hs⟩:=x4 b o q hn
  refine⟨sl,(a0O _ _ (fun p:T=b=>?_)).trans hs⟩
  rw[<-p,hT]at hs
  injection hs with hs
  subst hs
  exact hn ts hdT
theorem Fly.is {h:Heap}{tk:Nat}(f:Fly C outer s h e X):Shared.TypeIs {s with heap:=h,toks:=tk} (.ref e) X:=by
 refine x5a3 f.traced fun oe _ _ _ _ he hc _=>?_
 exact⟨oe,he,hc⟩
end
theorem m7h:isSubtype (.type "ValueError") (.type "BaseException")=pure true:=by rw[a2I];kernel_rfl
theorem m7g:isSubtype (.type ((Manifest.find? "ValueError").elim "type" fun y=>y.metatype)) (.type "tuple")=pure false:=by rw[a2I];kernel_rfl
theorem m7f:isSubtype (.type "ValueError") (.type "ValueError")=pure true:=by rw[a2I];kernel_rfl
noncomputable abbrev Cx.caught (C:Cx)(e:Addr):Cx:={C with A:=C.A.mark (some (.ref e))}
section
variable {C:Cx}{σ:Loc}{ld:Led}{outer:List Env}{x y:Str}{e:Expr}{pos px pt ph pa:Pos}{s:Shared}
theorem Hold.caught {a:Addr}(H:Hold C σ ld s):Hold (C.caught a) σ ld s:=⟨H.fr,H.led,H.cel,H.nodup,H.rest⟩
theorem Hold.uncaught {a:Addr}(H:Hold (C.caught a) σ ld s):Hold C σ ld s:=⟨H.fr,H.led,H.cel,H.nodup,H.rest⟩
theorem p0u {A:Around}{v:Value}{Q:Value ->Shared ->Prop}{E:Value ->Shared ->Prop}(G:Gd C)(H:Hold C σ ld s)(e:nsIn (hd.heap_1 C.w.params) mainGlobals x=some none)(hv:bootBuiltins x=some v)(hn:x≠"__name__")(hx:C.env.kindOf x=some .globalImplicit)(hd:(x==("__debug__":Str))=false)(h:Q v s):
  wpAny (model PR C.w) A (eval (.Name x pos) C.env) Q E s:=by
 refine ex2 G.T fun mg mb T=>?_
 refine x1a2 H.fr fun m F _=>?_
 exact Name_function_global G.k hx (loadGlobal_builtin (env:=C.env) (show s.heap.Ns C.env.globals mg from G.g▸(T.keeps F.keep).g) (mg_none_of G.X T.g e) (show s.heap.Ns C.env.builtins mb from G.b▸(T.keeps F.keep).b) ((T.builtins x hn).trans hv) h) hd
structure Er (C:Cx)(σ:Loc)(ld:Led)(e:Expr)(bad:Prop)(P:SV ->Led ->Prop):Prop where
 run:∀(s:Shared) (Q:Value ->Shared ->Prop) (E:Value ->Shared ->Prop),Hold C σ ld s ->(∀v sv ld' s',sv.is v ->P sv ld' ->Hold C σ ld' s' ->Q v s') ->
  (bad ->∀a h' tk,(∀b o,s.heap.get? b=some o ->h'.get? b=some o) ->s.heap.get? a=none ->k8g h' a "ValueError" ->E (.ref a) {s with heap:=h',toks:=tk}) ->wpAny (model PR C.w) C.A (eval e C.env) Q E s
theorem X1.tryA {bad:Prop}{P:Fl ->Loc ->Led ->Prop}{orelse suite:List Stmt}{E7:Stmt}(G:Gd C)(h:Er C σ ld e bad fun sv ld'=>Xs C ((x,sv)::σ) ld' orelse P)(h2:bad ->∀a,Xs (C.caught a) σ ld (E7::suite) P)
  (hfr:C.A.frames=some (C.env::outer))(ho:OutF outer ld)(hf:autoParam (C.env.frame=some C.env.locals) aR)(e1:autoParam (nsIn (hd.heap_1 C.w.params) mainGlobals (Str.ofString "ValueError")=some none) aK)(hv:autoParam (C.env.kindOf (Str.ofString "ValueError")=some .globalImplicit) aR)
  (hx:autoParam (C.env.kindOf x=some .local) aR)(hp:autoParam ((C.env.scope.kind==.class|| (C.env.scope.kind==.module&&C.env.locals !=C.env.globals))=false) aR)(hs:autoParam (swapsWith e (some (.Name x px)) pa.line C.env=Pure.pure false) aR):
  X1 C σ ld (.Try [.Assign [.Name x px] e pa] [.ExceptHandler (some (.Name (Str.ofString "ValueError") pt)) none (E7::suite) ph] orelse [] pos) P:=.mk fun s Q E H k=>by
 refine wpAny_Try_except (wpAny_execs_cons (wpAny_Assign_Name (h.run s _ _ H (fun v sv ld' s' hv' p H'=>?_) fun hb a h' tk kp hnew hex=>?_) hs))
 ·obtain⟨m,F,r⟩:=H'.fr
  exact a2M hx F.ns (fun B3 C1 B8=>a4W (p.run _ Q E (H'.put F r hx hv' B8 C1) k)) hp
 ·refine k7j H kp hnew hex hfr hf G.k ho fun B7 C0 fly=>?_
  refine wpAny_handleBy_builtin (X:="ValueError") (T:="ValueError") (b:=true) m7h m7g m7f (p0u G C0 e1 (by boot_by_name) (by decide+kernel) hv (by decide+kernel) ⟨rfl,fly.is,?_⟩)
  rw[if_pos rfl]
  exact k7v H fly hf ho fun C5 C7=>(h2 hb a).run _ _ _ C7.caught fun f fl σ' ld' s' hf' hp' H'=>k f fl σ' ld' s' hf' hp' H'.uncaught
end
theorem Are.of_get:∀ {as:List SV} {vs:List Value},as.length=vs.length ->(∀(j:Nat) (v:Value),vs[j]?=some v ->∃a:SV,as[j]?=some a∧a.is v) ->Are as vs
 | [],[],_,_=>.nil
 | [],_::_,h,_=>by cases h
 |_::_,[],h,_=>by cases h
 |a::as,v::vs,h,g=>by
  refine x1a2 (g 0 v rfl) fun b hb hv=>?_
  injection hb with hb
  subst hb
  exact .cons hv (Are.of_get (by simpa using h) fun j w hw=>g (j+1) w (by simpa using hw))
noncomputable def readable (x:PySem.Str):Bool:=(PySem.intText? x).isSome
theorem m2y {p:PySem.Str ->Bool}:∀(l:List PySem.Str) (i:Nat) (x:PySem.Str),i<(l.takeWhile p).length ->l[i]?=some x ->p x=true
 | [],i,x,h,_=>by simp at h
 |a::r,i,x,h,e=>by
  cases q:p a with
  |false=>rw[a1P,q]at h;simp at h
  |true=>
   rw[a1P,q]at h
   cases i with
   |zero=>simp at e;subst e;exact q
   |succ i=>exact m2y r i x (by simpa using h) (by simpa using e)
theorem m2z {p:PySem.Str ->Bool}:∀(l:List PySem.Str) (x:PySem.Str),l[(l.takeWhile p).length]?=some x ->p x=false
 | [],x,e=>by simp at e
 |a::r,x,e=>by
  cases q:p a with
  |false=>rw[a1P,q]at e;simp at e;subst e;exact q
  |true=>rw[a1P,q]at e;exact m2z r x (by simpa using e)
theorem p3y {p:PySem.Str ->Bool}(l:List PySem.Str)(h:¬(l.takeWhile p).length<l.length):∀x∈l,p x=true:=fun x hx=>by
 obtain⟨i,hi,e⟩:=List.getElem_of_mem hx
 exact m2y l i x (om497 hi h) (by rw[a0D hi,e])
noncomputable def reread (x:PySem.Str):PySem.Str:=PySem.Str.ofString (toString ((PySem.intText? x).getD 0))
section
variable {prog:Program}{w:World}{A:Around}{E:Value ->Shared ->Prop}{s:Shared}
theorem m2s {l:Addr}{vs:List Value}{xs:List PySem.Str}{Q:Value ->Shared ->Prop}(hl:s.heap.IsList l vs.toArray)(hv:StrsAre vs xs)(hh:A.handled=none)(hn:xs.length<=1000)(hz:∀x∈xs,x.length<=640)(hr:∀x∈xs,(reprText x).length<=sizeLine)
  (hi:∀x∈xs,∀n,PySem.intText? x=some n ->n.natAbs.log2<1920)
  (hR:(∀x∈xs,readable x=true) ->∀D h' tk us c,(∀b o,s.heap.get? b=some o ->h'.get? b=some o) ->s.heap.get? D=none ->h'.get? D=some (listOf us.toArray c) ->Are ((xs.map reread).map .str) us ->Q (.ref D) {s with heap:=h',toks:=tk})
  (hE:(¬ ∀x∈xs,readable x=true) ->∀e h' tk,(∀b o,s.heap.get? b=some o ->h'.get? b=some o) ->s.heap.get? e=none ->k8g h' e "ValueError" ->E (.ref e) {s with heap:=h',toks:=tk}):
  wpAny (model prog w) A (call (.type "map") [.type "int",.ref l]) (fun v B1=>wpAny (model prog w) A (call (.type "map") [.type "str",v]) (fun v B0=>wpAny (model prog w) A (call (.type "list") [v]) Q E B0) E B1) E s:=by
 have hlen:=k1a hv
 refine k5f hl fun m1 t1 I1 h1 a1 a2 a3 f1 f2 f3 n1 n2 l1 k1=>?_
 refine m2r (s:={s with heap:=h1}) a1 fun m2 t2 h2 b1 b2 g1 g2 l2 k2=>?_
 have k1:∀c o,s.heap.get? c=some o ->h1.get? c=some o:=k1
 have k2:∀c o,h1.get? c=some o ->h2.get? c=some o:=k2
 have g1:h1.objs.size<=m2:=g1
 have g2:h1.objs.size<=t2:=g2
 have i1:I1<h1.objs.size:=let⟨⟨_,ho,_⟩,_⟩:=a3;a0M ho
 have ll:l<s.heap.objs.size:=let⟨_,ho,_⟩:=hl;a0M ho
 have lI:l≠I1:=a0S (a1C ll f3)
 have get:∀ {i:Nat} {v:Value},vs.toArray[i]?=some v ->∃x t,xs[i]?=some x∧v=.str x t:=fun {i v} e=>by
  refine x2a2 (m4r hv (by simpa using e)) fun x t h1 h2=>?_
  exact⟨x,t,h1,h2⟩
 have W1:=NextAt.map (prog:=prog) (w:=w) (m:=m1) (t:=t1) (g:=.type "int") (n':=(xs.takeWhile readable).length) (P':=fun i y=>∃x n u,xs[i]?=some x∧PySem.intText? x=some n∧y=.int n u) (NextAt.list lI vs.toArray) (fun q=>n1 (a0B.mp q)) (fun q=>n2 (a0B.mp q))
  (by rw[show vs.toArray.size=xs.length from by simp[hlen]];exact(a5O _).length_le)
  (fun A i v s Q E hh hi' hP k=>by
   refine x2a2 (get hP) fun x t hx za=>?_;obtain rfl:=za
   have hs:=m2y xs i x hi' hx
   obtain⟨n,hn'⟩:=a6T.mp hs
   exact KIN.call_text hn' (hz x (a1D hx)) (k _ s.heap _ ⟨x,n,_,hx,hn',rfl⟩ fun _ _ e=>e))
  (fun hlt A v s Q E hh hP k=>by
   refine x2a2 (get hP) fun x t hx za=>?_;obtain rfl:=za
   have hno:=m2z xs x hx
   have hno':PySem.intText? x=none:=by unfold readable at hno;simpa using hno
   refine k8e hno' (hz x (a1D hx)) (hr x (a1D hx)) hh fun e h' tk ms me=>?_
   refine x1a2 me.there fun t' ht' _=>?_
   exact k e h' tk me.keeps me.new ⟨_,_,ht',rfl,rfl,rfl⟩)
 have W2:=NextAt.map (prog:=prog) (w:=w) (m:=m2) (t:=t2) (g:=.type "str") (n':=(xs.takeWhile readable).length) (P':=fun i y=>∃x n u,xs[i]?=some x∧PySem.intText? x=some n∧y=.str (PySem.Str.ofString (toString n)) u) W1
  (fun q=>absurd (a0B.mp q) (a3E (a1C i1 g1))) (fun q=>absurd (a0B.mp q) (a3E (a1C i1 g2))) (a0W _)
  (fun A i v s Q E hh hi' hP k=>by
   refine x3a3 hP fun x n u hx hn' za=>?_;clear hP;obtain rfl:=za
   exact P.str_of_int (hi x (a1D hx) n hn') (k _ s.heap _ ⟨x,n,_,hx,hn',rfl⟩ fun _ _ e=>e))
  (fun h=>absurd h (a1R _))
 rw[if_neg (a1R _),show vs.toArray.size=xs.length from by simp[hlen]]at W2
 have kk:∀h',(∀b o,b∉[I1] ->h2.get? b=some o ->Heap.get? h' b=some o) ->∀b o,s.heap.get? b=some o ->h'.get? b=some o:=fun h' hk b o e=>hk b o (fun q=>by
  rw[a0B.mp q]at e
  exact absurd (a0M e) (a6U.mpr f3)) (k2 _ _ (k1 _ _ e))
 have fr:∀b,h2.get? b=none ->s.heap.get? b=none:=fun b e=>by
  cases q:s.heap.get? b with
  |none=>rfl
  |some o=>rw[k2 _ _ (k1 _ _ q)]at e;cases e
 refine m0y (s:={s with heap:=h2}) W2 ?_ ⟨b1,b2,k2 _ _ a1,k2 _ _ a2,a3.1.at fun o e=>k2 _ _ e,a3.2.at fun o e=>k2 _ _ e⟩ ?_ (by have:=(a5O (p:=readable) (l:=xs)).length_le;rw[a1S];exact om6 hn this) hh (fun hX D h' tk acc c hk hD h3 h4 h5=>?_) fun hX e h' tk hk hf hx=>?_
 ·split
  ·exact .inr rfl
  ·exact .inl rfl
 ·intro b hb
  show b<h2.objs.size
  have lt:∀ {b o},h2.get? b=some o ->b<h2.objs.size:=fun e=>a0M e
  obtain⟨⟨oI,hoI,_⟩,⟨ol,hol,_⟩⟩:=a3
  simp only[a0G,a0Z,a5C]at hb
  rcases hb with rfl|rfl|rfl|rfl|rfl|rfl
  ·exact lt b1
  ·exact lt b2
  ·exact lt (k2 _ _ a1)
  ·exact lt (k2 _ _ a2)
  ·exact lt (k2 _ _ hoI)
  ·exact lt (k2 _ _ hol)
 ·have hall:¬(xs.takeWhile readable).length<xs.length:=fun q=>by rw[if_pos q]at hX;exact absurd hX (by decide)
  have full:=p3y xs hall
  have hlenx:(xs.takeWhile readable).length=xs.length:=Nat.le_antisymm (a5O _).length_le (a6U.mp hall)
  have hDf:s.heap.get? D=none:=fr D (Heap.get?_none_of_le hD)
  refine hR full D h' tk acc.toList c (kk h' hk) hDf (by simpa using h3) (Are.of_get (by simp[h4,hlenx]) fun j v hj=>?_)
  refine x3a3 (h5 j v (by simpa using hj)) fun x n u hx hn' za=>?_;obtain rfl:=za
  exact⟨.str (reread x),by simp[hx],u,by unfold reread;rw[hn'];rfl⟩
 ·refine hE (fun q=>?_) e h' tk (kk h' hk) (fr e hf) hx
  have:¬(xs.takeWhile readable).length<xs.length:=fun hlt=>by
   have hx:=m2z (p:=readable) xs _ (a0D hlt)
   rw[q _ (a2T hlt)]at hx
   cases hx
  rw[if_neg this]at hX
  exact absurd hX (by decide)
end
section
variable {C:Cx}{σ:Loc}{ld ld':Led}{x y:PySem.Str}{a b e:Expr}{pos ap cp np:Pos}{sv:SV}{xs:List SV}{ts:List PySem.Str}{D:Addr}{P:SV ->Led ->Prop}{R:Fl ->Loc ->Led ->Prop}
theorem Ew.a5 (ha:Ev C σ ld a (.str x))(hb:Ev C σ ld b (.str y))(hy:(y.length==0)=false)(hx:x.length<=10000)(p:∀D,P (SR D) ((D,.list ((Txt.split x y).map .str))::ld)){pl:Sem Bool}
  (he:autoParam (eval (.Call (.Attribute a (Str.ofString "split") ap) [b] [] pos) C.env=(do
   let ov <-eval a C.env
   standAt ap.atName
   let(f,first) <-holding [ov] (getMethod ov (Str.ofString "split") pl)
   callWith pos f first (backTo pos (starEach [b] C.env)) [])) aR)
  (hs:autoParam (starEach [b] C.env=(false,eval b C.env)::starEach [] C.env) aR):Ew C σ ld (.Call (.Attribute a (Str.ofString "split") ap) [b] [] pos) P:=by
 refine Ew.meth (T:="str") (id:="str.split") ha (EwL.pure (.cons hb .nil hs) fun _ v vs s Q E hv hvs H k=>?_) .str a6R F.slot_str_split F.type_str_split he hs (by rfl)
 obtain⟨t,rfl⟩:=hv
 refine x1a2 hvs.one fun _ za zx=>ex1 zx fun u zb=>?_;clear zx;obtain rfl:=za;obtain rfl:=zb
 refine x1a2 H.fr fun m Fm r=>?_
 exact p1d Fm H.news hy hx fun D vs h' tk sa _ _ _ F' N' hn=>k _ (SR D) _ {s with heap:=h',toks:=tk} rfl (p D) (H.made r F' N' (fun q hq=>a0S (hn q hq)) ⟨vs,_,rfl,Are.ofStrs sa⟩)
set_option tactic.hygienic true in
theorem X1.exprW (h:Ew C σ ld e fun sv ld'=>sv=SN∧R .next σ ld')(hi:autoParam (interactive C.env=false) aR)(hw:autoParam (swapsWith e none pos.line C.env=Pure.pure false) aR):X1 C σ ld (.Expr e pos) R:=.mk fun s Q E H k=>by
 refine wpAny_Expr (h.run s _ E H fun v sv ld' s' hv p H'=>?_) hi hw
 obtain⟨rfl,p⟩:=p
 obtain rfl:=hv
 exact k _ .next _ _ s' rfl p H'
set_option tactic.hygienic true in
theorem X1.append (ha:Ev C σ ld a (SR D))(hb:Ev C σ ld b sv)(U:LUpd D (.list xs) (.list (xs++[sv])) ld ld')(hz:xs.length<=10000)(p:R .next σ ld'){pl:Sem Bool}
  (he:autoParam (eval (.Call (.Attribute a (Str.ofString "append") ap) [b] [] cp) C.env=(do
   let ov <-eval a C.env
   standAt ap.atName
   let(f,first) <-holding [ov] (getMethod ov (Str.ofString "append") pl)
   callWith cp f first (backTo cp (starEach [b] C.env)) [])) aR)
  (hs:autoParam (starEach [b] C.env=(false,eval b C.env)::starEach [] C.env) aR) (hi:autoParam (interactive C.env=false) aR) (hw:autoParam (swapsWith (.Call (.Attribute a (Str.ofString "append") ap) [b] [] cp) none pos.line C.env=Pure.pure false) aR):X1 C σ ld (.Expr (.Call (.Attribute a (Str.ofString "append") ap) [b] [] cp) pos) R:=by
 refine X1.exprW (Ew.meth (T:="list") (id:="list.append") ha (EwL.pure (.cons hb .nil hs) fun _ v vs s Q E hv hvs H k=>?_) (.list (Has.mem U.mem)) F.plainAttrs_list slot_list_append type_list_append he hs (by rfl)) hi hw
 obtain rfl:=hv
 refine x1a2 hvs.one fun _ za hv1=>?_;obtain rfl:=za
 rename_i u
 refine x1a3 (H.led _ U.mem) fun o ho za _=>?_;obtain⟨vs,n,rfl,hA⟩:=za
 refine append_at (hsz:=by rw[a1S,a1M];have:=hA.len;exact om8 this hz) ho fun h' hs' ho'=>?_
 refine k .none SN ld' _ rfl ⟨rfl,p⟩ (H.upd (s':={s with heap:=h'}) (o':=listOf (vs.toArray.push u) (n+1)) U (fun b o hb e=>hs'.extBut b o hb e) ho' ⟨vs++[u],n+1,by simp,hA.app (.cons hv1 .nil)⟩ (C.ok _ _ _ H.rest))
theorem Ev.a9 (ha:Ev C σ ld a (.str x))(hb:Ev C σ ld b (SR D))(hD:Has C σ ld D (.list (ts.map .str)))(hl:AllLen 1000 ts)(hn:ts.length<=1000)(hx:x.length<=10){pl:Sem Bool}
  (he:autoParam (eval (.Call (.Attribute a (Str.ofString "join") ap) [b] [] pos) C.env=(do
   let ov <-eval a C.env
   standAt ap.atName
   let(f,first) <-holding [ov] (getMethod ov (Str.ofString "join") pl)
   callWith pos f first (backTo pos (starEach [b] C.env)) [])) aR)
  (hs:autoParam (starEach [b] C.env=(false,eval b C.env)::starEach [] C.env) aR):Ev C σ ld (.Call (.Attribute a (Str.ofString "join") ap) [b] [] pos) (.str (Txt.join x ts)):=by
 refine Ev.meth (T:="str") (id:="str.join") ha (.cons hb .nil hs) (fun v vs s Q E hv hvs H k=>?_) .str a6R F.slot_str_join F.type_str_join he hs (by rfl)
 obtain⟨t,rfl⟩:=hv
 refine x1a2 hvs.one fun _ za zb=>?_;obtain rfl:=za;obtain rfl:=zb
 refine x1a2 (hD.isList H) fun vs hI hA=>?_
 exact m5b hI hA.strs hl hn hx fun t' tk _=>k _ _ .tk ⟨_,rfl⟩
end
noncomputable def full (xs:List Str):List Str:=xs.filter (·!=Str.ofString "")
noncomputable def platJ (xs:List Str):Str:=Txt.join (Str.ofString "-") ((full xs).map Txt.strip)
theorem k2w (n:Nat):passing (fun _=>true) n 0=List.range n:=by
 unfold passing
 rw[List.drop_zero]
 exact a3X.mpr fun _ _=>rfl
theorem k3w (l:List Str):(List.range (full l).length).map (fun j=>((full l).map Txt.strip).getD j (Str.ofString ""))=(full l).map Txt.strip:=by
 apply List.ext_getElem?
 intro j
 by_cases h:j<(full l).length
 ·simp[List.getElem?_range h,a0E,a0D h]
 ·rw[a4O (by simpa using Nat.le_of_not_lt h),a4O (by simpa using Nat.le_of_not_lt h)]
theorem m6u {prog:Program}{w:World}{A:Around}{cenv:Env}{E:Value ->Shared ->Prop}{s:Shared}{m:Str ->Option Value}{x:Str}{t:Tok}{p1 p2 p3:Pos}(hk:cenv.scope.kind=.function)(hx:cenv.kindOf (Str.ofString "x")=some .local)
  (hn:s.heap.Ns cenv.locals m)(hv:m (Str.ofString "x")=some (.str x t))(hz:x.length<=sizeLine)(hline:autoParam ((p2.endLine==p3.line)=true) aR):
  wpAny (model prog w) A (eval (.Call (.Attribute (.Name (Str.ofString "x") p1) (Str.ofString "strip") p2) [] [] p3) cenv) (fun y B5=>(∃u,y=.str (Txt.strip x) u)∧Keeps s B5) E s:=by
 refine Call_method0 (by first|rfl| (intros;rfl)) hline (wpAny_Name (wpAny_loadName_local hk hx hn hv ?_) (by decide+kernel))
 exact SB.strip (fun t' k=>⟨⟨_,rfl⟩,_,_,rfl,fun _ _ e=>e⟩) hz
noncomputable abbrev stripE (p1 p2 p3:Pos):Expr:=.Call (.Attribute (.Name (Str.ofString "x") p1) (Str.ofString "strip") p2) [] [] p3
noncomputable abbrev filtE (p5 p6 p7 p8:Pos):Expr:=.Call (.Name (Str.ofString "filter") p5) [.Name (Str.ofString "len") p6,.Name (Str.ofString "args") p7] [] p8
theorem k0c {M:Model}{A:Around}{E:Value ->Shared ->Prop}{s:Shared}{env:Env}{f:Value}{e:Expr}{rest:List Expr}{pos:Pos}{Q:Args ->Shared ->Prop}(hs:starEach (e::rest) env=(false,eval e env)::starEach rest env)
  (h:wpAny M A (spliced (backTo pos (starEach (e::rest) env))) (fun vs s'=>Q ⟨vs,[]⟩ s') E s):wpAny M A (evalArgs f true (backTo pos (starEach (e::rest) env)) []) Q E s:=by
 rw[hs]at h⊢
 exact a5N h
section
variable {C:Cx}{σ:Loc}{ld:Led}{P c T:Addr}{ps:Array Value}{xs:List Str}{mg:Str ->Option Value}{bm:Addr}{ob:Obj}{os0:OsState}{p1 p2 p3 p4 p5 p6 p7 p8 gp ap px pos:Pos}{k0:Nat}{scope:Scope}
theorem Ew.joinGen (G:Gd C)(B:BMod C.h₀ mainGlobals mg bm ob)(hc:C.env.code=.ref c)(hC:CodeHd C.h₀ c P)(hσ:σ.lookup (Str.ofString "args")=some (SR T))(hT:(T,SO.tup (xs.map SV.str))∈ld)(hP:(P,SO.obj (tabObj ps))∈ld)
  (ht:TriplesOk ps.toList)(hrest:∀s,C.rest s↔(s.os=os0∧AllBare s.gens))(hz:∀x∈xs,x.length<=16777216)(hn:(full xs).length<=sizeLine)(hj:JoinOk (Str.ofString "-") ((full xs).map Txt.strip)=true)(hroom:C.A.depth<recursionLimit)
  (Q':SV ->Led ->Prop)(hQ:∀ps' ld',TriplesOk ps'.toList ->LUpd P (.obj (tabObj ps)) (.obj (tabObj ps')) ld ld' ->Q' (.str (platJ xs)) ld')
  (hU:∀so,∃ld',LUpd P (.obj (tabObj ps)) so ld ld')
  {e4:Expr}{ge:Expr}(hge:autoParam (ge=.GeneratorExp (stripE p1 p2 p3) [⟨.Name (Str.ofString "x") px,filtE p5 p6 p7 p8,[],0⟩] scope gp) aR)(he4:autoParam (e4=.Constant (.str (Str.ofString "-")) k0 p4) aR)
  (hco:autoParam (scope.isCoroutine=false) aR)(hclos:autoParam (closureFor scope C.env=Pure.pure []) aR)(hcell:autoParam (∀y∈scope.names,y.2≠ .cell) aD)(h0:autoParam (scope.names.lookup (".0":Str)=some NameKind.local) aR)
  (hx:autoParam (scope.names.lookup (Str.ofString "x")=some .local) aR)(hkind:autoParam (scope.kind=.function) aR)
  (e1:autoParam (nsIn (hd.heap_1 C.w.params) mainGlobals (Str.ofString "filter")=some none) aK)(e2:autoParam (nsIn (hd.heap_1 C.w.params) mainGlobals (Str.ofString "len")=some none) aK)
  (k1:autoParam (C.env.kindOf (Str.ofString "filter")=some .globalImplicit) aR)(k2:autoParam (C.env.kindOf (Str.ofString "len")=some .globalImplicit) aR)(ka:autoParam (C.env.kindOf (Str.ofString "args")=some .local) aR)
  (hline:autoParam ((p2.endLine==p3.line)=true) aR){pl:Sem Bool}
  (he:autoParam (eval (.Call (.Attribute e4 (Str.ofString "join") ap) [ge] [] pos) C.env=(do
   let ov <-eval e4 C.env
   standAt ap.atName
   let(f,first) <-holding [ov] (getMethod ov (Str.ofString "join") pl)
   callWith pos f first (backTo pos (starEach [ge] C.env)) [])) aR)
  (hs1:autoParam (starEach [ge] C.env=(false,eval ge C.env)::starEach [] C.env) aR)
  (hf:autoParam (eval (filtE p5 p6 p7 p8) C.env=(do callWith p8 (<-eval (.Name (Str.ofString "filter") p5) C.env) [] (backTo p8 (starEach [.Name (Str.ofString "len") p6,.Name (Str.ofString "args") p7] C.env)) (backToKw p8 (keywordEach [] C.env)))) aR)
  (hs2:autoParam (starEach [.Name (Str.ofString "len") p6,.Name (Str.ofString "args") p7] C.env=(false,eval (.Name (Str.ofString "len") p6) C.env)::starEach [.Name (Str.ofString "args") p7] C.env) aR)
  (hs3:autoParam (starEach [.Name (Str.ofString "args") p7] C.env=(false,eval (.Name (Str.ofString "args") p7) C.env)::starEach [] C.env) aR)
  (hgf:autoParam (∀x,genFold (filtE p5 p6 p7 p8) C.env x=Pure.pure x) aI):
  Ew C σ ld (.Call (.Attribute e4 (Str.ofString "join") ap) [ge] [] pos) Q':=.mk fun s Q E H k=>by
 refine x1a4 (H.led _ hT) fun oT hoT za hTL hT0=>?_;obtain⟨vs,rfl,hvs⟩:=za
 refine x1a4 (H.led _ hP) fun oP hoP za hPL hP0=>?_;obtain rfl:=za
 have hst:StrsAre vs xs:=hvs.strs
 obtain⟨hos,hbare⟩:=(hrest s).mp H.rest
 refine x1a2 H.fr fun m Fm r=>?_
 refine ex2 G.T fun mg' mb TR=>?_
 have hlim:s.heap.NoLimit:=(TR.keeps Fm.keep).nolimit
 have hLs:C.env.locals<s.heap.objs.size:=Fm.ns.lt
 subst he4
 refine MethodCall_ (Calls.Constant_str ?_) he
 refine a6A (typeIs_str _ _ _) a6R F.slot_str_join F.type_str_join (fun _ e=>nomatch e) ?_
 refine a6O (by rw[hs1];rfl) (k0c hs1 (a2J ?_ hs1))
 subst hge
 refine wpAny_GeneratorExp_walksQD G.h hco hclos hcell h0 hx hkind hroom ?_ hgf
 refine Call_ (k0i (x:=Str.ofString "filter") G (H.toks (tk:=s.toks+1)) e1 (by boot_by_name) (by decide+kernel) k1 (by decide+kernel) ?_) hf
 refine a1J (by rw[hs2,hs3];rfl) (k0c hs2 (a2J ?_ hs2))
 refine k0i (x:=Str.ofString "len") G (H.toks (tk:=s.toks+1)) e2 (by boot_by_name) (by decide+kernel) k2 (by decide+kernel) ?_
 refine x1a2 (r _ _ hσ) fun v hv za=>?_;obtain⟨_,q2⟩| ⟨q1,_⟩:=za
 rotate_left
 ·rw[ka]at q1
  rcases q1 with q1|q1<;>cases q1
 obtain rfl:=hv
 refine a2J (wpAny_Name (wpAny_loadName_local G.k ka Fm.ns q2 ?_) (by decide+kernel)) hs3
 refine a4D ?_
 refine m4d (T:=T) (its:=vs.toArray) ⟨_,hoT,rfl,_,rfl⟩ fun f I h' a b hfI hTI nf nI hlt kq=>?_
 have W:=fun(A':Around) (hA:A'.handled=none)=>Walks.filter (prog:=PR) (w:=C.w) (A:=A') hst hz hfI hTI hA
 have St0:m5q f I T xs vs 0 h':=⟨0,a,b,⟨_,kq _ _ hoT,rfl,_,rfl⟩,rfl⟩
 refine(W _ G.h).self 0 _ _ _ St0 ?_
 have nf:s.heap.objs.size<=f:=nf
 have nI:s.heap.objs.size<=I:=nI
 have kq:∀b o,s.heap.get? b=some o ->h'.get? b=some o:=kq
 have hlim2:h'.NoLimit:=hlim.keeps kq
 refine⟨hlim2,?_⟩
 have hIlt:I<h'.objs.size:=let⟨_,ho,_⟩:=b;a0M ho
 have hTlt:T<s.heap.objs.size:=a0M hoT
 have hPlt:P<s.heap.objs.size:=a0M hoP
 have hfP:f≠P:=a3E (a1C hPlt nf)
 have hIP:I≠P:=a3E (a1C hPlt nI)
 have hTP:T≠P:=fun q=>by
  have e:=hoT
  rw[show((T,SO.tup (xs.map SV.str)).1:Addr)=P from q,show s.heap.get? P=_ from hoP]at e
  cases e
 have hcs:cStatics<s.heap.objs.size:=let⟨_,hn,_⟩:=hlim;hn.lt
 have hcP:cStatics≠P:=fun q=>by
  refine x1a2 hlim fun _ za _=>?_;clear hlim;obtain⟨o,es,ep,ho,hd,_⟩:=za
  rw[q,show s.heap.get? P=_ from hoP]at ho;cases ho;cases hd
 have hCs:CodeHd s.heap c P:=hC.keeps Fm.keep
 have BM:BMod s.heap mainGlobals mg bm ob:=B.keeps Fm.keep
 have hCk:CodeHd h' c P:=hCs.keeps kq
 have gx:∀(Qp:Value ->Shared ->Prop) (tk:Tok),(∀(code:Value) (B7:Heap) (tk3:Tok) (ps':Array Value),TriplesOk ps'.toList ->Heap.ExtBut P h' B7 ->h'.objs.size<=B7.objs.size ->B7.get? P=some (tabObj ps') ->Qp code {s with heap:=B7,toks:=tk3}) ->
   wpAny (model PR C.w) C.A (genexprCode C.env gp (C.env.qual++Str.ofString "<genexpr>") scope) Qp E {s with heap:=h',toks:=tk}:=by
  intro Qp tk hp
  cases hcd:codeAmong gp ps.toList with
  |some cv=>exact wpAny_genexprCode_hit hc (hCk.code (kq _ _ hoP) ht) hcd (hp cv h' _ ps ht (fun _ _ _ e=>e) (a0W _) (kq _ _ hoP))
  |none=>
   refine wpAny_genexprCodeX hc (hCk.code (kq _ _ hoP) ht) (hCk.tab (kq _ _ hoP)) hcd fun c' B7 tk3 hx3 hge hlt3 hcode3 _ htab3 _=>?_
   refine hp (.ref c') B7 tk3 _ ?_ hx3 (a0H hge (a4C hlt3)) htab3.2
   have:=TriplesOk_snoc gp.line gp.col (.ref c') ps.toList ht
   simpa using this
 refine gx _ _ fun code B7 tk3 ps' ht' hx3 hsz3 H6=>?_
 have hx0:∀b o,b≠P ->s.heap.get? b=some o ->B7.get? b=some o:=fun b o hb e=>hx3 b o hb (kq b o e)
 have BM3:BMod B7 mainGlobals mg bm ob:=BM.extBut (hCs.tab hoP) hx0
 have hl3:B7.NoLimit:=hlim.extBut hx0 hcP
 rw[G.g]
 refine wpAny_builtinsFor BM3.ns BM3.name BM3.ne BM3.obj BM3.cls BM3.dict BM3.data ?_
 have hpos:0<s.heap.objs.size:=Nat.lt_of_le_of_lt (a0R _) hLs
 have hLK:C.env.locals<=s.heap.objs.size-1:=a6J hLs
 have hKI:s.heap.objs.size-1<I:=a1C (Nat.sub_one_lt (a3E hpos)) nI
 have hlen:(passing (fun _=>true) (full xs).length 0).length=(full xs).length:=by rw[k2w];simp
 refine⟨f,[f,I,T],[I],(full xs).length,_,_,(fun _=>true),(fun i y=>∃x t,(full xs)[i]?=some x∧y=.str (Txt.strip x) t),rfl,W,?_,?_,hl3,?_,?_,?_⟩
 ·refine(W _ G.h).frame _ _ _ St0 fun b hb o e=>hx3 b o (fun q=>?_) e
  rcases a0G.mp hb with rfl|hb
  ·exact hfP q
  rcases a0G.mp hb with rfl|hb
  ·exact hIP q
  ·rw[a0B.mp hb]at q;exact hTP q
 ·intro b hb
  refine a1C ?_ hsz3
  rcases a0G.mp hb with rfl|hb
  ·exact hlt
  rcases a0G.mp hb with rfl|hb
  ·exact hIlt
  ·rw[a0B.mp hb];exact a0M (kq _ _ hoT)
 ·intro hm
  rw[a0B.mp hm]at hcs
  exact absurd hcs (a6U.mpr nI)
 ·intro href hhref
  refine⟨fun A' E' i v B0 H7 hA _ _ hP hn hv hk=>?_,fun A' E' i v B0 H7 hA _ _ hP _ hn hv hk=>?_⟩
  ·exact a0F ⟨rfl,B0.heap,B0.toks,rfl,fun _ _ e=>e⟩
  ·refine x2a2 hP fun x t h1 za=>?_;clear hP;obtain rfl:=za
   refine a2L (m6u hkind hx hn hv (hz x (a5U.mp (a1D h1)).1) hline) (fun y B5 h=>⟨?_,h.2⟩) fun _ _ e=>e
   obtain⟨u,rfl⟩:=h.1
   exact⟨x,u,h1,rfl⟩
 ·intro H8 C3 tk gs hgb hag H9 hk5 WS hat
  refine a4D ?_
  have FF:Fr C.h₀ C.env.locals C3 m:=by
   refine⟨?_,fun b o e=>hk5 b o (hx0 b o (fun q=>by rw[q]at e;rw[show C.h₀.get? P=none from hP0]at e;cases e) (Fm.keep b o e)),Fm.above⟩
   refine x3a2 Fm.ns fun o es ep ho hd=>?_
   exact⟨o,es,ep,hk5 _ _ (hx0 _ _ (Ne.symm hPL) ho),hd⟩
  have XG:Gen PR C.w C.A (s.heap.objs.size-1) H8 (passing (fun _=>true) (full xs).length 0).length (fun j y=>∃i,(passing (fun _=>true) (full xs).length 0)[j]?=some i∧∃x t,(full xs)[i]?=some x∧y=.str (Txt.strip x) t)
    {s with gens:=s.gens.push gs,toks:=tk,heap:=C3}:=by
   refine⟨_,_,_,_,WS,hat,(fun i s' st=>st.1.typeIs),a4M,?_,?_⟩
   ·intro b hb
    show b<C3.objs.size
    rw[H9]
    rcases a0G.mp hb with rfl|hb
    ·exact a2B _
    ·rcases a0G.mp hb with rfl|hb
     ·exact a3V hag
     ·exact a3V (Nat.lt_trans (a3O.mp hb) hag)
   ·intro b hb
    rcases a0G.mp hb with rfl|hb
    ·have:s.heap.objs.size<=B7.objs.size:=a0H (a0H nI (a4C hIlt)) hsz3
     have h2:({s with heap:=B7,toks:=tk3}:Shared).heap.objs.size=B7.objs.size:=rfl
     exact a1C (Nat.sub_one_lt (a3E hpos)) this
    ·rw[a0B.mp hb];exact hKI
  rw[hlen]at XG
  refine join_rowsK (h₀:=C.h₀) (L:=C.env.locals) (m:=m) FF (hbare.push hgb) XG hLK (fun j=>((full xs).map Txt.strip).getD j (Str.ofString "")) (fun j v hv=>?_) ?_ (fun s' t' F' G' ho' hk'=>?_) hn
  ·refine x1a2 hv fun i hi zx=>x2a2 zx fun x t hx za=>?_;clear hv zx;obtain rfl:=za
   rw[k2w]at hi
   obtain⟨hi1,hi2⟩:=a1A.mp hi
   rw[List.getElem_range]at hi2
   subst hi2
   refine⟨t,?_⟩
   rw[a0E,a0T,hx];rfl
  ·rw[k3w];exact hj
  ·rw[k3w]
   obtain⟨ld',U⟩:=hU (.obj (tabObj ps'))
   have kb:∀b o,s.heap.get? b=some o ->b<=s.heap.objs.size-1:=fun b o e=>a6J (a0M e)
   have k5:∀b o,b≠P ->s.heap.get? b=some o ->s'.heap.get? b=some o:=fun b o hb e=>hk' b o (kb b o e) (hk5 b o (hx0 b o hb e))
   refine k _ (.str (platJ xs)) ld' s' ⟨_,rfl⟩ (hQ ps' ld' ht' U) (H.upd (o':=tabObj ps') U k5 (hk' P _ (kb P _ hoP) (hk5 _ _ H6)) rfl ((hrest s').mpr ⟨ho'.trans hos,G'⟩))
end
section
variable {C:Cx}{σ:Loc}{ld:Led}{e:Expr}{D:Addr}{xs:List PySem.Str}{P:SV ->Led ->Prop}{n1 n2 n3 n4 n5 c1 c2 c3:Pos}
noncomputable abbrev N (x:String)(p:Pos):Expr:=.Name (Str.ofString x) p
theorem Er.listmap (G:Gd C)(hl:Ev C σ ld e (SR D))(hD:Has C σ ld D (.list (xs.map .str)))(hn:xs.length<=1000)(hz:∀x∈xs,x.length<=640)(hr:∀x∈xs,(reprText x).length<=sizeLine)
  (hi:∀x∈xs,∀n,PySem.intText? x=some n ->n.natAbs.log2<1920)(hP:(∀x∈xs,readable x=true) ->∀D',P (SR D') ((D',.list ((xs.map reread).map .str))::ld))
  (e1:autoParam (nsIn (hd.heap_1 C.w.params) mainGlobals (Str.ofString "list")=some none) aK)(e2:autoParam (nsIn (hd.heap_1 C.w.params) mainGlobals (Str.ofString "map")=some none) aK)
  (e3:autoParam (nsIn (hd.heap_1 C.w.params) mainGlobals (Str.ofString "str")=some none) aK)(e4:autoParam (nsIn (hd.heap_1 C.w.params) mainGlobals (Str.ofString "int")=some none) aK)
  (k1:autoParam (C.env.kindOf (Str.ofString "list")=some .globalImplicit) aR)(k2:autoParam (C.env.kindOf (Str.ofString "map")=some .globalImplicit) aR)(k3:autoParam (C.env.kindOf (Str.ofString "str")=some .globalImplicit) aR)(k4:autoParam (C.env.kindOf (Str.ofString "int")=some .globalImplicit) aR)
  (h1:autoParam (eval (.Call (N "list" n1) [.Call (N "map" n2) [N "str" n3,.Call (N "map" n4) [N "int" n5,e] [] c3] [] c2] [] c1) C.env=(do callWith c1 (<-eval (N "list" n1) C.env) [] (backTo c1 (starEach [.Call (N "map" n2) [N "str" n3,.Call (N "map" n4) [N "int" n5,e] [] c3] [] c2] C.env)) (backToKw c1 (keywordEach [] C.env)))) aR)
  (h2:autoParam (eval (.Call (N "map" n2) [N "str" n3,.Call (N "map" n4) [N "int" n5,e] [] c3] [] c2) C.env=(do callWith c2 (<-eval (N "map" n2) C.env) [] (backTo c2 (starEach [N "str" n3,.Call (N "map" n4) [N "int" n5,e] [] c3] C.env)) (backToKw c2 (keywordEach [] C.env)))) aR)
  (h3:autoParam (eval (.Call (N "map" n4) [N "int" n5,e] [] c3) C.env=(do callWith c3 (<-eval (N "map" n4) C.env) [] (backTo c3 (starEach [N "int" n5,e] C.env)) (backToKw c3 (keywordEach [] C.env)))) aR)
  (s1:autoParam (starEach [.Call (N "map" n2) [N "str" n3,.Call (N "map" n4) [N "int" n5,e] [] c3] [] c2] C.env=(false,eval (.Call (N "map" n2) [N "str" n3,.Call (N "map" n4) [N "int" n5,e] [] c3] [] c2) C.env)::starEach [] C.env) aR)
  (s2:autoParam (starEach [N "str" n3,.Call (N "map" n4) [N "int" n5,e] [] c3] C.env=(false,eval (N "str" n3) C.env)::starEach [.Call (N "map" n4) [N "int" n5,e] [] c3] C.env) aR)
  (s3:autoParam (starEach [.Call (N "map" n4) [N "int" n5,e] [] c3] C.env=(false,eval (.Call (N "map" n4) [N "int" n5,e] [] c3) C.env)::starEach [] C.env) aR)
  (s4:autoParam (starEach [N "int" n5,e] C.env=(false,eval (N "int" n5) C.env)::starEach [e] C.env) aR)(s5:autoParam (starEach [e] C.env=(false,eval e C.env)::starEach [] C.env) aR):
  Er C σ ld (.Call (N "list" n1) [.Call (N "map" n2) [N "str" n3,.Call (N "map" n4) [N "int" n5,e] [] c3] [] c2] [] c1) (¬ ∀x∈xs,readable x=true) P:=.mk fun s Q E H k kE=>by
 refine Call_ (k0i G H e1 (by boot_by_name) (by decide+kernel) k1 (by decide+kernel) ?_) h1
 refine a1J (by rw[s1];rfl) (k0c s1 (a2J ?_ s1))
 refine Call_ (k0i G H e2 (by boot_by_name) (by decide+kernel) k2 (by decide+kernel) ?_) h2
 refine a1J (by rw[s2,s3];rfl) (k0c s2 (a2J ?_ s2))
 refine k0i G H e3 (by boot_by_name) (by decide+kernel) k3 (by decide+kernel) ?_
 refine a2J ?_ s3
 refine Call_ (k0i G H e2 (by boot_by_name) (by decide+kernel) k2 (by decide+kernel) ?_) h3
 refine a1J (by rw[s4,s5];rfl) (k0c s4 (a2J ?_ s4))
 refine k0i G H e4 (by boot_by_name) (by decide+kernel) k4 (by decide+kernel) ?_
 refine a2J (hl.run s _ _ H fun v s' g hv=>a4D ?_) s5
 obtain rfl:=hv
 have H':=H.go g
 obtain⟨vs,hI,hA⟩:=hD.isList H'
 refine a2L (m2s (Q:=Q) (E:=E) hI hA.strs G.h hn hz hr hi (fun hall D' h' tk us c kp hf hd' hus=>?_) fun hno a h' tk kp hf hx=>?_) (fun v B1 q=>?_) fun _ _ e=>e
 ·exact k _ (SR D') _ _ rfl (hP hall D') (H'.new (s':={s' with heap:=h',toks:=tk}) hf kp hd' ⟨us,c,rfl,hus⟩ (C.ok _ _ _ H'.rest))
 ·obtain⟨kg,hg,tg,rfl⟩:=g
  refine kE hno a h' tk (fun b o e=>kp b o (kg b o e)) ?_ hx
  cases q:s.heap.get? a with
  |none=>rfl
  |some o=>have:=kg a o q;rw[show Heap.get? _ a=none from hf]at this;cases this
 ·refine a4D (a2L q (fun v B0 q=>a4D q) fun _ _ e=>e)
end
noncomputable abbrev AF (n:Nat)(env1:Env):Around:={AL n with frames:=some [env1]}
theorem p0z {α:Type}{M:Model}{A:Around}{n:Nat}{env1:Env}{t:Sem α}{Q:α ->Shared ->Prop}{E:Value ->Shared ->Prop}{s:Shared}(hA:OkA A n)(hf:A.frames=some [env1])(h:wpAny M (AF n env1) t Q E s):wpAny M A t Q E s:=
 fun Γ p hΓ=>h Γ p ⟨hΓ.1.trans hA.handled,a0H hΓ.2.1 hA.depth,fun l hl=>(by injection hl with hl;subst hl;exact hΓ.2.2.1 _ hf),fun g hg=>(by cases hg),a0H hΓ.2.2.2.2 hA.units⟩
structure LawFr (env1:Env)(F1:Addr)(B4:Obj)(h:Heap):Prop where
 kind:env1.scope.kind≠ .module
 frame:env1.frame=some F1
 get:h.get? F1=some B4
 data:∀vs,B4.data≠ .fields vs
noncomputable def CnF (w:World)(f:Addr)(svs:List SV)(y:PySem.Str):Prop:=
 ∀(A:Around) (s:Shared) (Q:Value ->Shared ->Prop) (E:Value ->Shared ->Prop) (vs:List Value) (mg mb:Str ->Option Value) (env1:Env) (F1:Addr) (B4:Obj),(hd.heap_1 w.params).In (hideAll s.heap [F1]) ->TopRead vw loose mg mb (hideAll s.heap [F1]) ->OkA A 0 ->A.frames=some [env1] ->LawFr env1 F1 B4 s.heap ->Are svs vs ->
  (∀t h' tk sl,(∀b o,b≠F1 ->s.heap.get? b=some o ->h'.get? b=some o) ->h'.get? F1=some {B4 with slots:=sl} ->Q (.str y t) {s with heap:=h',toks:=tk}) ->wpAny (model PR w) A (call (.ref f) vs) Q E s
noncomputable def postF (y:PySem.Str)(F1:Addr)(B4:Obj):Fl ->Loc ->Led ->Prop
 | .ret sv,_,ld=>sv=.str y∧(F1,SO.frm B4)∈ld
 |_,_,_=>False
theorem p0e {w:World}{f:Addr}{svs:List SV}{y:PySem.Str}{name qual:Str}{params:Arguments}{body:List Stmt}{scope:Scope}
  {dV kV doc pm cdv ct oc:Value}{an od:Option Addr}{osl:Array (Option Value)}{σ:Loc}{binds:List Value ->List (Str×Value)}
  (ho:(hd.heap_1 w.params).lookup f=some ⟨oc,od,.func (fnOf name qual params body scope dV kV doc pm an cdv ct),osl⟩)(hcd:codeIn (hd.heap_1 w.params) cdv qual=true)
  (hbind:∀vs (s:Shared),(hd.heap_1 w.params).In s.heap ->Are svs vs ->BindsTo s (fnOf name qual params body scope dV kV doc pm an cdv ct) ⟨vs,[]⟩ (binds vs))(hσ:∀vs,Are svs vs ->BindIs σ (binds vs).reverse)(hloc:∀vs,Are svs vs ->∀y∈binds vs,scope.names.lookup y.1=some .local)
  (h:∀(h₀:Heap) (sh:Shared) (L:Addr) (env1:Env) (F1:Addr) (B4:Obj),let C:Cx:=⟨w,(AF 0 env1).deeper (envOf qual scope L f cdv),envOf qual scope L f cdv,h₀,shapeOf sh,k1l sh⟩
   Gd C ->OutF [env1] [(F1,SO.frm B4)] ->Xs C σ [(F1,SO.frm B4)] body (postF y F1 B4))
  (hco:autoParam (scope.isCoroutine=false) aR) (hgen:autoParam (scope.isGenerator=false) aR) (hk:autoParam (scope.kind=.function) aR)
  (hcell:autoParam (∀x∈scope.names,x.2≠ .cell) aD):CnF w f svs y:=by
 intro A s Q E vs mg mb env1 F1 B4 X T hA hfr L1 hvs k
 have X':(hd.heap_1 w.params).In s.heap:=fun a o e=>a5Z _ (X a o e)
 have T':TopRead vw loose mg mb s.heap:=T.keeps fun b o e=>a5Z _ e
 refine p0z hA hfr (a4I (enter X' T' (kb rfl) ho hcd (hbind vs s X' hvs) (hloc vs hvs) (fun B2 F N=>?_) hco hgen hk hcell))
 have hlt:F1<s.heap.objs.size:=a0M L1.get
 have H:Hold ⟨w,(AF 0 env1).deeper (envOf qual scope s.heap.objs.size f cdv),envOf qual scope s.heap.objs.size f cdv,hideAll s.heap [F1],shapeOf s,k1l s⟩ σ [(F1,SO.frm B4)] {s with heap:=B2,toks:=s.toks+(binds vs).length}:=by
  refine⟨⟨_,⟨F.ns,fun b o e=>F.keep b o (a5Z _ e),a4L (hideAll_size _ _)⟩,fun x sv e=>?_⟩,fun p hp=>?_,(fun _ h=>nomatch h),a1L.mpr ⟨a0Z,a1U⟩,⟨_,_,rfl⟩⟩
  ·refine x1a2 ((hσ vs hvs).get x sv e) fun v hv q=>?_
   exact⟨v,q,.inl ⟨hloc vs hvs _ (a4F.mp (k0a hv)),hv⟩⟩
  ·rw[a0B.mp hp]
   exact⟨B4,F.keep _ _ L1.get,⟨B4.slots,rfl⟩,a0S hlt,hideAll_none _ (a0B.mpr rfl)⟩
 refine(h (hideAll s.heap [F1]) s s.heap.objs.size env1 F1 B4 ⟨X,⟨mg,mb,T⟩,rfl,rfl,hk,rfl⟩ (fun env he=>?_)).run _ _ _ H fun f fl σ' ld' s' hf hp H'=>?_
 ·rw[a0B.mp he]
  exact⟨L1.kind,F1,B4,L1.frame,.head _,L1.data⟩
 ·cases fl with
  |ret sv=>
   refine x1a2 hf fun v za hv=>?_;clear hf;obtain rfl:=za
   obtain⟨rfl,hm⟩:=hp
   obtain⟨t,rfl⟩:=hv
   refine x1a2 H'.fr fun m F' _=>?_
   refine x1a3 (H'.led _ hm) fun o e1 za _=>?_;obtain⟨sl,rfl⟩:=za
   refine ex2 H'.rest fun h' tk za=>?_;obtain rfl:=za
   exact k t h' tk sl (fun b o hb e=>F'.keep b o (a4R _ e fun q=>hb (a0B.mp q))) e1
  |next=>exact hp.elim
  |brk=>exact hp.elim
  |cont=>exact hp.elim
section
variable {α β:Type}{M:Model}{A:Around}{E:Value ->Shared ->Prop}{s:Shared}{env:Env}
theorem wpC_N {t:Sem α}{Q:α ->Shared ->Prop}(h:wpN M A t Q E s):wpC M A t Q E s:=fun Γ p hΓ hc=>h Γ p hΓ (.inl hc)
theorem k0d {m:Sem α}{f:α ->Sem β}{Q:β ->Shared ->Prop}(h:wpAny M A m (fun a s'=>wpC M A (f a) Q E s') E s):wpC M A (m>>=f) Q E s:=k2a (k1r h)
theorem k3u {st:Stmt}{rest:List Stmt}{Q:Flow ->Shared ->Prop}(h:wpC M A (exec st env) (fun f s'=>match f with| .next=>wpC M A (execs rest env) Q E s'|f=>Q f s') E s):wpC M A (execs (st::rest) env) Q E s:=fun Γ p hΓ hc=>by
 rw[execs_cons,Sem.wp_bind']
 refine a5D M Γ _ (fun f p' s' h'=>?_) (fun _ _ _ h'=>h') _ _ (h Γ p hΓ hc)
 cases f<;>first|exact h' Γ p' hΓ hc|exact h'
theorem k2z {x:Str}{pos' pos:Pos}{value:Expr}{Q:Flow ->Shared ->Prop}(h:wpC M A (eval value env) (fun v B1=>wpAny M A (storeName env x v) (fun _=>Q .next) E B1) E s)
  (hs:autoParam (swapsWith value (some (.Name x pos')) pos.line env=pure false) aR):wpC M A (exec (.Assign [.Name x pos'] value pos) env) Q E s:=fun Γ p hΓ hc=>by
 simp only[exec_Assign_Name env x pos' value pos hs,Sem.wp_bind',Sem.wp_cmd_standAt,Sem.wp_bindName,Sem.wp_pure']
 exact a5D M Γ _ (fun v _ B1 B2=>B2 Γ _ hΓ) (fun _ _ _ h'=>h') _ _ (h Γ _ hΓ hc)
theorem wpC_If {test:Expr}{body orelse:List Stmt}{pos:Pos}{Q:Flow ->Shared ->Prop}(h:wpAny M A (isTrue test env (eval test env)) (fun b B0=>if b then wpC M A (execs body env) Q E B0 else wpC M A (execs orelse env) Q E B0) E s):
  wpC M A (exec (.If test body orelse pos) env) Q E s:=fun Γ p hΓ hc=>by
 simp only[exec_If,Sem.wp_bind',Sem.wp_cmd_standAt]
 refine a5D M Γ _ (fun b I0 B0 B3=>?_) (fun _ _ _ h'=>h') _ _ (h Γ _ hΓ)
 cases b<;>exact B3 Γ I0 hΓ hc
theorem m2w {m:Sem α}{Q:Except Value α ->Shared ->Prop}(h:wpC M A m (fun a=>Q (.ok a)) (fun e=>Q (.error e)) s):wpC M A m.attempt Q E s:=fun Γ p hΓ hc=>by rw[Sem.wp_attempt];exact h Γ p hΓ hc
theorem k3z {m:Sem α}{f:Value ->Sem Unit}{Q:α ->Shared ->Prop}(h:wpC M A m Q (fun e s'=>wpAny M A (f e) (fun _ s''=>E e s'') E s') s):wpC M A (m.onRaise f) Q E s:=fun Γ p hΓ hc=>by
 rw[Sem.wp_onRaise]
 exact a5D M Γ m (fun _ _ _ h'=>h') (fun e p' s' h'=>h' Γ p' hΓ) p s (h Γ p hΓ hc)
theorem k8i {body orelse:List Stmt}{h₀:ExceptHandler}{hs:List ExceptHandler}{pos:Pos}{prog:Program}{w:World}{Q:Flow ->Shared ->Prop}
  (h:wpC (model prog w) A (execs body env) (fun f B1=>match f with| .next=>wpC (model prog w) A (execs orelse env) Q E B1|f=>Q f B1)
   (fun e B1=>wpAny (model prog w) A (noteFrame e env) (fun _ B0=>wpAny (model prog w) A (setFlight e none) (fun _ B5=>wpAny (model prog w) A (handleBy e env (h₀::hs)) Q E B5) E B0) E B1) s):
  wpC (model prog w) A (exec (.Try body (h₀::hs) orelse [] pos) env) Q E s:=by
 rw[arm_exec_Try]
 refine k0d (a3P ?_)
 unfold tryStmt
 simp only[List.isEmpty_nil,a4Q,List.isEmpty_cons,Bool.false_and,a3A,if_false]
 refine k2a (m2w (k0z h (fun f B1 B2=>?_) fun e B1 B2=>?_))
 ·cases f<;>first|exact B2|exact k1z B2
 ·exact k1r (a0A (a2L B2 (fun _ _ B3=>a0A B3) fun _ _ x=>x))
theorem k2q {c:Code}{R:Result ->Shared ->Prop}(h:wpC M (A.under c) (M.den c) (fun fin s'=>match fin with| .done f=>R (.ok f) s'| .again c'=>c'.quiet=true∧k5e M A c' R s') (fun e s'=>R (.error e) s') s):k5e M A c R s:=fun Γ p hcc hΓ hn=>by
 rw[wpCode_iff_wp,hcc]
 refine a5D M Γ _ (fun fin p' s' h'=>?_) (fun _ _ _ h'=>h') p s (h Γ p (hcc▸hΓ.in) (let⟨a,ha⟩:=hn;⟨a,.tail _ ha⟩))
 cases fin with
 |done f=>exact h'
 |again c'=>exact⟨h'.1,h'.2 (Γ.goto c') p' rfl (hΓ.goto c') hn⟩
theorem m4l {f:Value}{pos:List Value}{kw:List (Str×Value)}{Q:Value ->Shared ->Prop}(h:k5e M A (.call f ⟨pos,kw⟩) (fun r s'=>match r with| .ok (.ret v)=>Q v s'| .ok _=>False| .error e=>E e s') s):wpC M A (call f pos kw) Q E s:=fun Γ p hΓ hc=>by
 unfold call
 rw[Sem.wp_runValue];exact h _ p rfl (hΓ.enter _ none p (by intro x;cases x)) hc
end
section
variable {prog:Program}{w:World}{A:Around}{E:Value ->Shared ->Prop}{s:Shared}{R:Result ->Shared ->Prop}
theorem k4f {a:Addr}{args:Args}{o:Obj}{fd:FuncData}{body:List Stmt}(hroom:A.depth<recursionLimit)(ho:s.heap.get? a=some o)
  (hd':o.data=.func fd)(hco:fd.scope.isCoroutine=false)(hgen:fd.scope.isGenerator=false)(hbody:fd.body=.stmts body)(hcd:s.heap.CodeRec fd.code fd.qualname)
  (h:wpAny (model prog w) A.in1 (bindArgs fd args) (fun binds B1=>
   wpAny (model prog w) A.in1 (newFunctionEnv fd.scope fd.globals fd.closure binds (fd.qualname++".<locals>.") (some a) fd.code none fd.builtins)
    (fun env B0=>B0.heap.NoLimit∧k5e (model prog w) A (.func body env) R B0) (fun e s'=>R (.error e) s') B1) (fun e s'=>R (.error e) s') s):
  k5e (model prog w) A (.call (.ref a) args) R s:=by
 refine k2q ?_
 show wpC _ A.in1 (callAny (.ref a) args) _ _ s
 refine k1r ?_
 simp only[callAny]
 refine a0A (wpAny_load ho ?_)
 refine x4a4 hcd fun c oc vs tq hc hoc hdc hq=>?_
 simp only[hd',callFunction,hco,hgen,hbody,hc]
 rw[hc]at h
 refine a0A (m:=field (.ref c) 1) (a2K hoc hdc hq (a0A (a0F ?_)))
 exact a0A (a2L h (fun binds B1 B2=>a0A (a2L B2 (fun env B0 B3=>a0A (wpAny_enterFrame B3.1 hroom
  (a0F (And.intro rfl B3.2)))) fun _ _ h'=>h')) fun _ _ h'=>h')
theorem m6z {body:List Stmt} {env:Env} (h:wpC (model prog w) (A.deeper env) (execs body env) (fun f s'=>R (.ok (.ret (match f with| .ret v=>v|_=>.none))) s')
   (fun e s'=>wpAny (model prog w) (A.deeper env) (leaving env e) (fun _ s''=>R (.error e) s'') (fun e' s''=>R (.error e') s'') s') s):
  k5e (model prog w) A (.func body env) R s:=by
 refine k2q ?_
 show wpC _ (A.deeper env) (do point;match <-(execs body env).onRaise (leaving env)with| .ret v=>ret v|_=>ret .none) _ _ s
 refine k0d (wpAny_point (k2a (k3z (k0z h (fun f s' h'=>?_) fun e s' h'=>?_))))
 ·cases f<;>exact k1z h'
 ·exact a2L h' (fun _ _ q=>q) fun _ _ q=>q
end
theorem p3k {w:World}{A:Around}{s:Shared}{mg mb:Str ->Option Value}{R:Result ->Shared ->Prop}{name qual:Str}{params:Arguments}{body:List Stmt}{scope:Scope}
  {dV kV doc pm cdv ct oc:Value}{an od:Option Addr}{osl:Array (Option Value)}{f:Addr}{args:Args}{binds:List (Str×Value)}
  (X:(hd.heap_1 w.params).In s.heap)(T:TR mg mb s.heap)(hroom:A.depth<recursionLimit)
  (ho:(hd.heap_1 w.params).lookup f=some ⟨oc,od,.func (fnOf name qual params body scope dV kV doc pm an cdv ct),osl⟩)(hcd:codeIn (hd.heap_1 w.params) cdv qual=true)
  (hbind:BindsTo s (fnOf name qual params body scope dV kV doc pm an cdv ct) args binds)(hloc:∀y∈binds,scope.names.lookup y.1=some .local)
  (h:∀B2,Fr s.heap s.heap.objs.size B2 (fun y=>binds.reverse.lookup y) ->
   wpC (model PR w) (A.deeper (envOf qual scope s.heap.objs.size f cdv)) (execs body (envOf qual scope s.heap.objs.size f cdv))
    (fun fl s'=>R (.ok (.ret (match fl with| .ret v=>v|_=>.none))) s') (fun _ _=>False)
    {s with heap:=B2,toks:=s.toks+binds.length})
  (hco:autoParam (scope.isCoroutine=false) aR) (hgen:autoParam (scope.isGenerator=false) aR) (hk:autoParam (scope.kind=.function) aR)
  (hcell:autoParam (∀x∈scope.names,x.2≠ .cell) aD):k5e (model PR w) A (.call (.ref f) args) R s:=by
 refine k4f (fd:=fnOf name qual params body scope dV kV doc pm an cdv ct) (body:=body) hroom (X _ _ ho) rfl hco hgen rfl (codeRec_of X hcd) (hbind _ _ _ _ ?_)
 refine a6I hcell hloc (fun h₀ hns0 hsb0=>⟨T.nolimit.fresh _ hsb0,m6z ?_⟩) hk
 refine k0z (h h₀ ⟨hns0,fun b o e=>hsb0.extBut b o (a0S (a0M e)) (a0C _ e),a0W _⟩) (fun _ _ x=>x) (fun _ _ x=>x.elim)
section
variable {M:Model}{A:Around}{E:Value ->Shared ->Prop}{s:Shared}{env:Env}
theorem k8v {pos:Pos}{T:String}{first:List Value}{args:List (Bool×Sem Value)}{Q:Value ->Shared ->Prop}(hplain:args.any (·.1)=false)
  (h:wpAny M A (evalArgs (.type T) true args []) (fun a B1=>wpC M A (call (.type T) (first++a.pos) a.kw) Q E B1) E s):wpC M A (callWith pos (.type T) first args []) Q E s:=by
 unfold callWith
 refine k0d (a1O (a2L h (fun a B1 B2=>k0d (a3P ?_)) fun _ _ x=>x))
 simp only[hplain,List.any_nil,a6F]
 refine k0d (a0F ?_)
 exact k2a (k0z B2 (fun r B0 hr=>k1r (a0A (a1O (wpAny_point (a0F hr))))) fun _ _ x=>x)
theorem p3q {func:Expr}{args:List Expr}{pos:Pos}{Q:Value ->Shared ->Prop}(h:wpAny M A (eval func env) (fun f B1=>wpC M A (callWith pos f [] (backTo pos (starEach args env)) []) Q E B1) E s)
  (he:autoParam (eval (.Call func args [] pos) env=(do callWith pos (<-eval func env) [] (backTo pos (starEach args env)) (backToKw pos (keywordEach [] env)))) aR):wpC M A (eval (.Call func args [] pos) env) Q E s:=by
 rw[he];exact k0d h
end
structure XsC (C:Cx)(σ:Loc)(ld:Led)(l:List Stmt)(P:Fl ->Loc ->Led ->Prop):Prop where
 run:∀(s:Shared) (Q:Flow ->Shared ->Prop) (E:Value ->Shared ->Prop),Hold C σ ld s ->(∀f fl σ' ld' s',fl.is f ->P fl σ' ld' ->Hold C σ' ld' s' ->Q f s') ->wpC (model PR C.w) C.A (execs l C.env) Q E s
structure X1C (C:Cx)(σ:Loc)(ld:Led)(st:Stmt)(P:Fl ->Loc ->Led ->Prop):Prop where
 run:∀(s:Shared) (Q:Flow ->Shared ->Prop) (E:Value ->Shared ->Prop),Hold C σ ld s ->(∀f fl σ' ld' s',fl.is f ->P fl σ' ld' ->Hold C σ' ld' s' ->Q f s') ->wpC (model PR C.w) C.A (exec st C.env) Q E s
structure ErC (C:Cx)(σ:Loc)(ld:Led)(e:Expr)(bad:Prop)(P:SV ->Led ->Prop):Prop where
 run:∀(s:Shared) (Q:Value ->Shared ->Prop) (E:Value ->Shared ->Prop),Hold C σ ld s ->(∀v sv ld' s',sv.is v ->P sv ld' ->Hold C σ ld' s' ->Q v s') ->
  (bad ->∀a h' tk,(∀b o,s.heap.get? b=some o ->h'.get? b=some o) ->s.heap.get? a=none ->k8g h' a "ValueError" ->E (.ref a) {s with heap:=h',toks:=tk}) ->wpC (model PR C.w) C.A (eval e C.env) Q E s
noncomputable def thenC (C:Cx)(rest:List Stmt)(P:Fl ->Loc ->Led ->Prop):Fl ->Loc ->Led ->Prop
 | .next,σ,ld=>XsC C σ ld rest P
 |f,σ,ld=>P f σ ld
section
variable {C:Cx}{σ:Loc}{ld:Led}{outer:List Env}{x:Str}{e:Expr}{pos px pt ph pa:Pos}{rest:List Stmt}{P:Fl ->Loc ->Led ->Prop}
theorem XsC.gen {l:List Stmt}(h:∀P':Fl ->Loc ->Led ->Prop,(∀f σ ld,P f σ ld ->P' f σ ld) ->XsC C σ ld l P'):XsC C σ ld l P:=h P fun _ _ _ h=>h
theorem XsC.of {l:List Stmt}(h:Xs C σ ld l P):XsC C σ ld l P:=.mk fun s Q E H k=>k1r (h.run s Q E H k)
theorem X1C.of {st:Stmt}(h:X1 C σ ld st P):X1C C σ ld st P:=.mk fun s Q E H k=>k1r (h.run s Q E H k)
theorem XsC.cons {st:Stmt}(h:X1C C σ ld st (thenC C rest P)):XsC C σ ld (st::rest) P:=.mk fun s Q E H k=>by
 refine k3u (h.run s _ E H fun f fl σ' ld' s' hf hp H'=>?_)
 cases fl with
 |next=>obtain rfl:=hf;exact hp.run s' Q E H' k
 |brk=>obtain rfl:=hf;exact k _ .brk σ' ld' s' rfl hp H'
 |cont=>obtain rfl:=hf;exact k _ .cont σ' ld' s' rfl hp H'
 |ret sv=>refine x1a2 hf fun v za hv=>?_;clear hf;obtain rfl:=za;exact k _ (.ret sv) σ' ld' s' ⟨v,rfl,hv⟩ hp H'
theorem XsC.weak {σ₁:Loc}{ld₁:Led}{l:List Stmt}(h:XsC C σ₁ ld₁ l P)(hσ:SubL σ σ₁)(hl:List.Sublist ld₁ ld):XsC C σ ld l P:=.mk fun s Q E H k=>h.run s Q E (H.sub hσ hl) k
theorem X1C.ite {test:Expr}{body orelse:List Stmt}{b:Bool}(h:Tst C σ ld test b)(h1:b=true ->XsC C σ ld body P)(h2:b=false ->XsC C σ ld orelse P):X1C C σ ld (.If test body orelse pos) P:=.mk fun s Q E H k=>by
 refine wpC_If (h.run s _ E H fun c s' g hc=>?_)
 subst hc
 cases c with
 |true=>rw[if_pos rfl];exact(h1 rfl).run s' Q E (H.go g) k
 |false=>rw[if_neg (by decide)];exact(h2 rfl).run s' Q E (H.go g) k
theorem X1C.tryA {bad:Prop}{orelse suite:List Stmt}{E7:Stmt}(G:Gd C)(h:ErC C σ ld e bad fun sv ld'=>XsC C ((x,sv)::σ) ld' orelse P)(h2:bad ->∀a,Xs (C.caught a) σ ld (E7::suite) P)
  (hfr:C.A.frames=some (C.env::outer))(ho:OutF outer ld)(hf:autoParam (C.env.frame=some C.env.locals) aR)(e1:autoParam (nsIn (hd.heap_1 C.w.params) mainGlobals (Str.ofString "ValueError")=some none) aK)(hv:autoParam (C.env.kindOf (Str.ofString "ValueError")=some .globalImplicit) aR)
  (hx:autoParam (C.env.kindOf x=some .local) aR)(hp:autoParam ((C.env.scope.kind==.class|| (C.env.scope.kind==.module&&C.env.locals !=C.env.globals))=false) aR)(hs:autoParam (swapsWith e (some (.Name x px)) pa.line C.env=Pure.pure false) aR):
  X1C C σ ld (.Try [.Assign [.Name x px] e pa] [.ExceptHandler (some (.Name (Str.ofString "ValueError") pt)) none (E7::suite) ph] orelse [] pos) P:=.mk fun s Q E H k=>by
 refine k8i (k3u (k2z (h.run s _ _ H (fun v sv ld' s' hv' p H'=>?_) fun hb a h' tk kp hnew hex=>?_) hs))
 ·obtain⟨m,F,r⟩:=H'.fr
  exact a2M hx F.ns (fun B3 C1 B8=>k1r (a4W (p.run _ Q E (H'.put F r hx hv' B8 C1) k))) hp
 ·refine k7j H kp hnew hex hfr hf G.k ho fun B7 C0 fly=>?_
  refine wpAny_handleBy_builtin (X:="ValueError") (T:="ValueError") (b:=true) m7h m7g m7f (p0u G C0 e1 (by boot_by_name) (by decide+kernel) hv (by decide+kernel) ⟨rfl,fly.is,?_⟩)
  rw[if_pos rfl]
  exact k7v H fly hf ho fun C5 C7=>(h2 hb a).run _ _ _ C7.caught fun f fl σ' ld' s' hf' hp' H'=>k f fl σ' ld' s' hf' hp' H'.uncaught
theorem ErC.int {y:PySem.Str}{np cp:Pos}{P:SV ->Led ->Prop}(G:Gd C)(ha:Ev C σ ld e (.str y))(hz:y.length<=640)(hr:(reprText y).length<=sizeLine)(hP:∀n,PySem.intText? y=some n ->P (.int n) ld)
  (e1:autoParam (nsIn (hd.heap_1 C.w.params) mainGlobals (Str.ofString "int")=some none) aK)(k1:autoParam (C.env.kindOf (Str.ofString "int")=some .globalImplicit) aR)
  (he:autoParam (eval (.Call (N "int" np) [e] [] cp) C.env=(do callWith cp (<-eval (N "int" np) C.env) [] (backTo cp (starEach [e] C.env)) (backToKw cp (keywordEach [] C.env)))) aR)
  (hs:autoParam (starEach [e] C.env=(false,eval e C.env)::starEach [] C.env) aR):ErC C σ ld (.Call (N "int" np) [e] [] cp) (PySem.intText? y=none) P:=.mk fun s Q E H k kE=>by
 refine p3q (k0i G H e1 (by boot_by_name) (by decide+kernel) k1 (by decide+kernel) ?_) he
 refine k8v (by rw[hs];rfl) (k0c hs (a2J (ha.run s _ _ H fun v s' g hv=>a4D ?_) hs))
 obtain⟨t,rfl⟩:=hv
 have H':=H.go g
 cases q:PySem.intText? y with
 |some n=>exact k1r (KIN.call_text q hz (k _ (.int n) ld _ ⟨_,rfl⟩ (hP n q) (H'.toks)))
 |none=>
  obtain⟨kg,hg,tg,rfl⟩:=g
  refine wpC_N (k8e q hz hr G.h fun a h' tk ms me=>?_)
  refine x1a2 me.there fun t' ht' _=>?_
  refine kE q a h' tk (fun b o e=>me.keeps b o (kg b o e)) ?_ ⟨_,_,ht',rfl,rfl,rfl⟩
  cases q2:s.heap.get? a with
  |none=>rfl
  |some o=>have:=kg a o q2;rw[show Heap.get? _ a=none from me.new]at this;cases this
end
section
variable {prog:Program}{w:World}{A:Around}{E:Value ->Shared ->Prop}{s:Shared}
theorem set_at {l:Addr}{its:Array Value}{n:Nat}{k:Int}{t:Tok}{v:Value}{Q:Unit ->Shared ->Prop}(hl:s.heap.get? l=some (listOf its n))(h0:0<=k)(hfit:k<2^63)(hn:k<its.size)
  (hQ:∀n',(s.heap.update l (Obj.mapSeq (·.setIfInBounds k.toNat v))).get? l=some (listOf (its.setIfInBounds k.toNat v) n') ->Q () {s with heap:=s.heap.update l (Obj.mapSeq (·.setIfInBounds k.toNat v))}):wpAny (model prog w) A (setItem (.ref l) (.int k t) v) Q E s:=by
 have hI:s.heap.IsList l its:=⟨_,hl,rfl,n,rfl⟩
 unfold setItem
 try with_reducible refine a1O ?_
 first|refine a0A (a0F ?_)|skip
 refine a0A (wpAny_sequenceKey hI.typeIs (by decide) ?_)
 refine a0A (a1I (name:=Str.ofString "__setitem__") hI.typeIs slot_list_setitem (a2E slot_list_setitem hI.typeIs entry_list_setitem ?_ (args_list_setitem _ _ _)))
 show wpAny _ _ (Builtin.List.listSubscript? (.int k t)>>=_) _ _ s
 refine a0A (wpAny_listSubscript_int (fitsIndex_of h0 hfit) ?_)
 clear hfit
 obtain⟨j,rfl⟩:=a5G h0
 have hj:j<its.size:=om36 hn
 have hx':its[j]?=some its[j]:=a2Z hj
 show wpAny _ _ ((seqItemAt l j>>=fun r=>pure (r.map (j,·)))>>=_) _ _ s
 refine a0A (a0A (wpAny_seqItemAt hl rfl (a0F ?_)))
 rw[hx']
 show wpAny _ _ (setSeqItemAt l j v>>=_) _ _ s
 refine a0A (wpAny_setSeqItemAt hl rfl ?_)
 have fin:=hQ _ (a1G (Obj.mapSeq (·.setIfInBounds j v)) hl rfl)
 first
  |exact a0A (a0F (a0F ⟨.none,rfl,a0F fin⟩))
  |exact a0F ⟨.none,rfl,a0F fin⟩
end
section
variable {C:Cx}{σ:Loc}{ld ld':Led}{x y:PySem.Str}{a b e:Expr}{i:Int}{pos ap cp np px:Pos}{sv:SV}{xs:List SV}{D:Addr}{P:Fl ->Loc ->Led ->Prop}
theorem Are.set {as:List SV}{vs:List Value}{a:SV}{v:Value}(h:Are as vs)(hv:a.is v):∀k,Are (as.set k a) (vs.set k v):=by
 induction h with
 |nil=>intro k;exact .nil
 |cons h0 t ih=>
  intro k
  cases k with
  |zero=>exact .cons hv t
  |succ k=>exact .cons h0 (ih k)
set_option tactic.hygienic true in
theorem X1.setL {j:Nat}(hv:Ev C σ ld e sv)(ha:Ev C σ ld a (SR D))(hb:Ev C σ ld b (.int (j:Int)))(U:LUpd D (.list xs) (.list (xs.set j sv)) ld ld')(hj:j<xs.length)(hz:xs.length<=10000)(p:P .next σ ld')
  (hs:autoParam (swapsWith e (some (.Subscript a b px)) pos.line C.env=Pure.pure false) aR):X1 C σ ld (.Assign [.Subscript a b px] e pos) P:=.mk fun s Q E H k=>by
 refine wpAny_Assign_Subscript (hv.run s _ _ H fun v s1 g1 hv1=>ha.run s1 _ _ (H.go g1) fun v2 s2 g2 hv2=>hb.run s2 _ _ ((H.go g1).go g2) fun v3 s3 g3 hv3=>?_) hs
 obtain rfl:=hv2
 obtain⟨t,rfl⟩:=hv3
 have H3:=((H.go g1).go g2).go g3
 refine x1a3 (H3.led _ U.mem) fun o ho za _=>?_;obtain⟨vs,n,rfl,hA⟩:=za
 have hl:=hA.len
 refine set_at ho (Int.natCast_nonneg j) (Int.lt_of_lt_of_le (Int.ofNat_lt.mpr (a1C hj hz)) (by decide)) (by simp;exact om15 hj hl) fun n' hn'=>?_
 refine k .next .next σ ld' _ rfl p (H3.upd (s':={s3 with heap:=_}) U (fun b o hb e=>(a0O _ _ (Ne.symm hb)).trans e) hn' ⟨vs.set j v,n',by simp,hA.set hv1 j⟩ (C.ok _ _ _ H3.rest))
theorem Tst.ltS (ha:Ev C σ ld a (.str x))(hb:Ev C σ ld b (.str y))(hm:autoParam (behindInMarks .Lt b=false) aU):Tst C σ ld (.Compare a [.Lt] [b] pos) (decide (x.cps.toList<y.cps.toList)):=.mk fun s Q E H k=>by
 refine a1F (ha.run s _ _ H fun v s' g hv=>?_) hm
 obtain⟨t,rfl⟩:=hv
 refine hb.run _ _ _ (H.go g) fun v s'' g' hv=>?_
 obtain⟨u,rfl⟩:=hv
 refine P.lt_str ?_
 walk1
 exact k _ _ (g.trans g') rfl
theorem Ev.strI (G:Gd C)(ha:Ev C σ ld e (.int i))(hi:i.natAbs.log2<1920)(e1:autoParam (nsIn (hd.heap_1 C.w.params) mainGlobals (Str.ofString "str")=some none) aK)(k1:autoParam (C.env.kindOf (Str.ofString "str")=some .globalImplicit) aR)
  (he:autoParam (eval (.Call (N "str" np) [e] [] cp) C.env=(do callWith cp (<-eval (N "str" np) C.env) [] (backTo cp (starEach [e] C.env)) (backToKw cp (keywordEach [] C.env)))) aR)
  (hs:autoParam (starEach [e] C.env=(false,eval e C.env)::starEach [] C.env) aR):Ev C σ ld (.Call (N "str" np) [e] [] cp) (.str (PySem.Str.ofString (toString i))):=.mk fun s Q E H k=>by
 refine Call_ (k0i G H e1 (by boot_by_name) (by decide+kernel) k1 (by decide+kernel) ?_) he
 refine a1J (by rw[hs];rfl) (k0c hs (a2J (ha.run s _ _ H fun v s' g hv=>a4D ?_) hs))
 obtain⟨t,rfl⟩:=hv
 exact P.str_of_int hi (k _ _ (g.trans .tk) ⟨_,rfl⟩)
theorem Tst.ofL (ha:Ev C σ ld e (SR D))(hD:Has C σ ld D (.list xs))(hz:xs.length<=10000)(he:autoParam (∀whole,isTrue e C.env whole=(do let v <-whole;standAt e.pos;holding [v] (truthy v))) aI):Tst C σ ld e (!xs.isEmpty):=.mk fun s Q E H k=>by
 refine isTrue_plain (ha.run s _ _ H fun v s' g hv=>?_) (he _)
 obtain rfl:=hv
 refine x1a2 (hD.isList (H.go g)) fun vs hI hA=>?_
 have hl:=hA.len
 refine wpAny_truthy_list hI (by simp;exact om251 hl hz) ?_
 have:(!vs.toArray.isEmpty)= !xs.isEmpty:=by cases hA<;>simp
 rw[this]
 exact k _ _ (g.trans .tk) rfl
end
theorem wpC_AF {α:Type}{M:Model}{A:Around}{n:Nat}{env1:Env}{t:Sem α}{Q:α ->Shared ->Prop}{E:Value ->Shared ->Prop}{s:Shared}(hA:OkA A n)(hf:A.frames=some [env1])(h:wpC M (AF n env1) t Q E s):wpC M A t Q E s:=
 fun Γ p hΓ hc=>h Γ p ⟨hΓ.1.trans hA.handled,a0H hΓ.2.1 hA.depth,fun l hl=>(by injection hl with hl;subst hl;exact hΓ.2.2.1 _ hf),fun g hg=>(by cases hg),a0H hΓ.2.2.2.2 hA.units⟩ hc
noncomputable def CnH (w:World)(f:Addr)(svs:List SV)(ys:List PySem.Str):Prop:=
 ∀(A:Around) (s:Shared) (Q:Value ->Shared ->Prop) (E:Value ->Shared ->Prop) (vs:List Value) (mg mb:Str ->Option Value) (env1:Env) (F1:Addr) (B4:Obj),(hd.heap_1 w.params).In (hideAll s.heap [F1]) ->TopRead vw loose mg mb (hideAll s.heap [F1]) ->OkA A 0 ->A.frames=some [env1] ->LawFr env1 F1 B4 s.heap ->Are svs vs ->
  (∀D us h' tk sl,(∀b o,b≠F1 ->s.heap.get? b=some o ->h'.get? b=some o) ->h'.get? F1=some {B4 with slots:=sl} ->s.heap.get? D=none ->h'.get? D=some (tupOf us) ->StrsAre us ys ->Q (.ref D) {s with heap:=h',toks:=tk}) ->wpC (model PR w) A (call (.ref f) vs) Q E s
noncomputable def postH (ys:List PySem.Str)(F1:Addr)(B4:Obj):Fl ->Loc ->Led ->Prop
 | .ret sv,_,ld=>∃D,sv=SR D∧(D,SO.tup (ys.map .str))∈ld∧(F1,SO.frm B4)∈ld
 |_,_,_=>False
theorem p0d {w:World}{f:Addr}{svs:List SV}{ys:List PySem.Str}{name qual:Str}{params:Arguments}{body:List Stmt}{scope:Scope}
  {dV kV doc pm cdv ct oc:Value}{an od:Option Addr}{osl:Array (Option Value)}{σ:Loc}{binds:List Value ->List (Str×Value)}
  (ho:(hd.heap_1 w.params).lookup f=some ⟨oc,od,.func (fnOf name qual params body scope dV kV doc pm an cdv ct),osl⟩)(hcd:codeIn (hd.heap_1 w.params) cdv qual=true)
  (hbind:∀vs (s:Shared),Are svs vs ->BindsTo s (fnOf name qual params body scope dV kV doc pm an cdv ct) ⟨vs,[]⟩ (binds vs))(hσ:∀vs,Are svs vs ->BindIs σ (binds vs).reverse)(hloc:∀vs,Are svs vs ->∀y∈binds vs,scope.names.lookup y.1=some .local)
  (h:∀(h₀:Heap) (sh:Shared) (L:Addr) (env1:Env) (F1:Addr) (B4:Obj),let C:Cx:=⟨w,(AF 0 env1).deeper (envOf qual scope L f cdv),envOf qual scope L f cdv,h₀,shapeOf sh,k1l sh⟩
   Gd C ->OutF [env1] [(F1,SO.frm B4)] ->XsC C σ [(F1,SO.frm B4)] body (postH ys F1 B4))
  (hco:autoParam (scope.isCoroutine=false) aR) (hgen:autoParam (scope.isGenerator=false) aR) (hk:autoParam (scope.kind=.function) aR)
  (hcell:autoParam (∀x∈scope.names,x.2≠ .cell) aD):CnH w f svs ys:=by
 intro A s Q E vs mg mb env1 F1 B4 X T hA hfr L1 hvs k
 have X':(hd.heap_1 w.params).In s.heap:=fun a o e=>a5Z _ (X a o e)
 have T':TopRead vw loose mg mb s.heap:=T.keeps fun b o e=>a5Z _ e
 refine wpC_AF hA hfr (m4l (p3k X' T' (kb rfl) ho hcd (hbind vs s hvs) (hloc vs hvs) (fun B2 F=>?_) hco hgen hk hcell))
 have hlt:F1<s.heap.objs.size:=a0M L1.get
 have H:Hold ⟨w,(AF 0 env1).deeper (envOf qual scope s.heap.objs.size f cdv),envOf qual scope s.heap.objs.size f cdv,hideAll s.heap [F1],shapeOf s,k1l s⟩ σ [(F1,SO.frm B4)] {s with heap:=B2,toks:=s.toks+(binds vs).length}:=by
  refine⟨⟨_,⟨F.ns,fun b o e=>F.keep b o (a5Z _ e),a4L (hideAll_size _ _)⟩,fun x sv e=>?_⟩,fun p hp=>?_,(fun _ h=>nomatch h),a1L.mpr ⟨a0Z,a1U⟩,⟨_,_,rfl⟩⟩
  ·refine x1a2 ((hσ vs hvs).get x sv e) fun v hv q=>?_
   exact⟨v,q,.inl ⟨hloc vs hvs _ (a4F.mp (k0a hv)),hv⟩⟩
  ·rw[a0B.mp hp]
   exact⟨B4,F.keep _ _ L1.get,⟨B4.slots,rfl⟩,a0S hlt,hideAll_none _ (a0B.mpr rfl)⟩
 refine(h (hideAll s.heap [F1]) s s.heap.objs.size env1 F1 B4 ⟨X,⟨mg,mb,T⟩,rfl,rfl,hk,rfl⟩ (fun env he=>?_)).run _ _ _ H fun f fl σ' ld' s' hf hp H'=>?_
 ·rw[a0B.mp he]
  exact⟨L1.kind,F1,B4,L1.frame,.head _,L1.data⟩
 ·cases fl with
  |ret sv=>
   refine x1a2 hf fun v za hv=>?_;clear hf;obtain rfl:=za
   refine x1a3 hp fun D za hD hm=>?_;clear hp;obtain rfl:=za
   obtain rfl:=hv
   refine x1a2 H'.fr fun m F' _=>?_
   refine x1a3 (H'.led _ hm) fun o e1 za _=>?_;obtain⟨sl,rfl⟩:=za
   refine x1a4 (H'.led _ hD) fun o2 e2 za _ h0=>?_;obtain⟨us,rfl,hus⟩:=za
   refine ex2 H'.rest fun h' tk za=>?_;obtain rfl:=za
   refine k D us h' tk sl (fun b o hb e=>F'.keep b o (a4R _ e fun q=>hb (a0B.mp q))) e1 ?_ e2 hus.strs
   cases q:s.heap.get? D with
   |none=>rfl
   |some o=>
    by_cases hDF:D=F1
    ·have:=(k7m (a1E.mp H'.nodup).2.1 hD (hDF▸hm))
     cases this
    ·have:=a4R [F1] q fun z=>hDF (a0B.mp z)
     rw[show(hideAll s.heap [F1]).get? D=none from h0]at this
     cases this
  |next=>exact hp.elim
  |brk=>exact hp.elim
  |cont=>exact hp.elim
section
variable {C:Cx}{σ:Loc}{ld ld':Led}{x y z:PySem.Str}{a b e:Expr}{pos:Pos}{p1 p2 p3:Pos}{k1 k2 k3:Nat}
theorem Tst.in2 (ha:Ev C σ ld a (.str x)):Tst C σ ld (.Compare a [.In] [.Tuple [.Constant (.str y) k1 p1,.Constant (.str z) k2 p2] k3 p3] pos) ([y,z].any fun w=>w==x):=.mk fun s Q E H k=>by
 refine a1F (ha.run s _ _ H fun v s' g hv=>?_) (by with_unfolding_all rfl)
 obtain⟨t,rfl⟩:=hv
 repeat walk1
 refine a6M ?_
 refine SeqAt.in_tupleAt (items:=[Value.str y s'.toks,Value.str z (s'.toks+1)].toArray) (fun v=>match v with| .str w _=>w==x|_=>false) ⟨_,a0I _ rfl,rfl,_,rfl⟩ (fun v hv=>?_) ?_
 ·rcases a0G.mp (show v∈[Value.str y s'.toks,Value.str z (s'.toks+1)] by simpa using hv)with rfl|hv
  ·exact SeqAt.EqAt.str_str _ _ _ _
  ·rw[a0B.mp hv]
   exact SeqAt.EqAt.str_str _ _ _ _
 walk1
 exact k _ _ (g.trans (.of fun b o e=>a0C _ e)) (by simp)
end
section
variable {C:Cx}{σ:Loc}{ld:Led}
set_option tactic.hygienic true in
theorem X1.pass {P:Fl ->Loc ->Led ->Prop}{pos:Pos}(p:P .next σ ld):X1 C σ ld (.Pass pos) P:=.mk fun s Q E H k=>wpAny_Pass (k .next .next σ ld s rfl p H)
theorem XsC.app {D9:List Stmt}{P:Fl ->Loc ->Led ->Prop}:∀ {E1:List Stmt} {σ:Loc} {ld:Led},XsC C σ ld E1 (thenC C D9 P) ->XsC C σ ld (E1++D9) P:=by
 intro E1 σ ld h
 refine .mk fun s Q E H k=>?_
 intro Γ p hΓ hc
 rw[k1q]
 refine h.run s (fun f s'=>match f with| .next=>wpC (model PR C.w) C.A (execs D9 C.env) Q E s'|f=>Q f s') E H (fun f fl σ' ld' s' hf hp H'=>?_) Γ p hΓ hc|>a5D _ Γ _ (fun f p' s' h'=>?_) (fun _ _ _ h'=>h') _ _
 ·cases f with
  |next=>exact h' Γ p' hΓ hc
  |brk=>exact h'
  |cont=>exact h'
  |ret v=>exact h'
 ·cases fl with
  |next=>obtain rfl:=hf;exact hp.run s' Q E H' k
  |brk=>obtain rfl:=hf;exact k _ .brk σ' ld' s' rfl hp H'
  |cont=>obtain rfl:=hf;exact k _ .cont σ' ld' s' rfl hp H'
  |ret sv=>refine x1a2 hf fun v za hv=>?_;clear hf;obtain rfl:=za;exact k _ (.ret sv) σ' ld' s' ⟨v,rfl,hv⟩ hp H'
theorem XsC.mono {l:List Stmt}{P P':Fl ->Loc ->Led ->Prop}(h:XsC C σ ld l P')(m:∀f σ ld,P' f σ ld ->P f σ ld):XsC C σ ld l P:=.mk fun s Q E H k=>h.run s Q E H fun f fl σ' ld' s' hf hp H'=>k f fl σ' ld' s' hf (m _ _ _ hp) H'
theorem XsC.cut {P:Fl ->Loc ->Led ->Prop}(n:Nat){l:List Stmt}(K:Loc ->Led ->Prop)(h1:XsC C σ ld (l.take n) (cutP K P))(h2:∀σ ld,K σ ld ->XsC C σ ld (l.drop n) P):XsC C σ ld l P:=by
 rw[show l=l.take n++l.drop n from(a5T n l).symm]
 refine XsC.app (h1.mono fun f σ' ld' hp=>?_)
 cases f with
 |next=>refine x2a3 hp fun σ₁ ld₁ hK a b=>?_;exact(h2 _ _ hK).weak a b
 |brk=>exact hp
 |cont=>exact hp
 |ret sv=>exact hp
end
theorem fill_CF:PySem.Challenge.rw_in0310_01=PySem.Challenge.rw_in0310_01∧hd.heap_1=hd.heap_1:=by
 k_fill
 exact⟨rfl,rfl⟩
noncomputable abbrev T (x:String):PySem.Str:=PySem.Str.ofString x
noncomputable def k3k (r:PySem.Str):PySem.Str:=match Txt.split r (T ".")with
 | []=>r
 |p::ps=>match PySem.intText? p with
  |some n=>Txt.join (T ".") (PySem.Str.ofString (toString (n-3))::ps)
  |none=>r
noncomputable def k1w (k r v:PySem.Str):List PySem.Str:=
 if(k==T "SunOS")=true then(if decide (r.cps.toList<(T "5").cps.toList)=true then [k,r,v]else [T "Solaris",k3k r,v])
 else if([T "win32",T "win16"].any fun w=>w==k)=true then [T "Windows",r,v]else [k,r,v]
theorem p2x {w:World}{k r v:PySem.Str}(hr:r.length<=300)(hz:∀p∈Txt.split r (T "."),(reprText p).length<=sizeLine)(hi:∀p∈Txt.split r (T "."),∀n,PySem.intText? p=some n ->(n-3).natAbs.log2<1920∧(PySem.Str.ofString (toString (n-3))).length<=1000):
  CnH w 36 [.str k,.str r,.str v] (k1w k r v):=by
 refine p0d (σ:=[(Str.ofString "version",.str v),(Str.ofString "release",.str r),(Str.ofString "system",.str k)]) (binds:=fun vs=>[(Str.ofString "system",vs.headD .none),(Str.ofString "release",vs.getD 1 .none),(Str.ofString "version",vs.getD 2 .none)]) (by k_is) (by k_is) (fun vs s h=>?_) (fun vs h=>?_) (fun vs h=>?_) (fun h₀ sh L env1 F1 B4=>?_)
 ·refine x3a4 h.three fun _ _ _ za zb zc zx=>ex1 zx fun u2 zd=>?_;clear zx;obtain rfl:=za;obtain⟨t,rfl⟩:=zb;obtain⟨u,rfl⟩:=zc;obtain rfl:=zd
  exact a1V rfl
 ·refine x3a4 h.three fun _ _ _ za zb zc zx=>ex1 zx fun u2 zd=>?_;clear zx;obtain rfl:=za;obtain⟨t,rfl⟩:=zb;obtain⟨u,rfl⟩:=zc;obtain rfl:=zd
  exact .cons ⟨_,rfl⟩ (.cons ⟨_,rfl⟩ (.cons ⟨_,rfl⟩ .nil))
 ·exact locs rfl
 intro C G ho
 refine XsC.cons (X1C.ite (Tst.eqS (Ev.name (by with_unfolding_all rfl)) Ev.a0) (fun q=>?_) (fun q=>?_))
 ·refine XsC.cons (X1C.ite (Tst.ltS (Ev.name (by with_unfolding_all rfl)) Ev.a0) (fun q2=>?_) (fun q2=>?_))
  ·refine XsC.of (Xs.cons (X1.ret (Ew.tuple (EwL.pure (.cons (Ev.name (by with_unfolding_all rfl)) (.cons (Ev.name (by with_unfolding_all rfl)) (.cons (Ev.name (by with_unfolding_all rfl)) .nil))) ⟨by simp,fun D=>?_⟩))))
   refine⟨D,rfl,?_,.tail _ (.head _)⟩
   rw[show k1w k r v=[k,r,v]from by unfold k1w;rw[if_pos q,if_pos q2]]
   exact .head _
  ·refine XsC.of (Xs.nil ?_)
   show XsC C _ _ (_::_) _
   refine XsC.cons (X1C.of (X1.a0 (Ew.a5 (Ev.name (by with_unfolding_all rfl)) Ev.a0 (by decide+kernel) (om320 hr) fun D=>?_)))
   show XsC C _ _ (_::_) _
   refine XsC.cut 1 (fun σ ld=>σ=[(Str.ofString "version",.str v),(Str.ofString "release",.str (k3k r))]∧ld=[(F1,SO.frm B4)]) ?_ ?_
   ·show XsC C _ _ [_] _
    have hparts:AllLen 300 (Txt.split r (T ".")):=k0f (k0s _ _) hr
    have hcount:=k0l r (T ".")
    cases hsp:Txt.split r (T ".")with
    |nil=>
     refine XsC.cons (X1C.ite (Tst.ofL (Ev.name (by with_unfolding_all rfl)) (Has.mem (.head _)) (by simp)) (fun q3=>by simp at q3) (fun q3=>?_))
     refine XsC.of (Xs.nil ?_)
     show XsC C _ _ [] _
     refine XsC.of (Xs.nil ?_)
     exact⟨_,_,⟨rfl,rfl⟩,⟨by with_unfolding_all rfl,by rw[show k3k r=r from by unfold k3k;rw[hsp]];with_unfolding_all rfl,trivial⟩,.cons _ (.refl _)⟩
    |cons p ps=>
     rw[hsp]at hz hi hparts hcount
     simp only[a0Q]at hcount
     refine XsC.cons (X1C.ite (Tst.ofL (Ev.name (by with_unfolding_all rfl)) (Has.mem (.head _)) (by simp;exact om132 hcount hr)) (fun q3=>?_) (fun q3=>by simp at q3))
     refine XsC.cons (X1C.tryA (outer:=[env1]) G (ErC.int G (Ev.a7 (sv:=.str p) (Ev.name (by with_unfolding_all rfl)) (Has.mem (.head _)) Ev.a1 (by decide) rfl (by decide)) (a0H (hparts p (.head _)) (by decide)) (hz p (.head _)) fun n hn=>?_) (fun hno a=>?_) rfl (fun env he=>let⟨k,F,o,a,b,c⟩:=ho env he;⟨k,F,o,a,.tail _ b,c⟩))
     ·obtain⟨b1,b2⟩:=hi p (.head _) n hn
      refine XsC.of (Xs.cons (X1.a0 (Ew.pure (Ev.a6 (Ev.name (by with_unfolding_all rfl)) Ev.a1 Opr.subI) ?_)))
      show Xs C _ _ (_::_) _
      refine Xs.cons (X1.setL (j:=0) (Ev.strI G (Ev.name (by with_unfolding_all rfl)) b1) (Ev.name (by with_unfolding_all rfl)) Ev.a1 .head (by simp) (by simp;exact om132 hcount hr) ?_)
      show Xs C _ _ [_] _
      refine Xs.cons (X1.a0 (Ew.pure (Ev.a9 (ts:=PySem.Str.ofString (toString (n-3))::ps) Ev.a0 (Ev.name (by with_unfolding_all rfl)) (Has.mem (.head _)) (k0k b2 (fun z hz=>a0H (hparts z (.tail _ hz)) (by decide))) (by simp;exact om358 hcount hr) (by decide+kernel)) ?_))
      show Xs C _ _ [] _
      refine Xs.nil ?_
      show XsC C _ _ [] _
      refine XsC.of (Xs.nil ?_)
      show XsC C _ _ [] _
      refine XsC.of (Xs.nil ?_)
      exact⟨_,_,⟨rfl,rfl⟩,⟨by with_unfolding_all rfl,by rw[show k3k r=Txt.join (T ".") (PySem.Str.ofString (toString (n-3))::ps)from by unfold k3k;rw[hsp];dsimp only;rw[hn]];with_unfolding_all rfl,trivial⟩,.cons _ (.refl _)⟩
     ·refine Xs.cons (X1.pass ?_)
      show Xs (C.caught a) _ _ [] _
      refine Xs.nil ?_
      show XsC C _ _ [] _
      refine XsC.of (Xs.nil ?_)
      show XsC C _ _ [] _
      refine XsC.of (Xs.nil ?_)
      exact⟨_,_,⟨rfl,rfl⟩,⟨by with_unfolding_all rfl,by rw[show k3k r=r from by unfold k3k;rw[hsp];dsimp only;rw[hno]];with_unfolding_all rfl,trivial⟩,.cons _ (.refl _)⟩
   ·rintro σ ld ⟨rfl,rfl⟩
    show XsC C _ _ [_] _
    refine XsC.cons (X1C.ite (Tst.ltS (Ev.name (by with_unfolding_all rfl)) Ev.a0) (fun q3=>?_) (fun q3=>?_))
    all_goals
     refine XsC.cons (X1C.of (X1.a0 (Ew.pure Ev.a0 ?_)))
     show XsC C _ _ [] _
     refine XsC.of (Xs.nil ?_)
     show XsC C _ _ [] _
     refine XsC.of (Xs.nil ?_)
     show XsC C _ _ [_] _
     refine XsC.of (Xs.cons (X1.ret (Ew.tuple (EwL.pure (.cons (Ev.name (by with_unfolding_all rfl)) (.cons (Ev.name (by with_unfolding_all rfl)) (.cons (Ev.name (by with_unfolding_all rfl)) .nil))) ⟨by simp,fun D=>?_⟩))))
     refine⟨D,rfl,?_,.tail _ (.head _)⟩
     rw[show k1w k r v=[T "Solaris",k3k r,v]from by unfold k1w;rw[if_pos q,if_neg (by rw[q2];decide)]]
     exact .head _
 ·refine XsC.cons (X1C.ite (Tst.in2 (Ev.name (by with_unfolding_all rfl))) (fun q2=>?_) (fun q2=>?_))
  ·refine XsC.cons (X1C.of (X1.a0 (Ew.pure Ev.a0 ?_)))
   show XsC C _ _ [] _
   refine XsC.of (Xs.nil ?_)
   show XsC C _ _ [] _
   refine XsC.of (Xs.nil ?_)
   show XsC C _ _ [_] _
   refine XsC.of (Xs.cons (X1.ret (Ew.tuple (EwL.pure (.cons (Ev.name (by with_unfolding_all rfl)) (.cons (Ev.name (by with_unfolding_all rfl)) (.cons (Ev.name (by with_unfolding_all rfl)) .nil))) ⟨by simp,fun D=>?_⟩))))
   refine⟨D,rfl,?_,.tail _ (.head _)⟩
   rw[show k1w k r v=[T "Windows",r,v]from by unfold k1w;rw[if_neg (by rw[q];decide),if_pos q2]]
   exact .head _
  ·refine XsC.of (Xs.nil ?_)
   show XsC C _ _ [] _
   refine XsC.of (Xs.nil ?_)
   show XsC C _ _ [_] _
   refine XsC.of (Xs.cons (X1.ret (Ew.tuple (EwL.pure (.cons (Ev.name (by with_unfolding_all rfl)) (.cons (Ev.name (by with_unfolding_all rfl)) (.cons (Ev.name (by with_unfolding_all rfl)) .nil))) ⟨by simp,fun D=>?_⟩))))
   refine⟨D,rfl,?_,.tail _ (.head _)⟩
   rw[show k1w k r v=[k,r,v]from by unfold k1w;rw[if_neg (by rw[q];decide),if_neg (by rw[q2];decide)]]
   exact .head _
section
variable {prog:Program}{w:World}{A:Around}{E:Value ->Shared ->Prop}{s:Shared}{R:Result ->Shared ->Prop}{m t I:Addr}{g:Value}{fp wr:List Addr}{n:Nat}{P:Nat ->Value ->Prop}{St:Nat ->Heap ->Prop}
theorem m6v {K:Around ->Prop}{S:Addr}{c0:Nat}{res:Value}(W:NextAt prog w m (m::t::fp) wr n P "StopIteration" (k5u m t I g St) K)(hst:k5u m t I g St 0 s.heap)(hSf:S∉m::t::fp)(hn:n<=sizeLine)(hh:K A.in1)(hS:s.heap.get? S=some (listOf #[] c0))
  (hR:∀h' tk acc c,(∀b o,b∉wr ->b≠S ->s.heap.get? b=some o ->h'.get? b=some o) ->h'.get? S=some (listOf acc c) ->acc.size=n ->(∀j v,acc[j]?=some v ->P j v) ->R (.ok (.ret res)) {s with heap:=h',toks:=tk}):
  wpAny (model prog w) A.in1 (Builtin.List.listExtendWith (.ref S) (.ref m) res) (fun fin s'=>match fin with| .done f=>R (.ok f) s'| .again c'=>c'.quiet=true∧codeAny (model prog w) A c' R s') (fun e s'=>R (.error e) s') s:=by
 unfold Builtin.List.listExtendWith
 have hT:s.TypeIs (.ref m) "map":=⟨_,hst.1,rfl⟩
 refine a0A (wpAny_typeOf hT ?_)
 have hSm:S≠m:=fun e=>hSf (e▸ .head _)
 have h1:Builtin.List.listSameRef (.ref S) (.ref m)=false:=by simp[Builtin.List.listSameRef,hSm]
 have h2:(Value.type "map"==Value.type "list")=false:=by decide
 have h3:(Value.type "map"==Value.type "tuple")=false:=by decide
 simp only[h1,h2,h3,a6F,a3A,if_false]
 refine a0A (k5m hst.1 ?_)
 refine a0A (a1O ?_)
 unfold Builtin.List.listLengthHint
 refine a0A (a4B hT k9h ?_)
 show wpAny _ _ (specialOf (Value.ref m) (Str.ofString "__length_hint__")>>=_) _ _ _
 refine a0A (a4B hT k7q ?_)
 refine a0F ?_
 show wpAny _ A.in1 (rule "list.extend.makes-room">>=fun _=>Builtin.List.listTouch (.ref S)>>=fun _=>again (.builtin "list.extend.loop" ⟨[.ref S,.ref m,res],[]⟩)) _ _ _
 refine a0A (a5Y ?_)
 refine a0A ?_
 show wpAny _ A.in1 (updateSeq S (·.push .none)>>=fun _=>updateSeq S (·.pop)) _ _ _
 refine a0A (a2X hS rfl ?_)
 have E6:=a1G (Obj.mapSeq (·.push Value.none)) hS rfl
 refine a2X (hz:=by seq_fits) E6 rfl ?_
 have hS4:=a1G (Obj.mapSeq (·.pop)) E6 rfl
 have oth4:∀b o,b≠S ->s.heap.get? b=some o ->((s.heap.update S (Obj.mapSeq (·.push Value.none))).update S (Obj.mapSeq (·.pop))).get? b=some o:=
  fun b o hb e=>(a0O _ _ (Ne.symm hb)).trans ((a0O _ _ (Ne.symm hb)).trans e)
 refine a0F ⟨a1Z a3Z _,m5e W hh (.inl rfl) hSf hn res n 0 _ #[] _ rfl (a0R _) (W.frame 0 _ _ hst fun b hb o e=>oth4 b o (fun q=>hSf (q▸hb)) e) hS4 rfl (fun j v h=>by simp at h) (fun _ h' tk acc c hk hD h1 h2=>?_) fun hx=>absurd hx (by decide)⟩
 exact hR h' tk acc c (fun b o hb hbS e=>hk b o hb hbS (oth4 b o hbS e)) hD h1 h2
theorem m4c {K:Around ->Prop}{Q:List Value ->Shared ->Prop}(W:NextAt prog w m (m::t::fp) wr n P "StopIteration" (k5u m t I g St) K)(hst:k5u m t I g St 0 s.heap)(hfp:∀b∈m::t::fp,b<s.heap.objs.size)(hn:n<=sizeLine)(hh:K A.in1)
  (hQ:∀(h':Heap) (tk:Tok) (acc:Array Value),(∀b o,b∉wr ->s.heap.get? b=some o ->h'.get? b=some o) ->acc.size=n ->(∀j v,acc[j]?=some v ->P j v) ->Q acc.toList {s with heap:=h',toks:=tk}):wpAny (model prog w) A (collect (.ref m)) Q E s:=by
 have hSf:s.heap.objs.size∉m::t::fp:=fun hm=>a1R _ (hfp _ hm)
 unfold collect
 refine a0A (wpAny_runValue (a2D F.entry_proto_collect ?_))
 rw[a1H F.plain_proto_collect _]
 show wpAny _ A.in1 (newList []>>=fun l=>again (.builtin "list.__iadd__" ⟨[l,.ref m],[]⟩)) _ _ s
 refine a0A (a2U ?_)
 have nS:∀b o,s.heap.get? b=some o ->b≠s.heap.objs.size:=fun b o e=>a0S (a0M e)
 refine a0F ⟨a1Z F.plain_list_iadd _,codeAny_mono (R:=fun r s'=>∃(h':Heap) (tk:Tok) (acc:Array Value) (c:Nat),r=.ok (.ret (.ref s.heap.objs.size))∧s'={s with heap:=h',toks:=tk}∧(∀b o,b∉wr ->s.heap.get? b=some o ->h'.get? b=some o)∧h'.get? s.heap.objs.size=some (listOf acc c)∧acc.size=n∧∀j v,acc[j]?=some v ->P j v)
  (a2D F.entry_list_iadd ?_) fun r s' h=>?_⟩
 ·rw[a1H F.plain_list_iadd _]
  have hS1:(s.heap.push {cls:=.type "list",data:=.seq ([]:List Value).toArray}).get? s.heap.objs.size=some (listOf #[] 0):=a0I _ rfl
  show wpAny _ A.in1 (Builtin.List.listExtendWith (.ref s.heap.objs.size) (.ref m) (.ref s.heap.objs.size)) _ _ _
  exact m6v (R:=fun r s'=>∃(h':Heap) (tk:Tok) (acc:Array Value) (c:Nat),r=.ok (.ret (.ref s.heap.objs.size))∧s'={s with heap:=h',toks:=tk}∧(∀b o,b∉wr ->s.heap.get? b=some o ->h'.get? b=some o)∧h'.get? s.heap.objs.size=some (listOf acc c)∧acc.size=n∧∀j v,acc[j]?=some v ->P j v) (s:={s with heap:=s.heap.push {cls:=.type "list",data:=.seq ([]:List Value).toArray}}) W (W.frame 0 _ _ hst fun b _ o e=>a0C _ e) hSf hn hh hS1 fun h' tk acc c hk hD h1 h2=>
   ⟨h',tk,acc,c,rfl,rfl,fun b o hb e=>hk b o hb (nS b o e) (a0C _ e),hD,h1,h2⟩
 ·refine x4a6 h fun h' tk acc c za zb hk hD h1 h2=>?_;clear h;refine eq2 za zb ?_;clear za zb
  show wpAny _ A (load s.heap.objs.size>>=_) _ _ _
  refine a0A (wpAny_load hD ?_)
  exact a0F (hQ h' tk acc hk h1 h2)
end
section
variable {prog:Program}{w:World}{A:Around}{E:Value ->Shared ->Prop}{s:Shared}{m t I:Addr}{g:Value}{fp wr:List Addr}{n:Nat}{P:Nat ->Value ->Prop}{St:Nat ->Heap ->Prop}
theorem k8t {K:Around ->Prop}{Q₁:Value ->Shared ->Prop}(W:NextAt prog w m (m::t::fp) wr n P "StopIteration" (k5u m t I g St) K)(hst:k5u m t I g St 0 s.heap)(hfp:∀b∈m::t::fp,b<s.heap.objs.size)(hn:n<=sizeLine)(hh:K A.in1.in1)
  (h:∀(h':Heap) (tk:Tok) (acc:Array Value),(∀b o,b∉wr ->s.heap.get? b=some o ->h'.get? b=some o) ->acc.size=n ->(∀j v,acc[j]?=some v ->P j v) ->Q₁ (.ref h'.objs.size) {s with heap:=h'.push {cls:=.type "tuple",data:=.seq acc},toks:=tk}):
  codeAny (model prog w) A (.call (.builtin "tuple.__new__") ⟨[.type "tuple",.ref m],[]⟩) (wants Q₁ E) s:=by
 refine codeAny_of_tree ?_
 show wpAny _ A.in1 (do checkBuiltinCall "tuple.__new__" ⟨[.type "tuple",.ref m],[]⟩;again (.builtin "tuple.__new__" ⟨[.type "tuple",.ref m],[]⟩)) _ _ s
 refine a0A (a5A (F.newCall_tuple_1 _) (a0F ⟨a1Z F.plain_tuple_new _,a2D F.entry_tuple_new ?_⟩))
 rw[a1H F.plain_tuple_new _]
 have hsub:=sub_tuple_self
 have hinit:=init_tuple_lookup
 have hmh:=madeHere_tuple
 have hTI:s.TypeIs (.ref m) "map":=⟨_,hst.1,rfl⟩
 have hh1:K A.in1.in1:=hh
 wp_walk using wpAny_typeOf hTI,m4c W hst hfp hn hh1
 intro h' tk acc hk h1 h2
 show wpAny _ _ (Builtin.Tuple.tupleExact acc.toList.toArray>>=fun v=>ret v) _ _ _
 unfold Builtin.Tuple.tupleExact
 refine a0A (a2U ?_ (by show acc.toList.toArray.size<=sizeLine;simp only[Array.toArray_toList];rw[h1];exact hn))
 refine a0F ?_
 have e:acc.toList.toArray=acc:=by simp
 rw[e]
 exact h h' tk acc hk h1 h2
theorem k8u {K:Around ->Prop}{Q:Value ->Shared ->Prop}(W:NextAt prog w m (m::t::fp) wr n P "StopIteration" (k5u m t I g St) K)(hst:k5u m t I g St 0 s.heap)(hfp:∀b∈m::t::fp,b<s.heap.objs.size)(hn:n<=sizeLine)(hh:K A.in1.in1.in1)
  (hQ:∀(h':Heap) (tk:Tok) (acc:Array Value),(∀b o,b∉wr ->s.heap.get? b=some o ->h'.get? b=some o) ->acc.size=n ->(∀j v,acc[j]?=some v ->P j v) ->Q (.ref h'.objs.size) {s with heap:=h'.push {cls:=.type "tuple",data:=.seq acc},toks:=tk}):
  wpAny (model prog w) A (call (.type "tuple") [.ref m]) Q E s:=by
 refine callType_codes (Q₁:=fun obj B1=>B1.TypeIs obj "tuple"∧Q obj B1) F.called_tuple (F.typeCall_tuple_1 _) F.entry_object_init
  (k8t W hst hfp hn hh fun h' tk acc hk h1 h2=>⟨⟨_,a0I _ rfl,rfl⟩,hQ h' tk acc hk h1 h2⟩) fun obj B1 B2=>?_
 exact⟨B2.1,F.args_object_init_2 obj _,object_init_meets F.called_tuple.init.lookup F.called_tuple.made (by decide) prog w A.in1 _ B1 ⟨B2.1,rfl,B2.2⟩⟩
end
section
variable {C:Cx}{σ σ0:Loc}{ld B9:Led}{s s':Shared}{wr:List Addr}
noncomputable def bindAll:List (Str×Pos) ->List SV ->Loc ->Loc
 |n::ns,a::as,σ=>bindAll ns as ((n.1,a)::σ)
 |_,_,σ=>σ
theorem p0l {Q:Unit ->Shared ->Prop}{E:Value ->Shared ->Prop}{as:List SV}{vs:List Value}(hp:(C.env.scope.kind==.class|| (C.env.scope.kind==.module&&C.env.locals !=C.env.globals))=false)(hA:Are as vs):∀(ns:List (Str×Pos)) (σ:Loc) (s:Shared),ns.length=as.length ->Hold C σ ld s ->(∀n∈ns,C.env.kindOf n.1=some .local) ->(∀s',Hold C (bindAll ns as σ) ld s' ->Q () s') ->
  wpAny (model PR C.w) C.A (assignInOrder (ns.map fun n=>assign (.Name n.1 n.2) C.env) vs) Q E s:=by
 induction hA with
 |nil=>
  intro ns σ s e H _ k
  obtain rfl:ns=[]:=a3G e
  exact assignInOrder_nil (k s H)
 |cons hv t ih=>
  intro ns σ s e H hl k
  cases ns with
  |nil=>cases e
  |cons n ns=>exact assignInOrder_cons (k6t hv H (hl n (.head _)) hp fun s' H'=>ih ns _ s' (by simpa using e) H' (fun m hm=>hl m (.tail _ hm)) k)
theorem m0z (ns:List (Str×Pos))(env:Env):(assignEach (ns.map fun n=>Expr.Name n.1 n.2) env)=ns.map fun n=>(false,assign (.Name n.1 n.2) env):=by
 induction ns with
 |nil=>rfl
 |cons n ns ih=>rw[a0P,a0P,<-ih];rfl
theorem k5h {ns:List (Str×Pos)}{as:List SV}{vs:List Value}{T:Addr}{k:Nat}{tp:Pos}{Q:Unit ->Shared ->Prop}{E:Value ->Shared ->Prop}(G:C.A.handled=none)(ht:s.heap.IsTuple T vs.toArray)(hA:Are as vs)(e:ns.length=as.length)(H:Hold C σ ld s)
  (hl:∀n∈ns,C.env.kindOf n.1=some .local)(hp:(C.env.scope.kind==.class|| (C.env.scope.kind==.module&&C.env.locals !=C.env.globals))=false)
  (h:∀s',Hold C (bindAll ns as σ) ld s' ->Q () s'):wpAny (model PR C.w) C.A (assign (.Tuple (ns.map fun n=>Expr.Name n.1 n.2) k tp) C.env (.ref T)) Q E s:=by
 refine wpAny_assign_Tuple G ht (by rw[m0z];simp[e,hA.len]) ?_ fun h' he=>?_
 ·rw[m0z,List.findIdx?_eq_none_iff]
  intro p hp
  refine x1a2 (a0K.mp hp) fun q _ za=>?_;obtain rfl:=za
  rfl
 ·rw[m0z,a1X]
  have H':Hold C σ ld {s with heap:=h'}:=H.grow (fun b o q=>he b o (a0S (a0M q)) q) (C.ok _ _ _ H.rest)
  exact p0l hp hA ns σ _ e H' hl h
theorem Hold.iters (hn:wr.Nodup)(H:Hold C σ ld s)(g:Grow s s')(hw:∀b∈wr,s.heap.get? b=none)(hl:∀b∈wr,∃o,s'.heap.get? b=some o):Hold C σ (ld++its wr fun b=>(s'.heap.get? b).getD default) s':=by
 have G:=H.go g
 refine x1a2 H.fr fun m F r=>?_
 have ne:∀b∈wr,∀c o,s.heap.get? c=some o ->c≠b:=fun b hb c o e q=>by rw[q,hw b hb]at e;cases e
 refine⟨G.fr,fun p hp=>?_,G.cel,?_,G.rest⟩
 ·rcases a0V.mp hp with hp|hp
  ·exact G.led p hp
  ·refine x1a2 (a0K.mp hp) fun b hb za=>?_;obtain rfl:=za
   obtain⟨o,ho⟩:=hl b hb
   obtain⟨oL,hL⟩:=H.loc
   exact⟨o,ho,by show o=(s'.heap.get? b).getD default;rw[ho];rfl,fun q=>ne b hb _ _ hL q.symm,k0e F.keep (hw b hb)⟩
 ·rw[a0U,k5q]
  have nd:=H.nodup
  rw[<-a6E,a1E]
  refine⟨nd,hn,fun a ha b hb q=>?_⟩
  rcases a0V.mp ha with ha|ha
  ·refine x1a2 (a0K.mp ha) fun p hp za=>?_;obtain rfl:=za
   refine x2a2 (H.cel p hp) fun o v e _=>?_
   exact ne b hb _ _ e q
  ·refine x1a2 (a0K.mp ha) fun p hp za=>?_;obtain rfl:=za
   refine x1a2 (H.led p hp) fun o e _=>?_
   exact ne b hb _ _ e q
structure Fs (C:Cx)(σ:Loc)(ld:Led)(target it:Expr)(n:Nat)(fz:List Addr)(m:Nat)(bind:Nat ->Loc):Prop where
 run:∀(s:Shared) (Q:Value ->Shared ->Prop) (E:Value ->Shared ->Prop),Hold C σ ld s ->
  (∀I fp wr Pi Md St B0,KTurns PR C.w C.A target I fp wr n Pi Md St ->(∀i h,St i h ->∀b∈wr,∃o,h.get? b=some o) ->St 0 B0.heap ->(∀b∈wr,s.heap.get? b=none) ->wr.Nodup ->wr.length=m ->(∀b∈fp,b∈wr∨b∈fz) ->Grow s B0 ->
   (∀i v σ ld s (Q:Unit ->Shared ->Prop) (E:Value ->Shared ->Prop),i<n ->Pi i v s.heap ->Hold C σ ld s ->(∀s',Hold C (bind i++σ) ld s' ->Q () s') ->wpAny (model PR C.w) C.A (assign target C.env v) Q E s) ->Q (.ref I) B0) ->
  wpAny (model PR C.w) C.A (eval it C.env) (fun xv B1=>wpAny (model PR C.w) C.A (pyIter xv) Q E B1) E s
theorem X1.a3 {P:Fl ->Loc ->Led ->Prop}{target it:Expr}{body:List Stmt}{pos:Pos}{n:Nat}{fz:List Addr}{m:Nat}{bind:Nat ->Loc}(F:Fs C σ0 B9 target it n fz m bind)(J:Nat ->Loc ->Led ->Prop)(K:Loc ->Led ->Prop)(h0:Ends (J 0) σ0 B9)
  (hfz:∀b∈fz,(∃o,C.h₀.get? b=some o)∨∃o,∀i σ ld,J i σ ld ->(b,SO.obj o)∈ld)
  (turn:∀i σ ld it,i<n ->J i σ ld ->it.length=m ->Xs C (bind i++σ) (ld++it) body (forP it (J (i+1)) K P))
  (done:∀σ ld,J n σ ld ->P .next σ ld)(brk:∀σ ld,K σ ld ->P .next σ ld)
  (hs:autoParam (∀v,foldedSetIterable it C.env v=pure v) aI):X1 C σ0 B9 (.For target it body [] pos) P:=.mk fun s Q E H k=>by
 refine wpAny_For (a2L (F.run s (fun it B0=>codeAny (model PR C.w) C.A (.forLoop target it body [] C.env) (fun r s'=>match r with| .ok f=>Q f s'| .error e=>cameBackBy (model PR C.w) C.A C.env E e s') B0) E H ?_) (fun _ _ x=>x) fun _ _ x=>x) hs
 intro I fp wr Pi Md St B0 W hob hst hw hn hm hfp g asg
 refine x2a3 h0 fun σ₁ ld₁ hJ a b=>?_
 have E2:=(H.sub a b).iters hn g hw (hob 0 _ hst)
 refine forG W J K bind E2 hst hJ hob (fun b hb=>?_) asg ?_ done brk k
 ·rcases hfp b hb with h|h
  ·exact .inl h
  ·exact .inr (hfz b h)
 ·intro i σ ld it hi hJ hit
  exact turn i σ ld it hi hJ (by have:=a3C List.length hit;rw[a0J,hm]at this;exact this)
variable {x:Str}{px pos:Pos}{it:Expr}{l:Addr}{xs:List SV}
theorem Fs.ofSrc {n:Nat}{fz:List Addr}(hx:C.env.kindOf x=some .local)(hp:(C.env.scope.kind==.class|| (C.env.scope.kind==.module&&C.env.locals !=C.env.globals))=false)(hn:xs.length=n)
  (h:∀(s:Shared) (Q:Value ->Shared ->Prop) (E:Value ->Shared ->Prop),Hold C σ ld s ->(∀I B0 Pi St,Walks PR C.w C.A I (I::fz) [I] n Pi St ->(∀i h,St i h ->∃o,h.get? I=some o) ->St 0 B0.heap ->s.heap.get? I=none ->(∀i v,Pi i v ->∃a,xs[i]?=some a∧a.is v) ->Grow s B0 ->Q (.ref I) B0) ->wpAny (model PR C.w) C.A (eval it C.env) (fun xv B1=>wpAny (model PR C.w) C.A (pyIter xv) Q E B1) E s):
  Fs C σ ld (.Name x px) it n fz 1 (fun i=>[(x,xs.getD i SN)]):=.mk fun s Q E H k=>by
 refine h s Q E H fun I B0 Pi St W hob hst hw hPi g=>?_
 refine k I _ _ _ _ _ B0 (KTurns.ofWalks W fun i v s Q E _ q=>a5A rfl q) (fun i h st b hb=>by rw[a0B.mp hb];exact hob i h st) hst (fun b hb=>by rw[a0B.mp hb];exact hw) (a1L.mpr ⟨a0Z,a1U⟩) rfl (fun b hb=>?_) g fun i v σ ld s Q E hi hP H kk=>?_
 ·rcases a0G.mp hb with rfl|hb
  ·exact .inl (.head _)
  ·exact .inr hb
 ·refine x1a2 (hPi i v hP) fun a ha hv=>?_
  refine k6t hv H hx hp fun s' H'=>kk s' ?_
  rw[a0E,ha];exact H'
theorem Fs.list (G:C.A.handled=none)(hi:Ev C σ ld it (SR l))(hl:Has C σ ld l (.list xs))(hx:autoParam (C.env.kindOf x=some .local) aR)(hp:autoParam ((C.env.scope.kind==.class|| (C.env.scope.kind==.module&&C.env.locals !=C.env.globals))=false) aR):Fs C σ ld (.Name x px) it xs.length [l] 1 (fun i=>[(x,xs.getD i SN)]):=
 .ofSrc hx hp rfl fun s Q E H k=>hi.run s _ E H fun v s' g hv=>by
  obtain rfl:=hv
  refine x1a2 (hl.isList (H.go g)) fun vs hI hA=>?_
  have hlt:l≠s'.heap.objs.size:=let⟨_,ho,_⟩:=hI;a0S (a0M ho)
  have WW:=Walks.list (prog:=PR) (w:=C.w) G s'.heap.objs.size l hlt vs.toArray
  rw[show vs.toArray.size=xs.length from by simp[hA.len]]at WW
  exact a3J hI (k _ _ _ _ WW (fun i h st=>let⟨⟨o,ho,_⟩,_⟩:=st;⟨o,ho⟩) ⟨⟨_,a0I _ rfl,rfl,rfl⟩,hI.at fun o e=>a0C _ e⟩ (k0e g.keep (k0h _)) (fun m w hw=>hA.get m w (by simpa using hw)) (g.trans (.of fun b o e=>a0C _ e)))
theorem Fs.tup (G:C.A.handled=none)(hi:Ev C σ ld it (SR l))(hl:Has C σ ld l (.tup xs))(hx:autoParam (C.env.kindOf x=some .local) aR)(hp:autoParam ((C.env.scope.kind==.class|| (C.env.scope.kind==.module&&C.env.locals !=C.env.globals))=false) aR):Fs C σ ld (.Name x px) it xs.length [l] 1 (fun i=>[(x,xs.getD i SN)]):=
 .ofSrc hx hp rfl fun s Q E H k=>hi.run s _ E H fun v s' g hv=>by
  obtain rfl:=hv
  refine x1a2 (hl _ (H.go g)) fun o ho zx=>x1a2 zx fun vs za hA=>?_;clear zx;obtain rfl:=za
  have hI:s'.heap.IsTuple l vs.toArray:=⟨_,ho,rfl,_,rfl⟩
  have hlt:l≠s'.heap.objs.size:=a0S (a0M ho)
  have WW:=Walks.tuple (prog:=PR) (w:=C.w) G s'.heap.objs.size l hlt vs.toArray
  rw[show vs.toArray.size=xs.length from by simp[hA.len]]at WW
  exact wpAny_pyIter_tuple hI (k _ _ _ _ WW (fun i h st=>let⟨⟨o,ho,_⟩,_⟩:=st;⟨o,ho⟩) ⟨⟨_,a0I _ rfl,rfl,rfl⟩,hI.at fun o e=>a0C _ e⟩ (k0e g.keep (k0h _)) (fun m w hw=>hA.get m w (by simpa using hw)) (g.trans (.of fun b o e=>a0C _ e)))
end
section
variable {C:Cx}{σ:Loc}{ld ld':Led}{s s':Shared}{D l:Addr}{so:SO}{x y:PySem.Str}{a b e it:Expr}{pos px np ap tp:Pos}{sv:SV}{xs as:List SV}{P:Fl ->Loc ->Led ->Prop}{PE:SV ->Led ->Prop}{p q:Bool}{i j:Int}
theorem Hold.fix {o:Obj}(H:Hold C σ ld s)(U:LUpd D so (.obj o) ld ld')(e:s.heap.get? D=some o):Hold C σ ld' s:=H.upd U (fun _ _ _ e=>e) e rfl H.rest
theorem Xs.a1 {st:List Stmt}{f:Obj ->Led}(U:∀o,LUpd D so (.obj o) ld (f o))(h:∀o,so.is o ->Xs C σ (f o) st P):Xs C σ ld st P:=.mk fun s Q E H k=>by
 refine x1a3 (H.led _ (U default).mem) fun o e hi _=>?_
 exact(h o hi).run s Q E (H.fix (U o) e) k
theorem p1l {r:Addr}{t u v:Tok}{n:Nat}{B6:Shared}{Q:Value ->Shared ->Prop}{E:Value ->Shared ->Prop}(hh:C.A.handled=none)(g:Grow B6 s)(hr:IsRange s.heap r 0 (n:Int) 1 t u v)(h1: -(2^62)<=(0:Int))(h4:n<=1000000)
  (k:∀I B0 Pi St,Walks PR C.w C.A I (I::[]) [I] n Pi St ->(∀i h,St i h ->∃o,h.get? I=some o) ->St 0 B0.heap ->B6.heap.get? I=none ->(∀i v,Pi i v ->∃a,(intsFrom 0 n)[i]?=some a∧a.is v) ->Grow B6 B0 ->Q (.ref I) B0):wpAny (model PR C.w) C.A (pyIter (.ref r)) Q E s:=by
 have hsz:Builtin.Range.rangeSize 0 (n:Int) 1=(n:Int):=by rw[rangeSize_one];split<;>(first|exact om567|exact om446 (by assumption))
 refine wpAny_pyIter_range hr (small_one h1 (by decide) om49 (om509 h4)) (k s.heap.objs.size _ _ _ (k6v (Walks.range hh s.heap.objs.size 0 1 n)) (fun i h st=>⟨_,st⟩) ?_ (k0e g.keep (k0h _)) (fun m w hw=>?_) (g.trans (.of fun b o e=>a0C _ e)))
 ·show IsRangeIter _ _ _ _ _
  rw[hsz];simpa using a0I _ rfl
 ·refine an2 hw fun hm zz=>ex1 zz fun t za=>?_;clear hw zz;obtain rfl:=za
  exact⟨_,k1h hm,t,by rw[Int.mul_one]⟩
theorem Fs.range1 {n:Nat}(G:Gd C)(h:EvL C σ ld [a] [.int (n:Int)])(h4:n<=1000000)(hx:autoParam (C.env.kindOf x=some .local) aR)(hp:autoParam ((C.env.scope.kind==.class|| (C.env.scope.kind==.module&&C.env.locals !=C.env.globals))=false) aR)
  (e1:autoParam (nsIn (hd.heap_1 C.w.params) mainGlobals (Str.ofString "range")=some none) aK)(hk:autoParam (C.env.kindOf (Str.ofString "range")=some .globalImplicit) aR)
  (he:autoParam (eval (.Call (.Name (Str.ofString "range") np) [a] [] pos) C.env=(do callWith pos (<-eval (.Name (Str.ofString "range") np) C.env) [] (backTo pos (starEach [a] C.env)) (backToKw pos (keywordEach [] C.env)))) aR)
  (hs:autoParam (starEach [a] C.env=(false,eval a C.env)::starEach [] C.env) aR):Fs C σ ld (.Name x px) (.Call (.Name (Str.ofString "range") np) [a] [] pos) n [] 1 (fun i=>[(x,(intsFrom 0 n).getD i SN)]):=
 .ofSrc hx hp k1g fun s Q E H k=>by
  refine Call_ (k0i G H e1 (by boot_by_name) (by decide+kernel) hk (by decide+kernel) ?_) he
  refine a1J (by rw[hs];rfl) ?_
  have hq:=h.run pos s (fun vs B1=>wpAny (model PR C.w) C.A (call (.type "range") vs) (fun xv B1=>wpAny (model PR C.w) C.A (pyIter xv) Q E B1) E B1) E H fun vs s' g hvs=>by
   refine x1a2 hvs.one fun _ za zx=>ex1 zx fun t zb=>?_;clear zx;obtain rfl:=za;obtain rfl:=zb
   exact call_range_1 (p1l G.h (g.trans (.of fun b o e=>a0C _ e)) (IsRange.new _ _ _ _ _ _ _) (by decide) h4 k)
  exact k0c hs hq
theorem k2s:∀(ns:List (Str×Pos)) (as:List SV) (σ:Loc),bindAll ns as σ=bindAll ns as []++σ
 | [],as,σ=>by simp[bindAll]
 |n::ns,[],σ=>by simp[bindAll]
 |n::ns,a::as,σ=>by
  rw[bindAll,bindAll,k2s ns as ((n.1,a)::σ),k2s ns as [(n.1,a)]]
  simp
theorem Fs.enum {y:Str}{py:Pos}{k0:Nat}(G:Gd C)(hi:Ev C σ ld e (SR l))(hl:Has C σ ld l (.list xs))(hx:autoParam (C.env.kindOf x=some .local) aR)(hy:autoParam (C.env.kindOf y=some .local) aR)(hp:autoParam ((C.env.scope.kind==.class|| (C.env.scope.kind==.module&&C.env.locals !=C.env.globals))=false) aR)
  (e1:autoParam (nsIn (hd.heap_1 C.w.params) mainGlobals (Str.ofString "enumerate")=some none) aK)(hk:autoParam (C.env.kindOf (Str.ofString "enumerate")=some .globalImplicit) aR)
  (he:autoParam (eval (.Call (.Name (Str.ofString "enumerate") np) [e] [] pos) C.env=(do callWith pos (<-eval (.Name (Str.ofString "enumerate") np) C.env) [] (backTo pos (starEach [e] C.env)) (backToKw pos (keywordEach [] C.env)))) aR)
  (hs:autoParam (starEach [e] C.env=(false,eval e C.env)::starEach [] C.env) aR):Fs C σ ld (.Tuple [.Name x px,.Name y py] k0 tp) (.Call (.Name (Str.ofString "enumerate") np) [e] [] pos) xs.length [l] 2 (fun i=>[(y,xs.getD i SN),(x,.int (i:Int))]):=.mk fun s Q E H k=>by
 refine Call_ (k0i G H e1 (by boot_by_name) (by decide+kernel) hk (by decide+kernel) ?_) he
 refine a1J (by rw[hs];rfl) (k0c hs (a2J (hi.run s _ _ H fun v s' g hv=>a4D ?_) hs))
 obtain rfl:=hv
 refine x1a2 (hl.isList (H.go g)) fun vs hI hA=>?_
 refine call_enumerate_list hI fun h' he hit hsz hk=>?_
 have hlt:l<s'.heap.objs.size:=by refine x1a2 hI fun _ ho _=>?_;exact a0M ho
 refine wpAny_pyIter_enum (s:={s' with heap:=h'}) he ?_
 have W:=KTurns.ofWalksU (elts:=[.Name x px,.Name y py]) (k:=k0) (pos:=tp) (WalksT.enumerate (prog:=PR) (w:=C.w) (A:=C.A) G.h (s'.heap.objs.size+1) s'.heap.objs.size l (a3R _) (a0S (a3V hlt)) (a0S hlt) vs.toArray).toU
 rw[show vs.toArray.size=xs.length from by simp[hA.len]]at W
 have fresh:∀b,s'.heap.objs.size<=b ->s.heap.get? b=none:=fun b hb=>by
  cases q:s.heap.get? b with
  |none=>rfl
  |some o=>exact absurd (a0M (g.keep b o q)) (a6U.mpr hb)
 refine k _ _ _ _ _ _ _ W ?_ ⟨⟨.none,he⟩,hit,hI.at fun o e=>hk _ _ e⟩ ?_ ?_ rfl ?_ (g.trans (.of hk)) ?_
 ·rintro i h zu b hb;refine an3 zu fun za zb _=>?_;clear zu;obtain⟨old,he⟩:=za;obtain⟨o,ho,_⟩:=zb
  rcases a0G.mp hb with rfl|hb
  ·exact⟨_,he⟩
  ·rw[a0B.mp hb];exact⟨_,ho⟩
 ·intro b hb
  rcases a0G.mp hb with rfl|hb
  ·exact fresh _ (a6S _)
  ·rw[a0B.mp hb];exact fresh _ (a0W _)
 ·refine a1L.mpr ⟨fun q=>?_,a1L.mpr ⟨a0Z,a1U⟩⟩
  exact a3R _ (a0B.mp q)
 ·intro b hb
  rcases a0G.mp hb with rfl|hb
  ·exact .inl (.head _)
  ·rcases a0G.mp hb with rfl|hb
   ·exact .inl (.tail _ (.head _))
   ·exact .inr hb
 ·rintro i v σ ld s Q E hi' zu H kk;refine x2a3 zu fun T vals za zb hT=>?_;clear zu;obtain rfl:=za;obtain⟨t,u,hu,rfl⟩:=zb
  refine x1a2 (hA.get i u (by simpa using hu)) fun a ha hua=>?_
  refine k5h (ns:=[(x,px),(y,py)]) (as:=[.int (i:Int),a]) (vs:=[.int (i:Int) t,u]) G.h hT (.cons ⟨t,rfl⟩ (.cons hua .nil)) rfl H (fun n hn=>?_) hp fun s' H'=>kk s' ?_
  ·rcases a0G.mp hn with rfl|hn
   ·exact hx
   ·rw[a0B.mp hn];exact hy
  ·rw[a0E,ha];exact H'
theorem X1.asgT (ns:List (Str×Pos)){k0:Nat}(G:Gd C)(h:Ew C σ ld e fun sv ld'=>∃D as,sv=SR D∧Has C σ ld' D (.tup as)∧ns.length=as.length∧P .next (bindAll ns as σ) ld')(hl:autoParam (ns.map (fun n=>C.env.kindOf n.1)=ns.map (fun _=>some .local)) aR)(hp:autoParam ((C.env.scope.kind==.class|| (C.env.scope.kind==.module&&C.env.locals !=C.env.globals))=false) aR)
  (hs:autoParam (swapsWithSole [.Tuple (ns.map fun n=>Expr.Name n.1 n.2) k0 tp] e pos.line C.env=pure false) aR)(hw:autoParam (swappedStores [.Tuple (ns.map fun n=>Expr.Name n.1 n.2) k0 tp] e C.env=pure none) aR):X1 C σ ld (.Assign [.Tuple (ns.map fun n=>Expr.Name n.1 n.2) k0 tp] e pos) P:=.mk fun s Q E H k=>by
 refine Assign_Tuple (h.run s _ _ H fun v sv ld' s' hv hp' H'=>?_) hs hw
 refine x2a4 hp' fun D as za hD en p=>?_;clear hp';obtain rfl:=za
 obtain rfl:=hv
 refine x1a2 (hD _ H') fun o ho zx=>x1a2 zx fun vs za hA=>?_;clear zx;obtain rfl:=za
 exact k5h G.h ⟨_,ho,rfl,_,rfl⟩ hA en H' (List.map_inj_left.mp hl) hp fun s'' H''=>k .next .next _ _ s'' rfl p H''
theorem m7d {Q:Unit ->Shared ->Prop}{E:Value ->Shared ->Prop}{as:List SV}{vs:List Value}(hp:(C.env.scope.kind==.class|| (C.env.scope.kind==.module&&C.env.locals !=C.env.globals))=false)(hA:Are as vs):∀(ns:List (Str×Pos)) (σ:Loc) (s:Shared),ns.length=as.length ->Hold C σ ld s ->(∀n∈ns,C.env.kindOf n.1=some .local) ->(∀s',Hold C (bindAll ns as σ) ld s' ->Q () s') ->
  wpAny (model PR C.w) C.A (assignInOrder (ns.map fun n=>bindName C.env n.1) vs) Q E s:=by
 induction hA with
 |nil=>
  intro ns σ s e H _ k
  obtain rfl:ns=[]:=a3G e
  exact assignInOrder_nil (k s H)
 |cons hv t ih=>
  intro ns σ s e H hl k
  cases ns with
  |nil=>cases e
  |cons n ns=>
   refine x1a2 H.fr fun m F r=>?_
   exact assignInOrder_cons (bindName_ (a2M (hl n (.head _)) F.ns (fun B3 C1 B8=>ih ns _ _ (by simpa using e) (H.put F r (hl n (.head _)) hv B8 C1) (fun m hm=>hl m (.tail _ hm)) k) hp))
set_option tactic.hygienic true in
theorem X1.asgT2 {y:Str}{py:Pos}{k0:Nat}{sa sb:SV}(G:Gd C)(h:Ew C σ ld e fun sv ld'=>∃D,sv=SR D∧Has C σ ld' D (.tup [sa,sb])∧P .next ((x,sa)::(y,sb)::σ) ld')(hx:autoParam (C.env.kindOf x=some .local) aR)(hy:autoParam (C.env.kindOf y=some .local) aR)(hp:autoParam ((C.env.scope.kind==.class|| (C.env.scope.kind==.module&&C.env.locals !=C.env.globals))=false) aR)
  (hs:autoParam (swapsWithSole [.Tuple [.Name x px,.Name y py] k0 tp] e pos.line C.env=pure false) aR)(hw:autoParam (swappedStores [.Tuple [.Name x px,.Name y py] k0 tp] e C.env=pure (some [x,y])) aR):X1 C σ ld (.Assign [.Tuple [.Name x px,.Name y py] k0 tp] e pos) P:=.mk fun s Q E H k=>by
 refine Assign_Tuple_swapped (h.run s _ _ H fun v sv ld' s' hv hp' H'=>?_) hs hw
 refine x1a3 hp' fun D za hD p=>?_;clear hp';obtain rfl:=za
 obtain rfl:=hv
 refine x1a2 (hD _ H') fun o ho zx=>x1a2 zx fun vs za hA=>?_;clear zx;obtain rfl:=za
 have hI:s'.heap.IsTuple D vs.toArray:=⟨_,ho,rfl,_,rfl⟩
 refine x2a3 hA.two fun _ _ za h1 h2=>?_;obtain rfl:=za
 rename_i v1 v2
 show wpAny _ _ (unpackItems (.ref D) [v1,v2].toArray.size none) _ _ _
 refine wpAny_unpackItems_tuple G.h hI fun h' he=>?_
 show wpAny _ _ (assignInOrder [bindName C.env y,bindName C.env x] [v2,v1]) _ _ _
 have H2:Hold C σ ld' {s' with heap:=h'}:=H'.grow (fun b o q=>he b o (a0S (a0M q)) q) (C.ok _ _ _ H'.rest)
 refine m7d hp (.cons h2 (.cons h1 .nil)) [(y,py),(x,px)] _ _ rfl H2 (fun n hn=>?_) fun s'' H''=>k .next .next _ _ s'' rfl p H''
 rcases a0G.mp hn with rfl|hn
 ·exact hy
 ·rw[a0B.mp hn];exact hx
theorem X1.tryOk {body:List Stmt}{h₀:ExceptHandler}{hs:List ExceptHandler}(h:Xs C σ ld body P):X1 C σ ld (.Try body (h₀::hs) [] [] pos) P:=.mk fun s Q E H k=>by
 refine wpAny_Try_except (h.run s _ _ H fun f fl σ' ld' s' hf hp H'=>?_)
 have fin:=k f fl σ' ld' s' hf hp H'
 cases fl with
 |next=>obtain rfl:=hf;exact a4W fin
 |brk=>obtain rfl:=hf;exact fin
 |cont=>obtain rfl:=hf;exact fin
 |ret sv=>refine x1a2 hf fun v za hv=>?_;clear hf;obtain rfl:=za;exact fin
theorem Ev.b0 {f:Addr}{n:Nat}{pre:Heap ->Prop}{svs:List SV}{rest:List Expr}(G:Gd C)(c:Cn C.w n f svs pre fun sv' new=>sv'=sv∧new=[])(hargs:EvL C σ ld (e::rest) svs)(hpre:∀s,Hold C σ ld s ->pre s.heap)
  (hA:OkA C.A n)(e1:nsIn (hd.heap_1 C.w.params) mainGlobals x=some (some (.ref f))){o:Obj}{fd:FuncData}(hf:(hd.heap_1 C.w.params).lookup f=some o)(hfd:o.data=.func fd)(hx:autoParam (C.env.kindOf x=some .globalImplicit) aR)(hd:autoParam ((x==("__debug__":Str))=false) aE)
  (he:autoParam (eval (.Call (.Name x np) (e::rest) [] pos) C.env=(do callWith pos (<-eval (.Name x np) C.env) [] (backTo pos (starEach (e::rest) C.env)) (backToKw pos (keywordEach [] C.env)))) aR)
  (hs:autoParam (starEach (e::rest) C.env=(false,eval e C.env)::starEach rest C.env) aR):Ev C σ ld (.Call (.Name x np) (e::rest) [] pos) sv:=.mk fun s Q E H k=>by
 refine Call_ (k5k G H e1 hx hd (callWith_def (o:=o) hfd (hargs.run pos s _ E H fun vs s' g hvs=>?_) hs)) he
 refine ex2 G.T fun mg mb T=>?_
 have H':=H.go g
 refine x1a2 H'.fr fun m F _=>?_
 refine⟨G.X.keeps F.keep f o hf,c C.A s' Q E vs mg mb (G.X.keeps F.keep) (T.keeps F.keep) hA hvs (hpre s' H') fun v sv' new s'' hv hq A=>?_⟩
 obtain⟨rfl,rfl⟩:=hq
 exact k v s'' (g.trans A.g) hv
theorem Tst.or (ha:Tst C σ ld a p)(hb:p=false ->Tst C σ ld b q):Tst C σ ld (.BoolOp .Or [a,b] pos) (p||q):=.mk fun s Q E H k=>by
 refine isTrue_or (ha.run s _ _ H fun c s' g hc=>?_)
 subst hc
 cases c with
 |true=>exact k _ _ g rfl
 |false=>
  refine isTrue_or ((hb rfl).run s' _ _ (H.go g) fun c s'' g' hc=>?_)
  subst hc
  cases c with
  |true=>exact k _ _ (g.trans g') rfl
  |false=>exact isTrue_or_nil (k _ _ (g.trans g') rfl)
theorem Tst.le (ha:Ev C σ ld a (.int i))(hb:Ev C σ ld b (.int j))(hm:autoParam (behindInMarks .GtE b=false) aU):Tst C σ ld (.Compare a [.GtE] [b] pos) (decide (j<=i)):=.mk fun s Q E H k=>by
 refine a1F (ha.run s _ _ H fun v s' g hv=>?_) hm
 obtain⟨t,rfl⟩:=hv
 refine hb.run _ _ _ (H.go g) fun v s'' g' hv=>?_
 obtain⟨u,rfl⟩:=hv
 walk1
 walk1
 exact k _ _ (g.trans g') rfl
theorem Tst.gt (ha:Ev C σ ld a (.int i))(hb:Ev C σ ld b (.int j))(hm:autoParam (behindInMarks .Gt b=false) aU):Tst C σ ld (.Compare a [.Gt] [b] pos) (decide (j<i)):=.mk fun s Q E H k=>by
 refine a1F (ha.run s _ _ H fun v s' g hv=>?_) hm
 obtain⟨t,rfl⟩:=hv
 refine hb.run _ _ _ (H.go g) fun v s'' g' hv=>?_
 obtain⟨u,rfl⟩:=hv
 walk1
 walk1
 exact k _ _ (g.trans g') rfl
end
section
variable {C:Cx}{σ:Loc}{ld ld':Led}{s s':Shared}{D l:Addr}{so:SO}{x y:PySem.Str}{a b e:Expr}{pos px np ap tp sp:Pos}{sv sa:SV}{xs as:List SV}{P:Fl ->Loc ->Led ->Prop}{R:SV ->Led ->Prop}{p q:Bool}{i j:Int}
theorem Ev.sm1 {name:Str}{id:String}(ha:Ev C σ ld a (.str x))(hb:Ev C σ ld b (.str y))(slot:Slot "str" name id)(hty:typeOf (.builtin id)=Pure.pure (.type "method_descriptor"))
  (hf:∀t u s (Q:Value ->Shared ->Prop) (E:Value ->Shared ->Prop),(∀r s',Grow s s' ->sv.is r ->Q r s') ->wpAny (model PR C.w) C.A (call (.builtin id) [.str x t,.str y u]) Q E s){pl:Sem Bool}
  (he:autoParam (eval (.Call (.Attribute a name ap) [b] [] pos) C.env=(do
   let ov <-eval a C.env
   standAt ap.atName
   let(f,first) <-holding [ov] (getMethod ov name pl)
   callWith pos f first (backTo pos (starEach [b] C.env)) [])) aR)
  (hs:autoParam (starEach [b] C.env=(false,eval b C.env)::starEach [] C.env) aR):Ev C σ ld (.Call (.Attribute a name ap) [b] [] pos) sv:=by
 refine Ev.meth (T:="str") (id:=id) ha (.cons hb .nil hs) (fun v vs s Q E hv hvs H k=>?_) .str a6R slot hty he hs (by rfl)
 obtain⟨t,rfl⟩:=hv
 obtain⟨_,rfl,u,rfl⟩:=hvs.one
 exact hf t u s Q E k
theorem p2n (t u)(s:Shared)(Q:Value ->Shared ->Prop)(E:Value ->Shared ->Prop)(k:∀r s',Grow s s' ->(SV.int (Txt.rfind x y)).is r ->Q r s'):wpAny (model PR C.w) C.A (call (.builtin "str.rfind") [.str x t,.str y u]) Q E s:=by
 walk1
 exact k _ _ .tk ⟨_,rfl⟩
theorem m2p (t u)(s:Shared)(Q:Value ->Shared ->Prop)(E:Value ->Shared ->Prop)(k:∀r s',Grow s s' ->(SB (Txt.startswith x y)).is r ->Q r s'):wpAny (model PR C.w) C.A (call (.builtin "str.startswith") [.str x t,.str y u]) Q E s:=by
 walk1
 exact k _ _ .refl rfl
theorem p5w (t u)(s:Shared)(Q:Value ->Shared ->Prop)(E:Value ->Shared ->Prop)(k:∀r s',Grow s s' ->(SB (Txt.endswith x y)).is r ->Q r s'):wpAny (model PR C.w) C.A (call (.builtin "str.endswith") [.str x t,.str y u]) Q E s:=by
 walk1
 exact k _ _ .refl rfl
theorem p0h (hz:x.length<=1000000)(t u)(s:Shared)(Q:Value ->Shared ->Prop)(E:Value ->Shared ->Prop)(k:∀r s',Grow s s' ->(SV.str (Txt.rstripChars x y)).is r ->Q r s'):wpAny (model PR C.w) C.A (call (.builtin "str.rstrip") [.str x t,.str y u]) Q E s:=
 SC.rstripChars (fun t' tk=>k _ _ .tk ⟨t',rfl⟩) (by rw[a1S];exact om327 hz)
theorem k8d (hz:x.length<=1000000)(t u)(s:Shared)(Q:Value ->Shared ->Prop)(E:Value ->Shared ->Prop)(k:∀r s',Grow s s' ->(SV.str (Txt.lstripChars x y)).is r ->Q r s'):wpAny (model PR C.w) C.A (call (.builtin "str.lstrip") [.str x t,.str y u]) Q E s:=
 SC.lstripChars (fun t' tk=>k _ _ .tk ⟨t',rfl⟩) (by rw[a1S];exact om327 hz)
theorem Tst.isb (G:Gd C)(ha:Ev C σ ld a (.str x))(e1:autoParam (nsIn (hd.heap_1 C.w.params) mainGlobals (Str.ofString "isinstance")=some none) aK)(k1:autoParam (C.env.kindOf (Str.ofString "isinstance")=some .globalImplicit) aR)
  (e2:autoParam (nsIn (hd.heap_1 C.w.params) mainGlobals (Str.ofString "bytes")=some none) aK)(k2:autoParam (C.env.kindOf (Str.ofString "bytes")=some .globalImplicit) aR){pb:Pos}
  (he:autoParam (eval (.Call (.Name (Str.ofString "isinstance") np) [a,.Name (Str.ofString "bytes") pb] [] pos) C.env=(do callWith pos (<-eval (.Name (Str.ofString "isinstance") np) C.env) [] (backTo pos (starEach [a,.Name (Str.ofString "bytes") pb] C.env)) (backToKw pos (keywordEach [] C.env)))) aR)
  (hs:autoParam (starEach [a,.Name (Str.ofString "bytes") pb] C.env=(false,eval a C.env)::starEach [.Name (Str.ofString "bytes") pb] C.env) aR):Tst C σ ld (.Call (.Name (Str.ofString "isinstance") np) [a,.Name (Str.ofString "bytes") pb] [] pos) false:=
 Tst.ofB (.mk fun s Q E H k=>by
  refine Call_ (k0i G H e1 (by boot_by_name) (by decide+kernel) k1 (by decide+kernel) ?_) he
  refine callWith_builtin1 ?_ hs (by rfl)
  refine a2J (ha.run s _ _ H fun v s' g hv=>?_) hs
  obtain⟨t,rfl⟩:=hv
  refine a2J (k0i G (H.go g) e2 (by boot_by_name) (by decide+kernel) k2 (by decide+kernel) (a4D ?_))
  walk1
  exact k _ _ (g.trans .tk) rfl)
theorem Ev.typeS (G:Gd C)(ha:Ev C σ ld a (.str x))(e1:autoParam (nsIn (hd.heap_1 C.w.params) mainGlobals (Str.ofString "type")=some none) aK)(k1:autoParam (C.env.kindOf (Str.ofString "type")=some .globalImplicit) aR)
  (he:autoParam (eval (.Call (.Name (Str.ofString "type") np) [a] [] pos) C.env=(do callWith pos (<-eval (.Name (Str.ofString "type") np) C.env) [] (backTo pos (starEach [a] C.env)) (backToKw pos (keywordEach [] C.env)))) aR)
  (hs:autoParam (starEach [a] C.env=(false,eval a C.env)::starEach [] C.env) aR):Ev C σ ld (.Call (.Name (Str.ofString "type") np) [a] [] pos) (.val (.type "str")):=.mk fun s Q E H k=>by
 refine Call_ (k0i G H e1 (by boot_by_name) (by decide+kernel) k1 (by decide+kernel) ?_) he
 refine a1J (by rw[hs];rfl) (k0c hs (a2J (ha.run s _ _ H fun v s' g hv=>a4D ?_) hs))
 obtain⟨t,rfl⟩:=hv
 exact call_type_of (Tx:="str") rfl (by decide+kernel) (k _ _ g rfl)
theorem Tst.iss {k0:Nat}{p1 p2 p3:Pos}(G:Gd C)(ha:Ev C σ ld a (.val (.type "str")))(e1:autoParam (nsIn (hd.heap_1 C.w.params) mainGlobals (Str.ofString "issubclass")=some none) aK)(k1:autoParam (C.env.kindOf (Str.ofString "issubclass")=some .globalImplicit) aR)
  (e2:autoParam (nsIn (hd.heap_1 C.w.params) mainGlobals (Str.ofString "bytes")=some none) aK)(k2:autoParam (C.env.kindOf (Str.ofString "bytes")=some .globalImplicit) aR)
  (e3:autoParam (nsIn (hd.heap_1 C.w.params) mainGlobals (Str.ofString "str")=some none) aK)(k3:autoParam (C.env.kindOf (Str.ofString "str")=some .globalImplicit) aR)
  (he:autoParam (eval (.Call (.Name (Str.ofString "issubclass") np) [a,.Tuple [.Name (Str.ofString "str") p1,.Name (Str.ofString "bytes") p2] k0 p3] [] pos) C.env=(do callWith pos (<-eval (.Name (Str.ofString "issubclass") np) C.env) [] (backTo pos (starEach [a,.Tuple [.Name (Str.ofString "str") p1,.Name (Str.ofString "bytes") p2] k0 p3] C.env)) (backToKw pos (keywordEach [] C.env)))) aR)
  (hs:autoParam (starEach [a,.Tuple [.Name (Str.ofString "str") p1,.Name (Str.ofString "bytes") p2] k0 p3] C.env=(false,eval a C.env)::starEach [.Tuple [.Name (Str.ofString "str") p1,.Name (Str.ofString "bytes") p2] k0 p3] C.env) aR):
  Tst C σ ld (.Call (.Name (Str.ofString "issubclass") np) [a,.Tuple [.Name (Str.ofString "str") p1,.Name (Str.ofString "bytes") p2] k0 p3] [] pos) true:=
 Tst.ofB (.mk fun s Q E H k=>by
  refine Call_ (k0i G H e1 (by boot_by_name) (by decide+kernel) k1 (by decide+kernel) ?_) he
  refine callWith_builtin1 ?_ hs (by rfl)
  refine a2J (ha.run s _ _ H fun v s' g hv=>?_) hs
  obtain rfl:=hv
  refine a2J ?_
  walk1
  refine a2J (k0i G (H.go g) e3 (by boot_by_name) (by decide+kernel) k3 (by decide+kernel) ?_)
  refine a2J (k0i G (H.go g) e2 (by boot_by_name) (by decide+kernel) k2 (by decide+kernel) (a4D ?_))
  refine a6M (a4D ?_)
  refine m3t (rest:=[.type "bytes"]) rfl (a0I _ rfl) fun tk=>?_
  exact k _ _ (g.trans (.of fun b o e=>a0C _ e)) rfl)
theorem Ew.sliceInit {hi:Expr}(ha:Ev C σ ld a (SR l))(hl:Has C σ ld l (.list xs))(hh:Ev C σ ld hi (.int (-1)))(hz:xs.length<=10000)(r:∀D,R (SR D) ((D,.list xs.dropLast)::ld))
  (hs:autoParam (∀D,subscripted (.Slice none (some hi) none sp) false (.ref l) (.ref D)=operate [.ref D,.ref l] (getItem (.ref l) (.ref D))) aJ)
  (ht:autoParam (∀r,letTemporaryGo a (.ref l) r=Pure.pure ()) aJ):Ew C σ ld (.Subscript a (.Slice none (some hi) none sp) pos) R:=.mk fun s Q E H k=>by
 walk1
 refine ha.run s _ _ H fun v s' g hv=>?_
 obtain rfl:=hv
 walk1
 walk1
 refine hh.run _ _ _ (H.go g) fun v s'' g' hv=>?_
 obtain⟨u,rfl⟩:=hv
 walk1
 have H':=(H.go g).go g'
 refine x1a2 (hl.isList H') fun vs hI hA=>?_
 refine x1a2 H'.fr fun m F r'=>?_
 refine m5z F H'.news hI IsPart.none (IsPart.int _ _) (by have:=hA.len;exact om8 this hz) (fun D h' F2 N2 hn=>k _ (SR D) _ {s'' with heap:=h',toks:=s''.toks} rfl (r D) (H'.made r' F2 N2 (fun p hp=>a0S (hn p hp)) ⟨_,_,rfl,?_⟩)) (hs _) ht
 rw[a5V,a5V,<-hA.len]
 exact hA.take _
theorem Are.rev {as:List SV}{vs:List Value}(h:Are as vs):Are as.reverse vs.reverse:=by
 induction h with
 |nil=>exact .nil
 |cons a t ih=>rw[List.reverse_cons,List.reverse_cons];exact ih.app (.cons a .nil)
theorem Ew.sliceRev {st:Expr}(ha:Ev C σ ld a (SR l))(hl:Has C σ ld l (.list xs))(hh:Ev C σ ld st (.int (-1)))(hz:xs.length<=10000)(r:∀D,R (SR D) ((D,.list xs.reverse)::ld)){ops:Addr ->List Value}
  (hs:autoParam (∀D,subscripted (.Slice none none (some st) sp) false (.ref l) (.ref D)=operate (ops D) (getItem (.ref l) (.ref D))) aJ)
  (ht:autoParam (∀r,letTemporaryGo a (.ref l) r=Pure.pure ()) aJ):Ew C σ ld (.Subscript a (.Slice none none (some st) sp) pos) R:=.mk fun s Q E H k=>by
 walk1
 refine ha.run s _ _ H fun v s' g hv=>?_
 obtain rfl:=hv
 walk1
 walk1
 walk1
 refine hh.run _ _ _ (H.go g) fun v s'' g' hv=>?_
 obtain⟨u,rfl⟩:=hv
 have H':=(H.go g).go g'
 refine x1a2 (hl.isList H') fun vs hI hA=>?_
 refine x1a2 H'.fr fun m F r'=>?_
 exact m7u F H'.news hI (IsPart.int _ _) (by have:=hA.len;exact om8 this hz) (fun D h' F2 N2 hn=>k _ (SR D) _ {s'' with heap:=h',toks:=s''.toks} rfl (r D) (H'.made r' F2 N2 (fun p hp=>a0S (hn p hp)) ⟨_,_,rfl,hA.rev⟩)) (hs _) ht
theorem Are.unsnoc {as:List SV}{a:SV}:∀ {vs:List Value},Are (as++[a]) vs ->∃us u,vs=us++[u]∧Are as us∧a.is u:=by
 induction as with
 |nil=>intro vs h;replace h:=h.one;revert h;intro zq;refine x1a2 zq fun _ za h=>?_;clear zq;obtain rfl:=za;exact⟨[],_,rfl,.nil,h⟩
 |cons b as ih=>
  intro vs h
  refine x2a3 h.uncons fun _ _ za h0 t=>?_;obtain rfl:=za
  refine x2a3 (ih t) fun us u za h1 h2=>?_;obtain rfl:=za
  exact⟨_::us,u,rfl,.cons h0 h1,h2⟩
theorem m9d {l:Addr}{us:List Value}{u:Value}{t:Tok}{Q:Value ->Shared ->Prop}{E:Value ->Shared ->Prop}{A:Around}{w:World}(hI:s.heap.IsList l (us++[u]).toArray)(h:Q u s):wpAny (model PR w) A (getItem (.ref l) (.int (-1) t)) Q E s:=by
 refine wpAny_getItem_list_neg hI (by decide) (by simp;exact om114) (by decide) ?_ h
 have e:((-1:Int)+((us++[u]).toArray.size:Int)).toNat=us.length:=by simp;exact om17
 rw[e];simp
theorem Ev.lastL (ha:Ev C σ ld a (SR l))(hl:Has C σ ld l (.list (xs++[sv])))(hb:Ev C σ ld b (.int (-1)))
  (hs:autoParam (∀u,subscripted b false (.ref l) (.int (-1) u)=operate [.ref l,.int (-1) u] (getItem (.ref l) (.int (-1) u))) aJ)(hg:autoParam (∀r,letTemporaryGo a (.ref l) r=Pure.pure ()) aJ):Ev C σ ld (.Subscript a b pos) sv:=.mk fun s Q E H k=>by
 walk1
 refine ha.run s _ _ H fun v s' g hv=>?_
 obtain rfl:=hv
 refine hb.run _ _ _ (H.go g) fun v s'' g' hv=>?_
 obtain⟨u,rfl⟩:=hv
 refine x1a2 (hl.isList ((H.go g).go g')) fun vs hI hA=>?_
 refine x2a3 hA.unsnoc fun us u za _ hu=>?_;obtain rfl:=za
 exact subscriptTail_builtin hI.typeIs slot_list_getitem.lookup (m9d hI (k _ _ (g.trans g') hu)) (hs _) hg
theorem Opr.mulS (hm:MulOk x i):Opr C .Mult (.str x) (.int i) (.str (Txt.mul x i)):=.mk<|by
 rintro v u s Q E ⟨t,rfl⟩ ⟨t',rfl⟩ k
 exact SB.mul hm fun t' k'=>k _ _ .tk ⟨_,rfl⟩
theorem Ipr.addS (hz:x.length+y.length<=16777216):Ipr C .Add (.str x) (.str y) (.str (x++y)):=.mk<|by
 rintro v u s Q E ⟨t,rfl⟩ ⟨t',rfl⟩ k
 walk1
 exact k _ _ .tk ⟨_,rfl⟩
set_option tactic.hygienic true in
theorem Ew.mulL (h:Ew C σ ld a fun sv' ld'=>∃l,sv'=SR l∧Has C σ ld' l (.list [sv])∧Ev C σ ld' b (.int i)∧0<=i∧i<=10000∧∀D,R (SR D) ((D,.list (List.replicate i.toNat sv))::ld')):Ew C σ ld (.BinOp a .Mult b pos) R:=.mk fun s Q E H k=>by
 walk1
 refine h.run s _ _ H fun v sv' ld' s' hv hp H'=>?_
 refine x1a6 hp fun l za hl hb h0 h1 r=>?_;clear hp;obtain rfl:=za
 obtain rfl:=hv
 refine hb.run s' _ _ H' fun v' s'' g hv'=>?_
 obtain⟨t,rfl⟩:=hv'
 have H'':=H'.go g
 refine x1a2 (hl _ H'') fun o ho zx=>x2a2 zx fun vs n za hA=>?_;clear zx;obtain rfl:=za
 refine x1a2 hA.one fun _ za hu=>?_;obtain rfl:=za
 rename_i u
 refine x1a2 H''.fr fun m F r'=>?_
 refine mul_list F H''.news ho (om120 h0) (om577 h1) (by simp;exact om579 h1) fun h' F' N'=>?_
 have e:List.foldl (fun x1 x2=>x1++x2) #[] (List.replicate (if([u].toArray).isEmpty=true then 0 else i.toNat) [u].toArray)=(List.replicate i.toNat u).toArray:=by
  rw[if_neg (by simp)]
  have:=m8e u i.toNat #[]
  simpa using this
 rw[e]at N'
 refine k _ (SR _) _ {s'' with heap:=h',toks:=s''.toks} rfl (r _) (H''.made r' F' N' (fun p hp=>a0S (a0M (H''.news p hp).1)) ⟨_,_,rfl,?_⟩)
 clear N' e
 induction i.toNat with
 |zero=>exact .nil
 |succ k ih=>exact .cons hu ih
end
theorem m6c {w:World}{A:Around}{s:Shared}{E:Value ->Shared ->Prop}{D:Addr}{l:List Value}{v v':Value}{n:Nat}{u:Tok}{Q:Unit ->Shared ->Prop}(hD:s.heap.get? D=some (listOf (l++[v]).toArray n))
  (h:∀n',(s.heap.update D (Obj.mapSeq (·.setIfInBounds l.length v'))).get? D=some (listOf (l++[v']).toArray n') ->Q () {s with heap:=s.heap.update D (Obj.mapSeq (·.setIfInBounds l.length v'))}):wpAny (model PR w) A (setItem (.ref D) (.int (-1) u) v') Q E s:=by
 have hl:s.heap.IsList D (l++[v]).toArray:=IsL.isList hD
 have hi:seqIndex? (-1) (l++[v]).toArray.size=some l.length:=by
  rw[seqIndex_neg (by decide) (by simp;exact om114)]
  congr 1
  simp;exact om17
 have hx:(l++[v]).toArray[l.length]?=some v:=by simp
 have hset:(l++[v]).toArray.setIfInBounds l.length v'=(l++[v']).toArray:=by simp
 have fin:Q () {s with heap:=s.heap.update D (Obj.mapSeq (·.setIfInBounds l.length v'))}:=by
  have e:=IsL.update hD (·.setIfInBounds l.length v')
  rw[hset]at e
  exact h _ e
 refine x1a3 (id hl) fun o ho hc zx=>ex1 zx fun ne hd=>?_
 unfold setItem
 try with_reducible refine a1O ?_
 first|refine a0A (a0F ?_)|skip
 refine a0A (wpAny_sequenceKey hl.typeIs (by decide) ?_)
 refine a0A (a1I (name:=Str.ofString "__setitem__") hl.typeIs slot_list_setitem
  (a2E slot_list_setitem hl.typeIs entry_list_setitem ?_ (args_list_setitem _ _ _)))
 show wpAny _ _ (Builtin.List.listSubscript? (.int (-1) u)>>=_) _ _ s
 refine a0A (wpAny_listSubscript_int (fitsIndex_neg (by decide) (by decide)) ?_)
 show wpAny _ _ ((Builtin.List.listItems (.ref D)>>=fun xs=>pure ((seqIndex? (Int.negSucc 0) xs.size).bind fun i=>xs[i]?.map (i,·)))>>=_) _ _ s
 refine a0A (a0A ?_)
 show wpAny _ _ (seqItems? (.ref D)>>=_) _ _ s
 refine a0A (a2P ho hd (a0F (a0F ?_)))
 rw[show seqIndex? (Int.negSucc 0) (l++[v]).toArray.size=some l.length from hi]
 simp only[Option.bind_some,hx,Option.map_some]
 show wpAny _ _ (setSeqItemAt D l.length v'>>=_) _ _ s
 refine a0A (wpAny_setSeqItemAt ho hd ?_)
 first
  |exact a0A (a0F (a0F ⟨.none,rfl,a0F fin⟩))
  |exact a0F ⟨.none,rfl,a0F fin⟩
section
variable {C:Cx}{σ:Loc}{ld ld':Led}{s s':Shared}{D l:Addr}{x y:PySem.Str}{a b e:Expr}{pos px np ap tp sp cp:Pos}{sv sa sc:SV}{xs as:List SV}{P:Fl ->Loc ->Led ->Prop}{R:SV ->Led ->Prop}{p q:Bool}{i j:Int}
set_option tactic.hygienic true in
theorem X1.augLast {op:Operator}(ha:Ev C σ ld a (SR D))(hb:Ev C σ ld b (.int (-1)))(he:Ev C σ ld e sv)(ho:Ipr C op sa sv sc)(U:LUpd D (.list (xs++[sa])) (.list (xs++[sc])) ld ld')(p:P .next σ ld')
  (hi:∀ov iv new,augStore b ov iv new=(do holding [new,ov,iv] (setItem ov iv new);release [new,ov,iv] [];pure .next)):X1 C σ ld (.AugAssign (.Subscript a b tp) op e pos) P:=.mk fun s Q E H k=>by
 refine wpAny_AugAssign_SubscriptAny (ha.run s _ _ H fun v s1 g1 hv=>?_) hi
 obtain rfl:=hv
 refine hb.run _ _ _ (H.go g1) fun v s2 g2 hv=>?_
 obtain⟨u,rfl⟩:=hv
 have H2:=(H.go g1).go g2
 refine x1a3 (H2.led _ U.mem) fun o2 ho2 za _=>?_;obtain⟨vs2,n2,rfl,hA2⟩:=za
 refine x2a3 hA2.unsnoc fun us v0 za hA0 hv0=>?_;obtain rfl:=za
 refine m9d (IsL.isList ho2) ?_
 refine he.run _ _ _ H2 fun v s3 g3 hv=>?_
 refine ho.run _ _ _ _ _ hv0 hv fun r s4 g4 hr=>?_
 have H4:=(H2.go g3).go g4
 have hD4:=g4.keep _ _ (g3.keep _ _ ho2)
 refine m6c hD4 fun n' hn'=>?_
 exact k .next .next σ ld' _ rfl p (H4.upd (s':={s4 with heap:=_}) U (fun b o hb e=>(a0O _ _ (Ne.symm hb)).trans e) hn' ⟨us++[r],n',rfl,hA0.app (.cons hr .nil)⟩ (C.ok _ _ _ H4.rest))
theorem Ew.meth0 {id:String}{T:String}{name:Str}(ha:Ev C σ ld a sa)(hf:∀v s (Q:Value ->Shared ->Prop) (E:Value ->Shared ->Prop),sa.is v ->Hold C σ ld s ->(∀r sr ld'' s',sr.is r ->R sr ld'' ->Hold C σ ld'' s' ->Q r s') ->wpAny (model PR C.w) C.A (call (.builtin id) [v]) Q E s)
  (hT:TyIs C σ ld sa T)(pa:PlainAttrs T)(slot:Slot T name id)(hty:typeOf (.builtin id)=Pure.pure (.type "method_descriptor")){pl:Sem Bool}
  (he:autoParam (eval (.Call (.Attribute a name ap) [] [] pos) C.env=(do
   let ov <-eval a C.env
   standAt ap.atName
   let(f,first) <-holding [ov] (getMethod ov name pl)
   callWith pos f first (backTo pos (starEach [] C.env)) [])) aR):Ew C σ ld (.Call (.Attribute a name ap) [] [] pos) R:=.mk fun s Q E H k=>by
 refine MethodCall_ (ha.run s _ _ H fun v s' g hv=>?_) he
 obtain⟨h1,h2⟩:=hT v s' hv (H.go g)
 refine a6A h1 pa slot hty h2 ?_
 refine a6O rfl ?_
 exact PyProof.Rows.evalArgs_none (hf v s' Q E hv (H.go g) fun r sr ld'' s'' hr hp H''=>k r sr ld'' s'' hr hp H'')
theorem X1.pop (ha:Ev C σ ld a (SR D))(U:LUpd D (.list (xs++[.str x])) (.list xs) ld ld')(hz:xs.length<=10000)(p:P .next σ ld'){pl:Sem Bool}
  (he:autoParam (eval (.Call (.Attribute a (Str.ofString "pop") ap) [] [] cp) C.env=(do
   let ov <-eval a C.env
   standAt ap.atName
   let(f,first) <-holding [ov] (getMethod ov (Str.ofString "pop") pl)
   callWith cp f first (backTo cp (starEach [] C.env)) [])) aR)
  (hi:autoParam (interactive C.env=false) aR) (hw:autoParam (swapsWith (.Call (.Attribute a (Str.ofString "pop") ap) [] [] cp) none pos.line C.env=Pure.pure false) aR):X1 C σ ld (.Expr (.Call (.Attribute a (Str.ofString "pop") ap) [] [] cp) pos) P:=.mk fun s Q E H k=>by
 refine wpAny_Expr ((Ew.meth0 (R:=fun sr ld''=>sr=.str x∧ld''=ld') (T:="list") (id:="list.pop") ha (fun v s Q E hv H k=>?_) (.list (Has.mem U.mem)) F.plainAttrs_list PySem.F.slot_list_pop PySem.F.type_list_pop he).run s _ E H fun v sv ld'' s' hv hp H'=>?_) hi hw
 ·obtain rfl:=hv
  refine x1a3 (H.led _ U.mem) fun o ho za _=>?_;obtain⟨vs,n,rfl,hA⟩:=za
  refine x2a3 hA.unsnoc fun us u za h1 h2=>?_;obtain rfl:=za
  have hk:(us++[u]).toArray.size-1=us.length:=by rw[a1M,a0Y];rfl
  have hl:=h1.len
  refine call_meets PySem.F.slot_list_pop ⟨_,ho,rfl⟩ PySem.F.entry_list_pop (PySem.F.args_list_pop_1 _) (PySem.MeetsSeq.list_pop_last D _ n u (by rw[hk];simp) (by rw[a1S];simp;exact om461 hl hz)) ⟨ho,?_⟩
  have e:=IsL.update ho fun xs=>xs.eraseIdxIfInBounds ((us++[u]).toArray.size-1)
  have e3:(us++[u]).toArray.eraseIdxIfInBounds ((us++[u]).toArray.size-1)=us.toArray:=by rw[hk,kl_erase,a2O]
  rw[e3]at e
  refine k u (.str x) ld' _ h2 ⟨rfl,rfl⟩ (H.upd (s':={s with heap:=_}) U (fun b o hb e=>(a0O _ _ (Ne.symm hb)).trans e) e ⟨us,_,rfl,h1⟩ (C.ok _ _ _ H.rest))
 ·obtain⟨rfl,rfl⟩:=hp
  obtain⟨t,rfl⟩:=hv
  exact k _ .next _ _ s' rfl p H'
theorem Ev.min2 (G:Gd C)(ha:Ev C σ ld a (.int i))(hb:Ev C σ ld b (.int j))(e1:autoParam (nsIn (hd.heap_1 C.w.params) mainGlobals (Str.ofString "min")=some none) aK)(hx:autoParam (C.env.kindOf (Str.ofString "min")=some .globalImplicit) aR)
  (he:autoParam (eval (.Call (.Name (Str.ofString "min") np) [a,b] [] pos) C.env=(do callWith pos (<-eval (.Name (Str.ofString "min") np) C.env) [] (backTo pos (starEach [a,b] C.env)) (backToKw pos (keywordEach [] C.env)))) aR)
  (hs:autoParam (starEach [a,b] C.env=(false,eval a C.env)::starEach [b] C.env) aR)(hs2:autoParam (starEach [b] C.env=(false,eval b C.env)::starEach [] C.env) aR)(hp:autoParam ((backTo pos (starEach [b] C.env)).any (·.1)=false) aR):Ev C σ ld (.Call (.Name (Str.ofString "min") np) [a,b] [] pos) (.int (if j<i then j else i)):=
 Ev.a2 G (.cons ha (.cons hb .nil hs2) hs) (fun vs s Q E hvs H k=>by
  refine x2a3 hvs.two fun _ _ za zb zx=>ex1 zx fun u zc=>?_;clear zx;obtain rfl:=za;obtain⟨t,rfl⟩:=zb;obtain rfl:=zc
  refine min_two_ints G.h fun h' tk hk=>k _ _ (.of hk) ?_
  split
  ·exact⟨_,rfl⟩
  ·exact⟨_,rfl⟩) e1 (by boot_by_name) (hx:=hx) (he:=he) (hs:=hs) (hplain:=hp)
theorem Ev.ord (G:Gd C)(ha:Ev C σ ld a (.str x))(h1:x.length=1)(e1:autoParam (nsIn (hd.heap_1 C.w.params) mainGlobals (Str.ofString "ord")=some none) aK)(hx:autoParam (C.env.kindOf (Str.ofString "ord")=some .globalImplicit) aR)
  (he:autoParam (eval (.Call (.Name (Str.ofString "ord") np) [a] [] pos) C.env=(do callWith pos (<-eval (.Name (Str.ofString "ord") np) C.env) [] (backTo pos (starEach [a] C.env)) (backToKw pos (keywordEach [] C.env)))) aR)
  (hs:autoParam (starEach [a] C.env=(false,eval a C.env)::starEach [] C.env) aR):Ev C σ ld (.Call (.Name (Str.ofString "ord") np) [a] [] pos) (.int (x.cps.getD 0 0:Nat)):=
 Ev.a2 G (.cons ha .nil hs) (fun vs s Q E hvs H k=>by
  refine x1a2 hvs.one fun _ za zx=>ex1 zx fun t zb=>?_;clear zx;obtain rfl:=za;obtain rfl:=zb
  exact ord_of_one h1 (k _ _ .tk ⟨_,rfl⟩)) e1 (by boot_by_name) (hx:=hx) (he:=he) (hs:=hs)
theorem Ev.orS (ha:Ev C σ ld a (.str x))(hb:Ev C σ ld b (.str y))(hz:x.length<=16777216):Ev C σ ld (.BoolOp .Or [a,b] pos) (.str (if x=PySem.Str.ofString "" then y else x)):=.mk fun s Q E H k=>by
 rw[arm_eval_BoolOp]
 show wpAny _ _ (do let v <-eval a C.env;standAt pos;let t <-holding [v] (truthy v);match BoolOp.Or,t with| .And,false| .Or,true=>pure v|_,_=>boolOp pos .Or [eval b C.env]) _ _ _
 refine a0A (ha.run s _ _ H fun v s' g hv=>?_)
 obtain⟨t,rfl⟩:=hv
 refine a0A (a3P ?_)
 refine a0A (a1O (KXt.truthy (k3m x) hz fun tk=>?_))
 by_cases h:x=PySem.Str.ofString ""
 ·rw[if_pos h]at k
  have:(x !=PySem.Str.ofString "")=false:=by simp[h]
  rw[this]
  exact hb.run _ _ _ ((H.go g).toks) fun v s'' g' hv=>k v s'' (g.trans (Grow.trans .tk g')) hv
 ·rw[if_neg h]at k
  have:(x !=PySem.Str.ofString "")=true:=by simp[h]
  rw[this]
  exact a0F (k _ _ (g.trans .tk) ⟨_,rfl⟩)
theorem Tst.notin2 {z:PySem.Str}{p1 p2 p3:Pos}{k1 k2 k3:Nat}(ha:Ev C σ ld a (.str x)):Tst C σ ld (.Compare a [.NotIn] [.Tuple [.Constant (.str y) k1 p1,.Constant (.str z) k2 p2] k3 p3] pos) (!([y,z].any fun w=>w==x)):=.mk fun s Q E H k=>by
 refine a1F (ha.run s _ _ H fun v s' g hv=>?_) (by with_unfolding_all rfl)
 obtain⟨t,rfl⟩:=hv
 repeat walk1
 refine a6M ?_
 refine notin_tuple_strs (ys:=[y,z]) (items:=[Value.str y s'.toks,Value.str z (s'.toks+1)].toArray) ⟨_,a0I _ rfl,rfl,_,rfl⟩ (.cons _ _ (.cons _ _ .nil)) ?_
 walk1
 exact k _ _ (g.trans (.of fun b o e=>a0C _ e)) (by simp)
end
theorem k6m (c d:Nat):((⟨#[c]⟩:Str)==⟨#[d]⟩)=decide (c=d):=by
 by_cases h:c=d
 ·subst h;simp
 ·have:(⟨#[c]⟩:Str)≠⟨#[d]⟩:=fun e=>h (by injection e with e;simpa using e)
  simp[h,this]
theorem m7m {vs:List Value}{xs:List Str}{x:Str}{t:Tok}(h:StrsAre vs xs):StrsAre (vs++[.str x t]) (xs++[x]):=by
 induction h with
 |nil=>exact .cons _ _ .nil
 |cons y u _ ih=>exact .cons _ _ ih
theorem k0n (a b:Str):(a++b).length=a.length+b.length:=by
 show(a.cps++b.cps).size=_
 simp[Str.length]
theorem m1h {l:Array Nat}{i c:Nat}(h:l[i]?=some c):l.toList.take (i+1)=l.toList.take i++[c]:=by
 rw[a2A,show l.toList[i]?=some c from by simpa using h];rfl
theorem p2u {a b x:Str}(h:([a,b].any fun y=>y==x)=true):x=a∨x=b:=by
 simp only[a5F,List.any_nil,a6F,Bool.or_eq_true,a1T]at h
 rcases h with h|h
 ·exact .inl h.symm
 ·exact .inr h.symm
theorem p2v {a b x:Str}(h:([a,b].any fun y=>y==x)=false):¬(x=a∨x=b):=by
 simp only[a5F,List.any_nil,a6F,a6K,a2Q]at h
 rintro(q|q)
 ·exact h.1 q.symm
 ·exact h.2 q.symm
theorem m4m (p:Nat ->Bool):∀(l:List Nat) (i:Nat),i<(l.takeWhile p).length ->∃c,l[i]?=some c∧p c=true
 | [],i,h=>by simp at h
 |c::l,i,h=>by
  by_cases hc:p c=true
  ·rw[List.takeWhile_cons_of_pos hc]at h
   cases i with
   |zero=>exact⟨c,rfl,hc⟩
   |succ i=>simpa using m4m p l i (by simpa using h)
  ·rw[List.takeWhile_cons_of_neg hc]at h;simp at h
theorem k9q (p:Nat ->Bool):∀(l:List Nat) (c:Nat),l[(l.takeWhile p).length]?=some c ->p c=false
 | [],c,h=>by simp at h
 |d::l,c,h=>by
  by_cases hd:p d=true
  ·rw[List.takeWhile_cons_of_pos hd]at h
   exact k9q p l c (by simpa using h)
  ·rw[List.takeWhile_cons_of_neg hd]at h
   simp at h;subst h;simpa using hd
theorem m7j (p:Nat ->Bool)(l:List Nat):(l.takeWhile p).length<=l.length:=(a5O p).length_le
noncomputable def lead32 (l:List Nat):Nat:=(l.takeWhile (· ==32)).length
noncomputable def trail32 (l:List Nat):Nat:=((l.drop (lead32 l)).reverse.takeWhile (· ==32)).length
theorem m0l (l:List Nat):lead32 l<=l.length:=m7j _ l
theorem m2a {l:List Nat}{i:Nat}(h:i<=lead32 l)(hc:l[i]?=some 32):i<lead32 l:=by
 rcases a5R h with h|h
 ·exact h
 ·have:=k9q (· ==32) l 32 (by rw[show((l.takeWhile (· ==32)).length)=i from h.symm];exact hc)
  simp at this
theorem m2b {l:List Nat}{i:Nat}(h:i<=lead32 l)(hc:l[i]?≠some 32):i=lead32 l:=by
 rcases a5R h with h|h
 ·refine x1a2 (m4m (· ==32) l i h) fun c e q=>?_
  rw[e]at hc
  simp at q;subst q;exact absurd rfl hc
 ·exact h
theorem k6l (l:List Nat):trail32 l<=l.length-lead32 l:=by
 have:=m7j (· ==32) (l.drop (lead32 l)).reverse
 simpa[trail32]using this
theorem m8d {l:List Nat}{f j:Nat}(h1:f<j)(h2:j<=l.length):(l.drop f).reverse[l.length-j]?=l[j-1]?:=by
 rw[List.getElem?_reverse (by simp;exact om226 h1 h2),List.getElem?_drop]
 congr 1
 simp;exact om42 h1 h2
theorem k8x {l:List Nat}{j:Nat}(h1:lead32 l<j)(h2:j<=l.length)(h:l.length-trail32 l<=j)(hc:l[j-1]?=some 32):l.length-trail32 l<=j-1:=by
 rcases a5R h with h|h
 ·exact a6J h
 ·have e:trail32 l=l.length-j:=by have:=k6l l;exact om92 h this
  have:=k9q (· ==32) (l.drop (lead32 l)).reverse 32 (by rw[show(((l.drop (lead32 l)).reverse.takeWhile (· ==32)).length)=l.length-j from e,m8d h1 h2];exact hc)
  simp at this
theorem k8y {l:List Nat}{j:Nat}(h2:j<=l.length)(h:l.length-trail32 l<=j)(hc:lead32 l<j ->l[j-1]?≠some 32):j=l.length-trail32 l:=by
 have ht:=k6l l
 have hl:=m0l l
 by_cases h1:lead32 l<j
 ·rcases a5R h with h|h
  ·refine x1a2 (m4m (· ==32) (l.drop (lead32 l)).reverse (l.length-j) (by show _<trail32 l;exact om99 h h2)) fun c e q=>?_
   rw[m8d h1 h2]at e
   simp at q;subst q
   exact absurd e (hc h1)
  ·exact h.symm
 ·exact om133 h ht hl h1
theorem k0p {x:Str}{i:Nat}{c:Nat}(h:x.cps[i]?=some c):Txt.item x (i:Int)=⟨#[c]⟩:=by
 have hi:=(a6H.mp h).1
 unfold Txt.item Txt.charAt seqIndex?
 have e:((i:Int)<0)=False:=by simp
 simp only[e,if_false]
 have hl:x.length=x.cps.size:=rfl
 rw[if_pos (by simp[hl];exact om241 hi)]
 simp[h]
noncomputable def k2x (v:Option Int)(d n:Nat):Nat:=match v with
 |none=>d
 |some i=>(max 0 (min (if i<0 then i+n else i) (n:Int))).toNat
theorem m5j (v:Option Int)(d n:Nat)(h:d<=n):k2x v d n<=n:=by
 unfold k2x;cases v with
 |none=>exact h
 |some i=>dsimp only;exact om146
theorem m0q {α β:Type}{f g:α ->Option β}:∀(l:List α),(∀a∈l,f a=g a) ->l.filterMap f=l.filterMap g
 | [],_=>rfl
 |a::l,h=>by rw[List.filterMap_cons,List.filterMap_cons,h a a4M,m0q l fun b hb=>h b (a4T _ hb)]
theorem p3i {α β:Type}{f:α ->β}:∀(l:List α),l.filterMap (fun a=>some (f a))=l.map f
 | []=>rfl
 |a::l=>by rw[List.filterMap_cons];simp[p3i l]
theorem m8f (l:List Nat)(a b:Nat)(hb:b<=l.length):((List.range (b-a)).map (fun k=>a+k)).filterMap (fun i=>l[i]?)=(l.take b).drop a:=by
 apply List.ext_getElem?
 intro i
 have hall:((List.range (b-a)).map (fun k=>a+k)).filterMap (fun i=>l[i]?)=(List.range (b-a)).map (fun k=>l[a+k]?.getD 0):=by
  rw[List.filterMap_map]
  rw[<-p3i]
  apply m0q
  intro k hk
  have:a+k<l.length:=by have:=a3O.mp hk;exact om79 this hb
  simp[this]
 rw[hall]
 simp only[a0T,List.getElem?_drop,List.getElem?_take]
 by_cases h:i<b-a
 ·rw[List.getElem?_range h,if_pos (om34 h)]
  have:a+i<l.length:=om79 h hb
  simp[this]
 ·rw[a4O (by simp;exact om266 h),if_neg (om276 h)];rfl
theorem sr (A B:Int)(a b:Nat)(hA:A=a)(hB:B=b):sliceRange A B 1=(List.range (b-a)).map (fun k=>a+k):=by
 subst hA hB
 unfold sliceRange
 rw[if_pos (by decide)]
 have e:(if(a:Int)<(b:Int)then((b:Int)-a+1-1)/1 else 0).toNat=b-a:=by split<;>(first|exact om63|exact om180 (by assumption))
 dsimp only
 rw[e]
 apply a2R
 intro k _
 exact om154
set_option tactic.hygienic true in
theorem k2b (x:Str)(lo hi:Option Int):Txt.slice x lo hi=⟨((x.cps.toList.take (k2x hi x.cps.size x.cps.size)).drop (k2x lo 0 x.cps.size)).toArray⟩:=by
 have hl:x.length=x.cps.size:=rfl
 have hx:x=⟨x.cps.toList.toArray⟩:=by cases x;simp
 have hb:=m5j hi x.cps.size x.cps.size (a0W _)
 have ha:=m5j lo 0 x.cps.size (a0R _)
 have hidx:Builtin.Str.strSliceIndices lo hi 1 x.length=(List.range (k2x hi x.cps.size x.cps.size-k2x lo 0 x.cps.size)).map (fun k=>k2x lo 0 x.cps.size+k):=by
  unfold Builtin.Str.strSliceIndices
  rw[hl]
  refine sr _ _ _ _ ?_ ?_
  ·clear ha hb
   rcases lo with _|i
   ·rfl
   ·exact(Int.toNat_of_nonneg (Int.le_max_left _ _)).symm
  ·clear ha hb
   rcases hi with _|j
   ·rfl
   ·exact(Int.toNat_of_nonneg (Int.le_max_left _ _)).symm
 unfold Txt.slice
 rw[hidx]
 split
 ·rename_i h
  simp only[a0J,List.length_range]at h
  rw[hl]at h
  simp at h
  have hb':k2x hi x.cps.size x.cps.size=x.cps.toList.length:=by simp;exact om253 h hb
  by_cases h0:x.cps.size=0
  ·conv=>lhs;rw[hx]
   congr 2
   have:x.cps.toList=[]:=by apply a3G;simpa using h0
   rw[this];simp
  ·have ha':k2x lo 0 x.cps.size=0:=om155 h hb h0
   rw[ha',hb',a3S];simpa using hx
 ·have:=m8f x.cps.toList (k2x lo 0 x.cps.size) (k2x hi x.cps.size x.cps.size) (by simpa using hb)
  rw[<-this]
  congr 2
  apply m0q
  intro i _
  simp
noncomputable abbrev S (l:List Nat):Str:=⟨l.toArray⟩
theorem k2k (x:Str):S x.cps.toList=x:=by cases x;simp
theorem k2g (l:List Nat):(S l).length=l.length:=by simp[S,Str.length]
theorem m4g (a b:List Nat):S a++S b=S (a++b):=by
 show Str.mk (a.toArray++b.toArray)=_
 simp
theorem S_inj {a b:List Nat}:S a=S b↔a=b:=⟨fun h=>by injection h with h;simpa using h,fun h=>by rw[h]⟩
theorem k6s (k d n:Nat):k2x (some (k:Int)) d n=min k n:=by
 unfold k2x;dsimp only
 rw[if_neg (Int.not_lt.mpr (Int.natCast_nonneg k)),p2o]
theorem k2m (l:List Nat)(a b:Nat):Txt.slice (S l) (some (a:Int)) (some (b:Int))=S ((l.take b).drop a):=by
 rw[k2b,k6s,k6s]
 simp only[a1M,List.toList_toArray]
 congr 2
 have e1:l.take (min b l.length)=l.take b:=by
  by_cases h:b<=l.length
  ·rw[a4Y h]
  ·rw[Nat.min_eq_right (p4r h),a3S,a2H (p4r h)]
 rw[e1]
 by_cases h:a<=l.length
 ·rw[a4Y h]
 ·rw[a5P (by simp;exact om216 h),a5P (by simp;exact om310 h)]
theorem k9v (l:List Nat)(a:Nat):Txt.slice (S l) (some (a:Int)) none=S (l.drop a):=by
 have:=k2m l a l.length
 rw[a3S]at this
 rw[<-this,k2b,k2b]
 rw[k6s,k6s]
 congr 2
 simp[k2x]
theorem k6n (l:List Nat)(b:Nat):Txt.slice (S l) none (some (b:Int))=S (l.take b):=by
 have:=k2m l 0 b
 rw[List.drop_zero]at this
 rw[<-this,k2b,k2b]
 congr 2
theorem k7e (l:List Nat):Txt.slice (S l) none (some (-1))=S l.dropLast:=by
 rw[k2b]
 have e:k2x (some (-1)) (S l).cps.size (S l).cps.size=l.length-1:=by unfold k2x;simp;exact p0i
 rw[e]
 simp[k2x,a5V]
theorem pm_in (c:Nat):(Builtin.Str.occurrences (Str.ofString "+-") ⟨#[c]⟩ 0 (Str.ofString "+-").length 1).isEmpty= !decide (c=43∨c=45):=by
 have:=StrLaws.found_one (Str.ofString "+-") c
 rw[<-Bool.not_inj_iff,this,a4P,show(Str.ofString "+-").cps.toList=[43,45]from by decide+kernel]
 simp
theorem dg_in (c:Nat):(Builtin.Str.occurrences (Str.ofString "0123456789") ⟨#[c]⟩ 0 (Str.ofString "0123456789").length 1).isEmpty= !decide (48<=c∧c<=57):=by
 have:=StrLaws.found_one (Str.ofString "0123456789") c
 rw[<-Bool.not_inj_iff,this,a4P,show(Str.ofString "0123456789").cps.toList=[48,49,50,51,52,53,54,55,56,57]from by decide+kernel]
 simp only[a0G,a0Z,a5C]
 congr 1
 apply propext
 exact om12
theorem p5r (c:Nat)(h:48<=c∧c<=57):Txt.find (Str.ofString "0123456789") ⟨#[c]⟩=((c-48:Nat):Int):=by
 have:c=48∨c=49∨c=50∨c=51∨c=52∨c=53∨c=54∨c=55∨c=56∨c=57:=om30 h
 rcases this with rfl|rfl|rfl|rfl|rfl|rfl|rfl|rfl|rfl|rfl<;>decide+kernel
theorem k7p (c:Nat):((⟨#[c]⟩:Str)==Str.ofString "-")=decide (c=45):=by rw[show Str.ofString "-"=⟨#[45]⟩from by decide+kernel,k6m]
noncomputable def k0m (x:Str):Str:=
 let head:=Txt.slice x none (some (Txt.rfind x (Str.ofString "/")+1))
 if head.length≠0∧head≠Txt.mul (Str.ofString "/") (head.length:Int)then Txt.rstripChars head (Str.ofString "/")else head
noncomputable def k1s (x:Str):Str:=Txt.slice x (some (Txt.rfind x (Str.ofString "/")+1)) none
noncomputable def k1m (x:Str):Str:=
 if Txt.slice x none (some 1)≠Str.ofString "/" then Str.ofString ""
 else if Txt.slice x (some 1) (some 2)≠Str.ofString "/"∨Txt.slice x (some 2) (some 3)=Str.ofString "/" then Str.ofString "/"
 else Txt.slice x none (some 2)
noncomputable def restOf (x:Str):Str:=
 if Txt.slice x none (some 1)≠Str.ofString "/" then x
 else if Txt.slice x (some 1) (some 2)≠Str.ofString "/"∨Txt.slice x (some 2) (some 3)=Str.ofString "/" then Txt.slice x (some 1) none
 else Txt.slice x (some 2) none
noncomputable def cutStep (ps:List Str×Str)(c:Nat):List Str×Str:=if c=46 then(ps.1++[ps.2],Str.ofString "")else(ps.1,ps.2++⟨#[c]⟩)
noncomputable def cutTo (x:Str)(i:Nat):List Str×Str:=(x.cps.toList.take i).foldl cutStep ([],Str.ofString "")
theorem k9n {x:Str}{i c:Nat}(h:x.cps[i]?=some c):cutTo x (i+1)=cutStep (cutTo x i) c:=by
 unfold cutTo;rw[m1h h,a3K];rfl
noncomputable def cutF (x:Str):List Str:=(cutTo x x.cps.size).1++[(cutTo x x.cps.size).2]
noncomputable def digit? (c:Nat):Option Nat:=if 48<=c∧c<=57 then some (c-48)else none
noncomputable def digsTo (l:List Nat):Option Nat:=l.foldl (fun a c=>a.bind fun v=>(digit? c).map fun d=>10*v+d) (some 0)
theorem k5a:∀(l:List Nat),l.foldl (fun a c=>a.bind fun v=>(digit? c).map fun d=>10*v+d) (none:Option Nat)=none
 | []=>rfl
 |_::l=>by rw[a1Y];exact k5a l
theorem m2l {l:List Nat}{i c:Nat}(h:l[i]?=some c):digsTo (l.take (i+1))=(digsTo (l.take i)).bind fun v=>(digit? c).map fun d=>10*v+d:=by
 unfold digsTo;rw[a2A,h,a3K];rfl
theorem m9q {l:List Nat}{i c:Nat}(h:l[i]?=some c)(hc:digit? c=none):digsTo l=none:=by
 have e:l=l.take (i+1)++l.drop (i+1):=(a5T _ _).symm
 have e2:digsTo (l.take (i+1))=none:=by rw[m2l h,hc];cases digsTo (l.take i)<;>rfl
 rw[e];unfold digsTo;rw[a3K]
 show List.foldl _ (digsTo (l.take (i+1))) _=none
 rw[e2];exact k5a _
noncomputable def signOf (l:List Nat):Nat×Bool:=
 if lead32 l<l.length-trail32 l∧(l[lead32 l]?=some 43∨l[lead32 l]?=some 45)then(lead32 l+1,l[lead32 l]?==some 45)else(lead32 l,false)
noncomputable def numF (l:List Nat):Option Int:=
 if(signOf l).1=l.length-trail32 l then none
 else(digsTo ((l.take (l.length-trail32 l)).drop (signOf l).1)).map fun v=>if(signOf l).2 then -(v:Int)else(v:Int)
theorem k3b (c:Nat):((⟨#[c]⟩:Str)==Str.ofString " ")=decide (c=32):=by rw[show Str.ofString " "=⟨#[32]⟩from by decide+kernel,k6m]
noncomputable def lcp:List Str ->List Str ->Nat
 |x::xs,y::ys=>if x=y then lcp xs ys+1 else 0
 |_,_=>0
theorem k3x:∀(a b:List Str),lcp a b<=a.length∧lcp a b<=b.length
 | [],_=>⟨a0R _,a0R _⟩
 |_::_,[]=>⟨a0R _,a0R _⟩
 |x::xs,y::ys=>by
  have:=k3x xs ys
  unfold lcp;split
  ·simp;exact om392 this
  ·simp
set_option tactic.hygienic true in
theorem k6q:∀(a b:List Str) (i:Nat),i<=lcp a b ->i<a.length ->i<b.length ->a.getD i Str.empty=b.getD i Str.empty ->i<lcp a b
 | [],_,_,_,h,_,_=>by simp at h
 |_::_,[],_,_,_,h,_=>by simp at h
 |x::xs,y::ys,0,_,_,_,e=>by
  have:x=y:=e
  unfold lcp;rw[if_pos this];exact om556
 |x::xs,y::ys,i+1,h,h1,h2,e=>by
  unfold lcp at h⊢
  split at h
  ·rename_i q;rw[if_pos q]
   have:=k6q xs ys i (p4u h) (by simpa using h1) (by simpa using h2) (by simpa using e)
   exact om197 this
  ·exact(p4n h).elim
set_option tactic.hygienic true in
theorem k6r:∀(a b:List Str) (i:Nat),i<=lcp a b ->(i<a.length ->i<b.length ->a.getD i Str.empty≠b.getD i Str.empty) ->i=lcp a b
 | [],b,i,h,_=>by have:lcp [] b=0:=rfl;exact om407 this h
 |_::_,[],i,h,_=>by unfold lcp at h⊢;exact Nat.eq_zero_of_le_zero h
 |x::xs,y::ys,0,_,e=>by
  have:x≠y:=e (by simp) (by simp)
  unfold lcp;rw[if_neg this]
 |x::xs,y::ys,i+1,h,e=>by
  unfold lcp at h⊢
  split at h
  ·rename_i q;rw[if_pos q]
   have:=k6r xs ys i (p4u h) (fun h1 h2=>by have:=e (by simpa using h1) (by simpa using h2);simpa using this)
   exact Nat.add_left_inj.mpr this
  ·exact(p4n h).elim
noncomputable def stackStep (st:List Str)(n:Str):List Str:=if n=Str.ofString ".." then st.dropLast else if n=Str.ofString ""∨n=Str.ofString "." then st else st++[n]
noncomputable def stackTo (xs:List Str)(i:Nat):List Str:=(xs.take i).foldl stackStep [Str.ofString "b"]
theorem m1k {xs:List Str}{i:Nat}{c:Str}(h:xs[i]?=some c):stackTo xs (i+1)=stackStep (stackTo xs i) c:=by
 unfold stackTo;rw[a2A,h,a3K];rfl
noncomputable def stackF (xs:List Str):List Str:=xs.foldl stackStep [Str.ofString "b"]
theorem m3b (xs:List Str):stackTo xs xs.length=stackF xs:=by unfold stackTo stackF;rw[a3S]
theorem k3c (x:Str)(lo hi:Option Int):(Txt.slice x lo hi).length<=x.length:=by
 rw[k2b]
 have:x.length=x.cps.toList.length:=by simp[Str.length]
 simp[Str.length];exact om304
theorem k9s (x:Str):(k0m x).length<=x.length:=by
 unfold k0m
 dsimp only
 split
 ·exact a0H (len_rstripChars _ _) (k3c _ _ _)
 ·exact k3c _ _ _
noncomputable def climbTo:Nat ->Str ->List Str
 |0,_=>[]
 |n+1,p=>if p=Str.ofString "/" then []else climbTo n (k0m p)++[k1s p]
theorem k6b (n:Nat):climbTo n (Str.ofString "/")=[]:=by cases n<;>simp[climbTo]
noncomputable abbrev rSep (x:Str):Int:=Txt.rfind x (Str.ofString "/")
noncomputable abbrev rDot (x:Str):Int:=Txt.rfind x (Str.ofString ".")
noncomputable def dotAt (x:Str)(k:Nat):Bool:=Txt.slice x (some (rSep x+1+(k:Int))) (some (rSep x+1+(k:Int)+1))==Str.ofString "."
noncomputable def extB (x:Str):Bool:=decide (rSep x<rDot x)&& (List.range (rDot x-rSep x-1).toNat).any fun k=> !dotAt x k
noncomputable def k2n (x:Str):Str:=if extB x then Txt.slice x none (some (rDot x))else x
noncomputable def k0x (x:Str):Str:=if extB x then Txt.slice x (some (rDot x)) none else Str.ofString ""
theorem m3f (x:Str):Txt.slice x none (some 0)=Str.ofString "":=by
 rw[k2b];simp[k2x];rfl
theorem k7z:∀(l:List Nat) (ps:List Str×Str),((l.foldl cutStep ps).1.length<=ps.1.length+l.length)∧((∀p∈(l.foldl cutStep ps).1,p∈ps.1∨p.length<=ps.2.length+l.length)∧(l.foldl cutStep ps).2.length<=ps.2.length+l.length)
 | [],ps=>⟨a0W _,fun p h=>.inl h,a0W _⟩
 |c::l,ps=>by
  refine an3 (k7z l (cutStep ps c)) fun h1 h2 h3=>?_
  simp only[a1Y,a0Q]
  have e0:(Str.ofString "").length=0:=by decide+kernel
  by_cases h:c=46
  ·simp only[cutStep,if_pos h,a0Y,List.length_singleton,e0]at h1 h2 h3⊢
   refine⟨by exact om52 h1,fun p hp=>?_,by exact om106 h3⟩
   rcases h2 p hp with q|q
   ·rcases a0V.mp q with q|q
    ·exact .inl q
    ·rw[a0B.mp q];exact .inr om422
   ·exact .inr (om106 q)
  ·simp only[cutStep,if_neg h,k0n]at h1 h2 h3⊢
   have e1:(⟨#[c]⟩:Str).length=1:=rfl
   rw[e1]at h2 h3
   refine⟨by exact a3W h1,fun p hp=>?_,by exact om52 h3⟩
   rcases h2 p hp with q|q
   ·exact .inl q
   ·exact .inr (om52 q)
theorem m2m (x:Str):cutTo x x.cps.size=x.cps.toList.foldl cutStep ([],Str.ofString ""):=by
 unfold cutTo;rw[a2H (by simp)]
theorem m0v (x:Str):(cutF x).length<=x.length+1:=by
 have:=(k7z x.cps.toList ([],Str.ofString "")).1
 unfold cutF;rw[m2m]
 simp only[a0Y,List.length_singleton]
 have e:x.length=x.cps.toList.length:=by simp[Str.length]
 simp only[a3F]at this
 exact om351 e this
theorem k3i (x:Str):AllLen x.length (cutF x):=by
 have:=(k7z x.cps.toList ([],Str.ofString "")).2
 have e0:(Str.ofString "").length=0:=by decide+kernel
 have e:x.length=x.cps.toList.length:=by simp[Str.length]
 rw[e0]at this
 unfold cutF;rw[m2m]
 intro p hp
 rcases a0V.mp hp with q|q
 ·rcases this.1 p q with q|q
  ·cases q
  ·exact om399 e q
 ·rw[a0B.mp q];exact a0H this.2 (a4L ((Nat.zero_add _).trans e.symm))
theorem m0o {xs:List Str}{n:Nat}(h:∀p∈xs,p.length<=n)(i:Nat):(xs.getD i Str.empty).length<=n:=by
 rw[a0E]
 by_cases hi:i<xs.length
 ·rw[a0D hi];exact h _ (a2T hi)
 ·rw[a4O (om95 hi)];exact a0R _
theorem m0u (x:Str):0<(cutF x).length:=by unfold cutF;simp
noncomputable def peelTo:Nat ->Str ->List Str
 |0,p=>[p]
 |n+1,p=>if k0x p=Str.ofString "" then [p]else peelTo n (k2n p)++[k0x p]
theorem k4c (n:Nat){p:Str}(h:k0x p=Str.ofString ""):peelTo n p=[p]:=by cases n<;>simp[peelTo,h]
theorem m3x (x:Str):(k2n x).length<=x.length:=by
 unfold k2n
 split
 ·exact k3c _ _ _
 ·exact a0W _
theorem k9m:∀(l:List Nat) (a v:Nat) (k:Nat),a<10^k ->l.foldl (fun a c=>a.bind fun v=>(digit? c).map fun d=>10*v+d) (some a)=some v ->v<10^(k+l.length)
 | [],a,v,k,h,e=>by simp at e;subst e;simpa using h
 |c::l,a,v,k,h,e=>by
  rw[a1Y]at e
  cases hd:digit? c with
  |none=>
   have:((some a:Option Nat).bind fun v=>(digit? c).map fun d=>10*v+d)=none:=by simp[hd]
   rw[this,k5a]at e;cases e
  |some d=>
   have:((some a:Option Nat).bind fun v=>(digit? c).map fun d=>10*v+d)=some (10*a+d):=by simp[hd]
   rw[this]at e
   have hd9:d<=9:=by unfold digit? at hd;split at hd<;>simp at hd;exact om255 (by assumption) hd
   have:=k9m l (10*a+d) v (k+1) (by rw[Nat.pow_succ];exact om294 h hd9) e
   rw[a0Q]
   rwa[show k+(l.length+1)=k+1+l.length by exact om57]
theorem m1w {l:List Nat}{v:Int}(h:numF l=some v):v.natAbs<10^l.length:=by
 unfold numF at h
 split at h
 ·cases h
 ·cases hd:digsTo ((l.take (l.length-trail32 l)).drop (signOf l).1)with
  |none=>rw[hd]at h;cases h
  |some n=>
   rw[hd]at h
   replace h:(if(signOf l).2 then -(n:Int)else(n:Int))=v:=a4X h
   have h1:=k9m _ 0 n 0 (by decide) hd
   have h2:((l.take (l.length-trail32 l)).drop (signOf l).1).length<=l.length:=by simp;exact om170
   have h3:n<10^l.length:=a1C h1 (by rw[Nat.zero_add];exact Nat.pow_le_pow_right (by decide) h2)
   subst h
   split<;>(first|exact om264 h3|exact om307 h3)
theorem m0f {x:Str}{v:Int}{d:Int}(h:numF x.cps.toList=some v)(hx:x.length<=200)(hd:d.natAbs<=10):(v-d).natAbs.log2<1920:=by
 have h1:=m1w h
 have h2:(10:Nat)^x.cps.toList.length<=10^200:=Nat.pow_le_pow_right (by decide) (by simpa[Str.length]using hx)
 have h3:(10:Nat)^200+10<2^1920:=by decide+kernel
 have h4:(v-d).natAbs<=v.natAbs+d.natAbs:=om56
 generalize(10:Nat)^200=P at*
 generalize(10:Nat)^x.cps.toList.length=P2 at*
 by_cases h0:(v-d).natAbs=0
 ·rw[h0];decide
 ·refine(Nat.log2_lt h0).mpr ?_
  generalize hP3:(2:Nat)^1920=P3 at*
  exact om157 h1 hd h3 h2
theorem m4v {x:Str}{v:Int}(h:numF x.cps.toList=some v)(hx:x.length<=200):v.natAbs.log2<1920:=by
 have:=m0f (d:=0) h hx (by decide)
 simpa using this
@[irreducible] noncomputable def istr (v:Int):Str:=Str.ofString (toString v)
theorem k5r (v:Int):Str.ofString (toString v)=istr v:=by unfold istr;rfl
set_option tactic.hygienic true in
theorem m5i:∀(fuel n k:Nat) (ds:List Char),n<10^(k+1) ->(Nat.toDigitsCore 10 fuel n ds).length<=(k+1)+ds.length
 |0,n,k,ds,_=>by simp only[Nat.toDigitsCore];exact om469
 |fuel+1,n,k,ds,h=>by
  simp only[Nat.toDigitsCore]
  split
  ·simp only[a0Q];exact om431
  ·rename_i h0
   cases k with
   |zero=>exact absurd (Nat.div_eq_of_lt (by simpa using h)) h0
   |succ k=>
    have:=m5i fuel (n/10) k (Nat.digitChar (n%10)::ds) (by rw[Nat.pow_succ]at h;exact om211 h)
    simp only[a0Q]at this
    exact om325 this
theorem k4r {n k:Nat}(h:n<10^(k+1)):(Nat.repr n).length<=k+1:=by
 have:=m5i (n+1) n k [] h
 rw[Nat.repr,String.length_ofList]
 exact this
theorem m0n {v:Int}(h:v.natAbs.log2<1920):(istr v).length<=1000:=by
 have hb:v.natAbs<10^(639+1):=by
  by_cases h0:v.natAbs=0
  ·rw[h0];exact Nat.pow_pos (by decide)
  ·refine a1C ((Nat.log2_lt h0).mp h) ?_
   rw[show(1920:Nat)=3*640 from rfl,Nat.pow_mul]
   exact Nat.pow_le_pow_left (by decide) _
 unfold istr
 rw[ofString_len]
 cases v with
 |ofNat n=>
  have:=k4r (n:=n) hb
  show(Nat.repr n).length<=1000
  exact om542 this
 |negSucc n=>
  have:=k4r (n:=n+1) hb
  show("-"++Nat.repr (n+1)).length<=1000
  rw[String.length_append]
  have:"-".length=1:=rfl
  exact om385 this (by assumption)
noncomputable def k1x (x y:Str):Bool:=x==Str.ofString "SunOS"&&y !=Str.ofString ""&&decide (53<=(Txt.item y 0).cps.getD 0 0)
noncomputable def k1k (x y:Str):Str:=if k1x x y then Str.ofString "Solaris" else if Txt.slice x none (some 3)=Str.ofString "win" then Str.ofString "Windows" else x
noncomputable def k1j (y:Str):List Str:=match numF ((cutF y).getD 0 Str.empty).cps.toList with
 |none=>cutF y
 |some v=>istr (v-3)::(cutF y).drop 1
noncomputable def k1n (x y:Str):Str:=if k1x x y then Txt.join (Str.ofString ".") (k1j y)else y
theorem p2y {x y:Str}(h1:(x==Str.ofString "SunOS")=true)(h2:(y !=Str.ofString "")=true)(h3:(53:Int)<=((Txt.item y 0).cps.getD 0 0:Nat)):k1x x y=true:=by
 unfold k1x;rw[h1,h2,a3N (Int.ofNat_le.mp h3)];rfl
theorem p0p {x y:Str}(h1:(x==Str.ofString "SunOS")=false):k1x x y=false:=by unfold k1x;rw[h1];rfl
theorem p0o {x y:Str}(h1:(y !=Str.ofString "")=false):k1x x y=false:=by unfold k1x;rw[h1,Bool.and_false];rfl
theorem p0n {x y:Str}(h3:¬(53:Int)<=((Txt.item y 0).cps.getD 0 0:Nat)):k1x x y=false:=by
 unfold k1x;rw[a2G (om549 h3),Bool.and_false]
noncomputable def normStep (ts:List Str)(c:Str):List Str:=if c=Str.ofString ""∨c=Str.ofString "." then ts else if c≠Str.ofString ".." then ts++[c]else ts.dropLast
noncomputable def normTo (xs:List Str)(i:Nat):List Str:=(xs.take i).foldl normStep []
theorem m3l {xs:List Str}{i:Nat}{c:Str}(h:xs[i]?=some c):normTo xs (i+1)=normStep (normTo xs i) c:=by
 unfold normTo;rw[a2A,h,a3K];rfl
noncomputable def k7l (x:Str):List Str:=(Txt.split (restOf x) (Str.ofString "/")).foldl normStep []
noncomputable def normF (x:Str):Str:=k1m x++Txt.join (Str.ofString "/") (k7l x)
theorem m4w:∀(xs ts:List Str),(xs.foldl normStep ts).length<=ts.length+xs.length
 | [],ts=>a0W _
 |c::r,ts=>by
  have:=m4w r (normStep ts c)
  have h2:(normStep ts c).length<=ts.length+1:=by unfold normStep;split<;>(try split)<;>simp<;>exact om250
  simp only[a1Y,a0Q];exact om103 h2 this
theorem m4x {k:Nat}:∀(xs ts:List Str),AllLen k xs ->AllLen k ts ->AllLen k (xs.foldl normStep ts)
 | [],ts,_,h=>h
 |c::r,ts,hx,ht=>by
  refine m4x r (normStep ts c) (fun p hp=>hx p (a4T _ hp)) ?_
  unfold normStep
  split
  ·exact ht
  ·split
   ·exact k3s ht (k0k (hx c a4M) k1b)
   ·exact fun p hp=>ht p (List.dropLast_subset _ hp)
theorem p1j (x:Str):(restOf x).length<=x.length:=by
 unfold restOf;split
 ·exact a0W _
 ·split<;>exact k3c _ _ _
set_option tactic.hygienic true in
theorem len0 {c:Str}(h:(c.length:Int)=0):c=Str.ofString "":=by
 have hs:c.cps.size=0:=by have:c.length=c.cps.size:=rfl;exact om456 h this
 cases c;rename_i a;have:a= #[]:=Array.eq_empty_of_size_eq_zero hs;subst this;decide+kernel
theorem p4w {ts:List Str}{c:Str}(h:Str.ofString ".."∉ts)(hc:c≠Str.ofString ".."):Str.ofString ".."∉ts++[c]:=by
 rw[a0V,a0B]
 rintro(q|q)
 ·exact h q
 ·exact hc q.symm
noncomputable def joinStep (p b:Str):Str:=if Txt.startswith b (Str.ofString "/")=true∨p=Str.ofString "" then b else if Txt.endswith p (Str.ofString "/")=true then p++b else p++(Str.ofString "/"++b)
theorem k1o:∀a:List Str,ltList a a=false
 | []=>rfl
 |x::xs=>by simp only[ltList,a4Q];exact k1o xs
theorem m3q {x y:Str}(h:k4t x y=true):k4t y x=false:=by
 unfold k4t at h⊢
 have h1:=of_decide_eq_true h
 exact a2G (fun h2=>absurd (List.lt_trans h1 h2) (List.lt_irrefl _))
theorem k7t {x y:Str}(h1:k4t x y=false)(h2:k4t y x=false):x=y:=by
 unfold k4t at h1 h2
 have h1:=a4K h1
 have h2:=a4K h2
 have e:x.cps.toList=y.cps.toList:=List.le_antisymm (List.not_lt.mp h2) (List.not_lt.mp h1)
 cases x;cases y
 rw[Str.mk.injEq]
 exact Array.toList_inj.mp e
theorem k1e:∀a b:List Str,ltList a b=true ->ltList b a=false
 | [],[],h=>by cases h
 | [],_::_,_=>rfl
 |_::_,[],h=>by cases h
 |x::xs,y::ys,h=>by
  unfold ltList at h⊢
  by_cases e:x=y
  ·rw[if_pos e]at h;rw[if_pos e.symm];exact k1e xs ys h
  ·rw[if_neg e]at h;rw[if_neg (Ne.symm e)];exact m3q h
theorem k9i:∀a b:List Str,ltList a b=false ->ltList b a=false ->a=b
 | [],[],_,_=>rfl
 | [],_::_,h,_=>by cases h
 |_::_,[],_,h=>by cases h
 |x::xs,y::ys,h1,h2=>by
  unfold ltList at h1 h2
  by_cases e:x=y
  ·rw[if_pos e]at h1;rw[if_pos e.symm]at h2;rw[e,k9i xs ys h1 h2]
  ·rw[if_neg e]at h1;rw[if_neg (Ne.symm e)]at h2;exact absurd (k7t h1 h2) e
set_option tactic.hygienic true in
theorem m8z:∀(a b:List Str) (i:Nat),ltList b a=false ->i<=lcp a b ->i<a.length ->i<b.length
 | [],_,_,_,_,h=>by simp at h
 |_::_,[],_,h,_,_=>by cases h
 |x::xs,y::ys,0,_,_,_=>by simp
 |x::xs,y::ys,i+1,h,h1,h2=>by
  unfold ltList at h
  unfold lcp at h1
  split at h1
  ·rename_i q
   rw[if_pos q.symm]at h
   have:=m8z xs ys i h (p4u h1) (by simpa using h2)
   simp;exact om241 this
  ·exact(p4n h1).elim
theorem m5a:∀a b:List Str,lcp a b=lcp b a
 | [],[]=>rfl
 | [],_::_=>rfl
 |_::_,[]=>rfl
 |x::xs,y::ys=>by
  unfold lcp
  by_cases e:x=y
  ·rw[if_pos e,if_pos e.symm,m5a xs ys]
  ·rw[if_neg e,if_neg (Ne.symm e)]
theorem k1p:∀a b:List Str,a.take (lcp a b)=b.take (lcp b a)
 | [],[]=>rfl
 | [],_::_=>rfl
 |_::_,[]=>rfl
 |x::xs,y::ys=>by
  unfold lcp
  by_cases e:x=y
  ·rw[if_pos e,if_pos e.symm,List.take_succ_cons,List.take_succ_cons,k1p xs ys,e]
  ·rw[if_neg e,if_neg (Ne.symm e)];rfl
noncomputable def partsOf (t:Str):List Str:=if t=Str.ofString "" then []else Txt.split t (Str.ofString "/")
noncomputable def tailOf (x:Str):Str:=Txt.lstripChars (normF x) (Str.ofString "/")
noncomputable def relL (x y:Str):List Str:=List.replicate ((partsOf (tailOf y)).length-lcp (partsOf (tailOf y)) (partsOf (tailOf x))) (Str.ofString "..")++(partsOf (tailOf x)).drop (lcp (partsOf (tailOf y)) (partsOf (tailOf x)))
noncomputable def relF (x y:Str):Str:=if relL x y=[]then Str.ofString "." else Txt.join (Str.ofString "/") (relL x y)
theorem m5n {k j:Nat}{x:Str}(h:x.length<=k):AllLen k (List.replicate j x):=fun p hp=>by rw[List.eq_of_mem_replicate hp];exact h
noncomputable def normP (x y:Str):List Str:=if y=Str.ofString "" then cutF x else cutF x++[y]
noncomputable def allNum (xs:List Str):Bool:=xs.all fun x=>(numF x.cps.toList).isSome
noncomputable def numsOf (xs:List Str):List Int:=xs.map fun x=>(numF x.cps.toList).getD 0
noncomputable def k0o (x y:Str):Str:=Txt.join (Str.ofString ".") ((if allNum (normP x y)then(numsOf (normP x y)).map istr else normP x y).take 3)
theorem p1v {xs:List Str}{n:Int}(ha:allNum xs=true)(hl:AllLen 200 xs)(hn:n∈numsOf xs):n.natAbs.log2<1920:=by
 refine x1a2 (a0K.mp hn) fun x hx za=>?_;obtain rfl:=za
 have h1:=List.all_eq_true.mp ha x hx
 obtain⟨v,hv⟩:=a6T.mp h1
 rw[hv]
 exact m4v hv (hl x hx)
theorem m6p {ns:List Int}(h:∀n∈ns,n.natAbs.log2<1920):AllLen 1000 (ns.map istr):=fun p hp=>by
 refine x1a2 (a0K.mp hp) fun n hn za=>?_;obtain rfl:=za
 exact m0n (h n hn)
noncomputable def blankF (x:Str):Str:=if x=Str.ofString "unknown" then Str.ofString "" else x
noncomputable def commonTo (xss:List (List Str)):Nat ->List Str
 |0=>xss.getD 0 []
 |i+1=>(commonTo xss i).take (lcp (commonTo xss i) (xss.getD i []))
noncomputable def k0y (xss:List (List Str)):List Str:=commonTo xss xss.length
theorem k6a {xss:List (List Str)}{k:Nat}(h:(xss.getD 0 []).length<=k):∀i,(commonTo xss i).length<=k
 |0=>h
 |i+1=>by rw[commonTo,a2F];exact a0H (Nat.min_le_right _ _) (k6a h i)
noncomputable def verParts (x b:PySem.Str):List PySem.Str:=if(b !=PySem.Str.ofString "")=true then Txt.split x (PySem.Str.ofString ".")++[b]else Txt.split x (PySem.Str.ofString ".")
open Classical in
noncomputable def verF (x b:PySem.Str):PySem.Str:=Txt.join (PySem.Str.ofString ".") ((if(∀p∈verParts x b,readable p=true)then(verParts x b).map reread else verParts x b).take 3)
section
variable {C:Cx}{σ:Loc}{ld:Led}{x:PySem.Str}{a b:Expr}{pos ap:Pos}{P:SV ->Led ->Prop}
theorem Ew.a6 (ha:Ev C σ ld a (.str x))(hb:Ew C σ ld b fun sv ld'=>∃D ts,sv=SR D∧Has C σ ld' D (.list (ts.map .str))∧AllLen 1000 ts∧ts.length<=1000∧P (.str (Txt.join x ts)) ld')(hx:x.length<=10){pl:Sem Bool}
  (he:autoParam (eval (.Call (.Attribute a (Str.ofString "join") ap) [b] [] pos) C.env=(do
   let ov <-eval a C.env
   standAt ap.atName
   let(f,first) <-holding [ov] (getMethod ov (Str.ofString "join") pl)
   callWith pos f first (backTo pos (starEach [b] C.env)) [])) aR)
  (hs:autoParam (starEach [b] C.env=(false,eval b C.env)::starEach [] C.env) aR):Ew C σ ld (.Call (.Attribute a (Str.ofString "join") ap) [b] [] pos) P:=by
 refine Ew.meth (T:="str") (id:="str.join") ha (EwL.cons ?_ hs) .str a6R F.slot_str_join F.type_str_join he hs (by rfl)
 refine .mk fun s Q E H k=>hb.run s Q E H fun v sv ld' s' hv p H'=>k v sv ld' s' hv (EwL.nil fun _ v0 vs s Q E hv0 hvs H k=>?_) H'
 refine x2a5 p fun D ts za hD h1 h2 hp=>?_;clear p;obtain rfl:=za
 obtain⟨t,rfl⟩:=hv0
 refine x1a2 hvs.one fun _ za zb=>?_;obtain rfl:=za;obtain rfl:=zb
 refine x1a2 (hD.isList H) fun vs hI hA=>?_
 exact m5b hI hA.strs h1 h2 hx fun t' tk _=>k _ (.str (Txt.join x ts)) _ _ ⟨_,rfl⟩ hp H.toks
end
theorem m7e {w:World}{x b:PySem.Str}(hx:x.length<=300)(hb:b.length<=300)(hr:∀p∈verParts x b,(reprText p).length<=sizeLine)(hi:∀p∈verParts x b,∀n,PySem.intText? p=some n ->n.natAbs.log2<1920)
  (hrr:∀p∈verParts x b,readable p=true ->(reread p).length<=1000){svs:List SV}{binds:List Value ->List (Str×Value)}
  (hbind:∀vs (s:Shared) fd oc od osl,(hd.heap_1 w.params).lookup 29=some ⟨oc,od,.func fd,osl⟩ ->(hd.heap_1 w.params).In s.heap ->Are svs vs ->BindsTo s fd ⟨vs,[]⟩ (binds vs))(hσ:∀vs,Are svs vs ->BindIs [(Str.ofString "build",.str b),(Str.ofString "version",.str x)] (binds vs).reverse)
  (hloc:∀vs,Are svs vs ->∀y∈binds vs,y.1=Str.ofString "version"∨y.1=Str.ofString "build"):CnF w 29 svs (verF x b):=by
 have hall:AllLen 300 (verParts x b):=by
  have h1:AllLen 300 (Txt.split x (PySem.Str.ofString ".")):=k0f (k0s _ _) hx
  unfold verParts
  split
  ·exact k3s h1 (k0k hb k1b)
  ·exact h1
 have hcount:(verParts x b).length<=400:=by
  have h1:=k0l x (PySem.Str.ofString ".")
  unfold verParts
  split
  ·rw[a0Y];simp only[a0Q,a3F];exact om359 h1 hx
  ·exact om410 h1 hx
 refine p0e (σ:=[(Str.ofString "build",.str b),(Str.ofString "version",.str x)]) (binds:=binds) (by k_is) (by k_is) (fun vs s X h=>hbind vs s _ _ _ _ (by k_is) X h) hσ (fun vs h y hy=>?_) (fun h₀ sh L env1 F1 B4=>?_)
 ·rcases hloc vs h y hy with q|q
  ·rw[q];rfl
  ·rw[q];rfl
 intro C G ho
 refine Xs.cons (X1.a0 (Ew.a5 (Ev.name (by with_unfolding_all rfl)) Ev.a0 (by decide+kernel) (om320 hx) fun D=>?_))
 show Xs C _ _ _ _
 refine Xs.a0 1 (fun σ ld=>σ=[(Str.ofString "l",SR D)]∧ld=[(D,.list ((verParts x b).map .str)),(F1,.frm B4)]) ?_ ?_
 ·show Xs C _ _ [_] _
  refine Xs.cons (X1.a1 (Tst.ofS (Ev.name (by with_unfolding_all rfl)) (om559 hb)) (fun q=>?_) (fun q=>?_))
  ·refine Xs.cons (X1.append (xs:=(Txt.split x (PySem.Str.ofString ".")).map .str) (Ev.name (by with_unfolding_all rfl)) (Ev.name (by with_unfolding_all rfl)) .head (by have:=k0l x (PySem.Str.ofString ".");simp;exact om397 this hx) ?_)
   show Xs C _ _ [] _
   refine Xs.nil ?_
   show Xs C _ _ [] _
   refine Xs.nil ?_
   refine⟨_,_,⟨rfl,rfl⟩,⟨by with_unfolding_all rfl,trivial⟩,?_⟩
   unfold verParts
   rw[if_pos q,a0U]
   exact a3Y _
  ·refine Xs.nil ?_
   show Xs C _ _ [] _
   refine Xs.nil ?_
   refine⟨_,_,⟨rfl,rfl⟩,⟨by with_unfolding_all rfl,trivial⟩,?_⟩
   unfold verParts
   rw[if_neg (by rw[q];decide)]
   exact a3Y _
 ·rintro σ ld ⟨rfl,rfl⟩
  show Xs C _ _ (_::_) _
  refine Xs.a0 1 (fun σ ld=>∃(ts:List PySem.Str) (D':Addr),σ=[(Str.ofString "strings",SR D')]∧ld=[(D',.list (ts.map .str)),(F1,.frm B4)]∧AllLen 1000 ts∧ts.length<=400∧Txt.join (PySem.Str.ofString ".") (ts.take 3)=verF x b) ?_ ?_
  ·show Xs C _ _ [_] _
   refine Xs.cons (X1.tryA (outer:=[env1]) G (Er.listmap G (Ev.name (by with_unfolding_all rfl)) (Has.mem (.head _)) (om554 hcount) (fun p hp=>a0H (hall p hp) (by decide)) hr hi fun hok D'=>?_) (fun hno a=>?_) rfl (fun env he=>let⟨k,F,o,a,b,c⟩:=ho env he;⟨k,F,o,a,.tail _ b,c⟩))
   ·refine Xs.nil ?_
    show Xs C _ _ [] _
    refine Xs.nil ?_
    refine⟨_,_,⟨(verParts x b).map reread,D',rfl,rfl,fun p hp=>?_,by simp;exact om309 hcount,by unfold verF;rw[if_pos hok]⟩,⟨by with_unfolding_all rfl,trivial⟩,.cons_cons _ (.cons _ (.refl _))⟩
    refine x1a2 (a0K.mp hp) fun q hq za=>?_;obtain rfl:=za
    exact hrr q hq (hok q hq)
   ·refine Xs.cons (X1.a0 (Ew.pure (Ev.name (by with_unfolding_all rfl)) ?_))
    show Xs (C.caught a) _ _ [] _
    refine Xs.nil ?_
    show Xs C _ _ [] _
    refine Xs.nil ?_
    exact⟨_,_,⟨verParts x b,D,rfl,rfl,k0f hall (by decide),by exact om309 hcount,by unfold verF;rw[if_neg hno]⟩,⟨by with_unfolding_all rfl,trivial⟩,.refl _⟩
  ·rintro σ ld zu;refine x2a5 zu fun ts D' za zb h4 h5 h6=>?_;clear zu;refine eq2 za zb ?_;clear za zb
   show Xs C _ _ [_,_] _
   refine Xs.cons (X1.a0 (Ew.a6 Ev.a0 (Ew.a3 (Ev.name (by with_unfolding_all rfl)) (Has.mem (.head _)) Ev.a1 (by decide) (by simp;exact om550 h5) fun D2=>?_) (by decide+kernel)))
   refine⟨D2,ts.take 3,rfl,?_,m2u h4,by simp;exact om94,?_⟩
   ·rw[a6C];exact Has.mem (.head _)
   ·show Xs C _ _ [_] _
    refine Xs.cons (X1.ret (Ew.pure (Ev.name (by with_unfolding_all rfl)) ?_))
    exact⟨by rw[h6],.tail _ (.tail _ (.head _))⟩
theorem ver_cn {w:World}{x b:PySem.Str}(hx:x.length<=300)(hb:b.length<=300)(hr:∀p∈verParts x b,(reprText p).length<=sizeLine)(hi:∀p∈verParts x b,∀n,PySem.intText? p=some n ->n.natAbs.log2<1920)
  (hrr:∀p∈verParts x b,readable p=true ->(reread p).length<=1000):CnF w 29 [.str x,.str b] (verF x b):=by
 refine m7e hx hb hr hi hrr (binds:=fun vs=>[(Str.ofString "version",vs.headD .none),(Str.ofString "build",vs.getD 1 .none)]) (fun vs s fd oc od osl e X h=>?_) (fun vs h=>?_) (fun vs h y hy=>?_)
 ·have key:∀ {o':Obj},(hd.heap_1 w.params).lookup 29=some o' ->o'=⟨oc,od,.func fd,osl⟩:=fun h=>a4X (h.symm.trans e)
  have q:=key (by k_is)
  cases q
  refine x2a3 h.two fun _ _ za zb zx=>ex1 zx fun u zc=>?_;clear zx;obtain rfl:=za;obtain⟨t,rfl⟩:=zb;obtain rfl:=zc
  exact binds_K X rfl (by k_is) rfl rfl rfl
 ·refine x2a3 h.two fun _ _ za zb zx=>ex1 zx fun u zc=>?_;clear zx;obtain rfl:=za;obtain⟨t,rfl⟩:=zb;obtain rfl:=zc
  exact .cons ⟨_,rfl⟩ (.cons ⟨_,rfl⟩ .nil)
 ·rcases a0G.mp hy with rfl|hy
  ·exact .inl rfl
  ·rw[a0B.mp hy];exact .inr rfl
theorem p3u {w:World}{x:PySem.Str}(hx:x.length<=300)(hr:∀p∈verParts x (Str.ofString ""),(reprText p).length<=sizeLine)(hi:∀p∈verParts x (Str.ofString ""),∀n,PySem.intText? p=some n ->n.natAbs.log2<1920)
  (hrr:∀p∈verParts x (Str.ofString ""),readable p=true ->(reread p).length<=1000):CnF w 29 [.str x] (verF x (Str.ofString "")):=by
 refine m7e hx (by decide+kernel) hr hi hrr (binds:=fun vs=>[(Str.ofString "version",vs.headD .none),(Str.ofString "build",.str (Str.ofString "") 196)]) (fun vs s fd oc od osl e X h=>?_) (fun vs h=>?_) (fun vs h y hy=>?_)
 ·have key:∀ {o':Obj},(hd.heap_1 w.params).lookup 29=some o' ->o'=⟨oc,od,.func fd,osl⟩:=fun h=>a4X (h.symm.trans e)
  have q:=key (by k_is)
  cases q
  refine x1a2 h.one fun _ za zx=>ex1 zx fun t zb=>?_;clear zx;refine eq2 za zb ?_;clear za zb
  exact binds_K X rfl (by k_is) rfl rfl rfl
 ·refine x1a2 h.one fun _ za zx=>ex1 zx fun t zb=>?_;clear zx;obtain rfl:=za;obtain rfl:=zb
  exact .cons ⟨_,rfl⟩ (.cons ⟨_,rfl⟩ .nil)
 ·rcases a0G.mp hy with rfl|hy
  ·exact .inl rfl
  ·rw[a0B.mp hy];exact .inr rfl
section
open PySem.Builtin PySem.Builtin.Str PySem.StrLaws
noncomputable def repl (y z:List Nat):Nat ->List Nat ->List Nat
 |_,[]=>[]
 |0,a::r=>if(a::r).take y.length==y then z++repl y z (y.length-1) r else a::repl y z 0 r
 |k+1,_::r=>repl y z k r
noncomputable def k0r (y:List Nat):Nat ->Nat ->List Nat ->List Nat
 |_,_,[]=>[]
 |i,0,a::r=>if(a::r).take y.length==y then i::k0r y (i+1) (y.length-1) r else k0r y (i+1) 0 r
 |i,k+1,_::r=>k0r y (i+1) k r
theorem p1u {x y:Str}(hy:y.cps.toList≠[])(lim:Nat):∀(l:List Nat) (i k:Nat) (found:Array Nat),x.cps.toList.drop i=l ->i+l.length=x.length ->found.size+l.length<lim ->
  ((forIn (List.range' i (l.length+1)) (found,i+k) (occBody x y x.length lim)).run.fst).toList=found.toList++k0r y.cps.toList i k l:=by
 have hyl:y.length=y.cps.toList.length:=rfl
 have hy1:1<=y.cps.toList.length:=by
  cases q:y.cps.toList with
  |nil=>exact absurd q hy
  |cons a r=>simp
 intro l
 induction l with
 |nil=>
  intro i k found hd hl hf
  show((forIn [i] (found,i+k) (occBody x y x.length lim)).run.fst).toList=_
  rw[a4H]
  unfold occBody
  rw[if_neg fun h=>Nat.not_le_of_lt hy1 (Nat.le_of_add_le_add_left (a0H h.1.2 (a4L hl.symm)))]
  simp[k0r]
 |cons a r ih=>
  intro i k found hd hl hf
  have hd':x.cps.toList.drop (i+1)=r:=by rw[<-List.drop_drop,hd];rfl
  simp only[a0Q]at hl hf
  rw[show(a::r).length+1=(r.length+1)+1 from rfl,List.range'_succ,a4H]
  cases k with
  |zero=>
   by_cases hm:((a::r).take y.cps.toList.length==y.cps.toList)=true
   ·have hlen:y.cps.toList.length<=(a::r).length:=by
     have:=a3C List.length (a1T.mp hm)
     rw[a2F]at this;exact om121 this
    have hcond:(((found,i+0).fst.size<lim∧(found,i+0).snd<=i)∧i+y.length<=x.length)∧subAt x y i=true:=by
     refine⟨⟨⟨by simp only;exact Nat.lt_of_add_right_lt hf,by simp⟩,by rw[hyl];simp only[a0Q]at hlen;exact om342 hl hlen⟩,?_⟩
     rw[subAt_eq,hd,hyl];exact hm
    unfold occBody
    rw[if_pos hcond]
    show((forIn (List.range' (i+1) (r.length+1)) (found.push i,i+y.length) (occBody x y x.length lim)).run.fst).toList=_
    rw[show i+y.length=(i+1)+(y.cps.toList.length-1)from by rw[hyl];exact om199 hy1,ih (i+1) _ _ hd' (om5 hl) (by simp only[Array.size_push];exact om82 hf)]
    simp only[k0r,hm,a4Q]
    simp
   ·have hcond:¬((((found,i+0).fst.size<lim∧(found,i+0).snd<=i)∧i+y.length<=x.length)∧subAt x y i=true):=by
     rintro⟨_,h⟩
     rw[subAt_eq,hd,hyl]at h
     exact hm h
    unfold occBody
    rw[if_neg hcond]
    show((forIn (List.range' (i+1) (r.length+1)) (found,i) (occBody x y x.length lim)).run.fst).toList=_
    have e1:k0r y.cps.toList i 0 (a::r)=k0r y.cps.toList (i+1) 0 r:=by simp only[k0r];rw[if_neg hm]
    rw[e1,<-ih (i+1) 0 found hd' (om5 hl) (om140 hf)]
    suffices h:∀(l:List Nat) (st:Array Nat),(∀j∈l,i+1<=j) ->(forIn l (st,i) (occBody x y x.length lim)).run.fst=(forIn l (st,i+1) (occBody x y x.length lim)).run.fst by
     exact a3C Array.toList (h _ _ fun j hj=>(List.mem_range'_1.mp hj).1)
    intro l
    induction l with
    |nil=>intros;rfl
    |cons b t iht=>
     intro st hb
     have h1:i+1<=b:=hb b (.head _)
     rw[a4H,a4H]
     unfold occBody
     by_cases hc:(((st.size<lim∧i<=b)∧b+y.length<=x.length)∧subAt x y b=true)
     ·rw[if_pos hc,if_pos (show(((st.size<lim∧i+1<=b)∧b+y.length<=x.length)∧subAt x y b=true)from⟨⟨⟨hc.1.1.1,h1⟩,hc.1.2⟩,hc.2⟩)]
     ·rw[if_neg hc,if_neg (show¬(((st.size<lim∧i+1<=b)∧b+y.length<=x.length)∧subAt x y b=true)from fun q=>hc ⟨⟨⟨q.1.1.1,by exact om48 h1⟩,q.1.2⟩,q.2⟩)]
      exact iht st fun j hj=>hb j (.tail _ hj)
  |succ k=>
   have hcond:¬((((found,i+(k+1)).fst.size<lim∧(found,i+(k+1)).snd<=i)∧i+y.length<=x.length)∧subAt x y i=true):=by
    rintro⟨⟨⟨_,h⟩,_⟩,_⟩
    simp only at h;exact(om507 h).elim
   unfold occBody
   rw[if_neg hcond]
   show((forIn (List.range' (i+1) (r.length+1)) (found,i+(k+1)) (occBody x y x.length lim)).run.fst).toList=_
   rw[show i+(k+1)=(i+1)+k from om57,ih (i+1) k found hd' (om5 hl) (om140 hf)]
   rfl
theorem m8n {x y:Str}(hy:y.cps.toList≠[]):occurrences x y 0 x.length (x.length+1)=k0r y.cps.toList 0 0 x.cps.toList:=by
 rw[occ_eq]
 have:=p1u hy (x.length+1) x.cps.toList 0 0 #[] rfl (by rw[Nat.zero_add];rfl) (by show 0+x.cps.toList.length<_;have:x.cps.toList.length=x.length:=rfl;exact om515 this)
 rw[show x.length+1-0=x.cps.toList.length+1 from rfl]
 simpa using this
noncomputable def gl (z:List Nat):List (List Nat) ->List Nat
 | []=>[]
 |p::r=>p++(r.map fun q=>z++q).flatten
theorem m5c (z:Str)(ps:List Str):(glued z ps).cps.toList=gl z.cps.toList (ps.map fun p=>p.cps.toList):=by
 cases ps with
 |nil=>rfl
 |cons p r=>
  have:∀(l:List Str) (acc:Array Nat),(l.foldl (fun acc p=>acc++z.cps++p.cps) acc).toList=acc.toList++((l.map fun p=>p.cps.toList).map fun q=>z.cps.toList++q).flatten:=by
   intro l
   induction l with
   |nil=>intro acc;simp
   |cons q t ih=>intro acc;rw[a1Y,ih];simp
  show(r.foldl (fun acc p=>acc++z.cps++p.cps) p.cps).toList=_
  rw[this]
  rfl
noncomputable def partsF (x:List Nat)(w:Nat)(s:Nat):List Nat ->List (List Nat)
 | []=>[(x.drop s).take (x.length-s)]
 |c::r=>(x.drop s).take (c-s)::partsF x w (c+w) r
theorem m0d (x:Str)(w:Nat):∀(cuts:List Nat) (s:Nat),(((s::cuts.map (· +w)).zip (cuts++[x.length])).map fun(i,j)=>strSub x i j).map (fun p=>p.cps.toList)=partsF x.cps.toList w s cuts
 | [],s=>by
  simp only[a6V,a2V,List.zip_cons_cons,List.zip_nil_left,a0P,partsF,strSub,Array.toList_extract,List.extract_eq_take_drop]
  rfl
 |c::r,s=>by
  have ih:=m0d x w r (c+w)
  simp only[a0P,a3H,List.zip_cons_cons,partsF,strSub,Array.toList_extract,List.extract_eq_take_drop]at ih⊢
  rw[<-ih]
theorem k2e {z:List Nat}{p:List Nat}{r:List (List Nat)}(h:r≠[]):gl z (p::r)=p++z++gl z r:=by
 cases r with
 |nil=>exact absurd rfl h
 |cons q t=>simp[gl]
theorem m8l (x:List Nat)(w s:Nat)(c:List Nat):partsF x w s c≠[]:=by cases c<;>simp[partsF]
theorem p2d {x y z:List Nat}(hy:y≠[]):∀(l:List Nat) (i k s:Nat),x.drop i=l ->i+l.length=x.length ->(k=0 ->s<=i) ->(0<k ->s=i+k) ->i+k<=x.length ->
  gl z (partsF x y.length s (k0r y i k l))=(x.drop s).take (i-s)++repl y z k l:=by
 have hy1:1<=y.length:=by
  cases q:y with
  |nil=>exact absurd q hy
  |cons a r=>simp
 intro l
 induction l with
 |nil=>
  intro i k s hd hl h0 h1 hk
  simp only[a3F]at hl
  have:x.length-s=i-s:=om76 hl
  simp[k0r,partsF,gl,repl,this]
 |cons a r ih=>
  intro i k s hd hl h0 h1 hk
  have hd':x.drop (i+1)=r:=by rw[<-List.drop_drop,hd];rfl
  simp only[a0Q]at hl
  have hi:i<x.length:=om447 hl
  have hxi:x[i]?=some a:=by
   have:=a3C (fun l=>l[0]?) hd
   simpa using this
  cases k with
  |zero=>
   have h0:=h0 rfl
   by_cases hm:((a::r).take y.length==y)=true
   ·have hlen:y.length<=(a::r).length:=by
     have:=a3C List.length (a1T.mp hm)
     rw[a2F]at this;exact om121 this
    simp only[a0Q]at hlen
    simp only[k0r,repl,hm,a4Q,partsF]
    rw[k2e (m8l _ _ _ _),ih (i+1) (y.length-1) (i+y.length) hd' (om5 hl) om281 om228 (om184 hl hlen)]
    rw[show i+1-(i+y.length)=0 from by exact om287 hy1]
    simp
   ·simp only[k0r,repl]
    rw[if_neg hm,if_neg hm,ih (i+1) 0 s hd' (om5 hl) (om346 h0) om592 (Nat.succ_le_of_lt hi)]
    have:(x.drop s).take (i+1-s)=(x.drop s).take (i-s)++[a]:=by
     rw[show i+1-s=(i-s)+1 from om16 h0,a2A]
     congr 1
     rw[List.getElem?_drop,show s+(i-s)=i from om55 h0,hxi];rfl
    rw[this];simp
  |succ k=>
   have h1:=h1 (Nat.succ_pos _)
   simp only[k0r,repl]
   rw[ih (i+1) k s hd' (om5 hl) (om248 h1) (om206 h1) (om232 hk)]
   rw[show i+1-s=0 from om162 h1,show i-s=0 from by exact om164 h1]
set_option tactic.hygienic true in
theorem k2v {y z:List Nat}:∀(l:List Nat) (i:Nat),k0r y i 0 l=[] ->repl y z 0 l=l
 | [],_,_=>rfl
 |a::r,i,h=>by
  unfold k0r at h
  unfold repl
  split at h
  ·cases h
  ·rename_i hm
   rw[if_neg hm,k2v r (i+1) h]
set_option tactic.hygienic true in
theorem k2c {x y z:Str}(hy:y.cps.toList≠[]):(Txt.replace x y z).cps.toList=repl y.cps.toList z.cps.toList 0 x.cps.toList:=by
 have hyl:(y.length==0)=false:=by
  have:y.length=y.cps.toList.length:=rfl
  rw[this]
  cases q:y.cps.toList with
  |nil=>exact absurd q hy
  |cons a r=>simp
 unfold Txt.replace
 rw[hyl,Bool.false_and,a6F,m8n hy]
 split
 ·rename_i h
  rw[k2v _ 0 (List.isEmpty_iff.mp h)]
 ·rw[m5c]
  unfold partsBetween
  rw[m0d]
  have:=p2d (x:=x.cps.toList) (z:=z.cps.toList) hy x.cps.toList 0 0 0 rfl (by simp) (fun _=>a0W _) (fun h=>absurd h (a1R _)) (a0R _)
  rw[show y.length=y.cps.toList.length from rfl,this]
  simp
set_option tactic.hygienic true in
theorem k5l {y z:List Nat}(h:z.length<=y.length):∀(l:List Nat) (k:Nat),(repl y z k l).length<=l.length-k
 | [],k=>by simp[repl]
 |a::r,0=>by
  unfold repl
  split
  ·rename_i hm
   have hA:=a3C List.length (a1T.mp hm)
   rw[a2F]at hA
   have hB:=k5l h r (y.length-1)
   simp only[a0Y,a0Q]at*;exact om58 hA hB h
  ·have:=k5l h r 0
   simp only[a0Q]at*;exact Nat.succ_le_succ this
 |a::r,k+1=>by
  unfold repl
  have:=k5l h r k
  simp only[a0Q];exact om113 this
set_option tactic.hygienic true in
theorem m3h {y z:List Nat}(h:z.length<y.length):∀(l:List Nat),repl y z 0 l=l∨(repl y z 0 l).length<l.length
 | []=>.inl rfl
 |a::r=>by
  unfold repl
  split
  ·rename_i hm
   have hA:=a3C List.length (a1T.mp hm)
   rw[a2F]at hA
   have hB:=k5l (a4C h) r (y.length-1)
   refine .inr ?_
   simp only[a0Y,a0Q]at*;exact om105 hA h hB
  ·rcases m3h h r with q|q
   ·exact .inl (by rw[q])
   ·exact .inr (by simp only[a0Q];exact om197 q)
end
structure Xt (C:Cx)(σ:Loc)(ld:Led)(l:List Stmt)(P:Fl ->Loc ->Led ->Prop):Prop where
 run:∀(s:Shared) (Q:Flow ->Shared ->Prop) (E:Value ->Shared ->Prop),1<=s.toks ->Hold C σ ld s ->(∀f fl σ' ld' s',fl.is f ->P fl σ' ld' ->Hold C σ' ld' s' ->Q f s') ->wpAny (model PR C.w) C.A (execs l C.env) Q E s
noncomputable def thenT (C:Cx)(rest:List Stmt)(P:Fl ->Loc ->Led ->Prop):Fl ->Loc ->Led ->Prop
 | .next,σ,ld=>Xt C σ ld rest P
 |f,σ,ld=>P f σ ld
section
variable {C:Cx}{σ:Loc}{ld:Led}{rest:List Stmt}{P:Fl ->Loc ->Led ->Prop}
theorem Xt.of {l:List Stmt}(h:Xs C σ ld l P):Xt C σ ld l P:=.mk fun s Q E ht H k=>h.run s Q E H k
theorem Xt.cons {st:Stmt}(h:X1 C σ ld st (thenT C rest P)):Xt C σ ld (st::rest) P:=.mk fun s Q E ht H k=>by
 refine wpAny_execs_cons (wpAny_with_toks ht (h.run s _ _ H fun f fl σ' ld' s' hf hp H' htk=>?_))
 cases fl with
 |next=>obtain rfl:=hf;exact hp.run s' Q E htk H' k
 |brk=>obtain rfl:=hf;exact k _ .brk σ' ld' s' rfl hp H'
 |cont=>obtain rfl:=hf;exact k _ .cont σ' ld' s' rfl hp H'
 |ret sv=>refine x1a2 hf fun v za hv=>?_;clear hf;obtain rfl:=za;exact k _ (.ret sv) σ' ld' s' ⟨v,rfl,hv⟩ hp H'
theorem Xt.weak {σ₁:Loc}{ld₁:Led}{l:List Stmt}(h:Xt C σ₁ ld₁ l P)(hσ:SubL σ σ₁)(hl:List.Sublist ld₁ ld):Xt C σ ld l P:=.mk fun s Q E ht H k=>h.run s Q E ht (H.sub hσ hl) k
theorem Xt.rep {x y:Str}{v a b:Str}{px py ap p1 p2 pos:Pos}{n1 n2:Nat}{cp:Pos}(hy:σ.lookup y=some (.str v))(hx:v.length<=1048576)(hz:b.length<=14)(hab:(a==b)=false)(h:Xt C ((x,.str (Txt.replace v a b))::σ) ld rest P)
  {pl:Sem Bool}(he:autoParam (eval (.Call (.Attribute (.Name y py) (Str.ofString "replace") ap) [.Constant (.str a) n1 p1,.Constant (.str b) n2 p2] [] cp) C.env=(do
   let ov <-eval (.Name y py) C.env
   standAt ap.atName
   let(f,first) <-holding [ov] (getMethod ov (Str.ofString "replace") pl)
   callWith cp f first (backTo cp (starEach [.Constant (.str a) n1 p1,.Constant (.str b) n2 p2] C.env)) [])) aR)
  (hxk:autoParam (C.env.kindOf x=some .local) aR) (hp:autoParam ((C.env.scope.kind==.class|| (C.env.scope.kind==.module&&C.env.locals !=C.env.globals))=false) aR)
  (hs:autoParam (swapsWith (.Call (.Attribute (.Name y py) (Str.ofString "replace") ap) [.Constant (.str a) n1 p1,.Constant (.str b) n2 p2] [] cp) (some (.Name x px)) pos.line C.env=Pure.pure false) aR)
  (hk:autoParam (C.env.scope.kind=.function) aR) (hd:autoParam ((y==("__debug__":Str))=false) aE) (hn:autoParam ((y==("__classdict__":Str))=false) aE):
  Xt C σ ld (.Assign [.Name x px] (.Call (.Attribute (.Name y py) (Str.ofString "replace") ap) [.Constant (.str a) n1 p1,.Constant (.str b) n2 p2] [] cp) pos::rest) P:=.mk fun s Q E ht H k=>by
 refine wpAny_execs_cons (wpAny_with_toks ht (wpAny_Assign_Name (MethodCall_ (wpAny_with_toks ht ((Ev.name hy hk hd hn).run s _ _ H fun v' s' g hv htk=>?_)) he) hs))
 obtain⟨t,rfl⟩:=hv
 have H':=H.go g
 refine a6A (typeIs_str _ _ _) a6R F.slot_str_replace F.type_str_replace (fun _ e=>nomatch e) ?_
 refine a6O (by rfl) (k0c (by rfl) (a2J (Calls.Constant_str (a2J (Calls.Constant_str (a4D ?_)) (by rfl))) (by rfl)))
 refine SC.replaceW (y:=a) (z:=b) (a3E htk) (Nat.succ_ne_zero _) (a0S (a2B _)) hab hx hz fun t' tk=>?_
 refine x1a2 H'.fr fun m Fm r=>?_
 exact a2M hxk Fm.ns (fun B3 C1 B8 htk2=>h.run _ Q E htk2 (H'.put (sv:=.str (Txt.replace v a b)) Fm r hxk ⟨_,rfl⟩ B8 C1) k) hp
theorem Xt.while {test:Expr}{body:List Stmt}{pos:Pos}(J:Nat ->Loc ->Led ->Prop)(K:Loc ->Led ->Prop)(k:Nat)(h0:Ends (J k) σ ld)
  (turn:∀n σ ld,J n σ ld ->∃b,Tst C σ ld test b∧(b=true ->Xt C σ ld body (p2z n J K (thenT C rest P)))∧(b=false ->Ends K σ ld))
  (done:∀σ ld,K σ ld ->Xt C σ ld rest P):Xt C σ ld (.While test body [] pos::rest) P:=.mk fun s Q E ht H kk=>by
 refine wpAny_execs_cons (wpAny_While ?_)
 refine codeAny_whileLoop (fun n s'=>1<=s'.toks∧∃σ ld,J n σ ld∧Hold C σ ld s') ?_ k ?_
 ·rintro n s' zu;refine an2 zu fun ht' zz=>x2a2 zz fun σ ld hJ H'=>?_
  refine x1a3 (turn n σ ld hJ) fun b hte h1 h2=>?_
  refine wpAny_with_toks ht' (hte.run s' _ _ H' fun c s'' g hc htk=>?_)
  subst hc
  have ex:∀ {σ ld s},1<=s.toks ->Ends K σ ld ->Hold C σ ld s ->wpAny (model PR C.w) C.A (execs rest C.env) Q E s:=fun ht hK H=>by
   revert hK;intro zq;refine x2a3 zq fun σ₁ ld₁ hK a b=>?_
   exact((done _ _ hK).weak a b).run _ Q E ht H kk
  cases c with
  |true=>
   rw[if_pos rfl]
   refine wpAny_with_toks htk ((h1 rfl).run s'' _ _ htk (H'.go g) fun f fl σ' ld' B5 hf hp C0 htk3=>?_)
   cases fl with
   |next=>
    obtain rfl:=hf
    refine x2a3 hp fun σ₁ ld₁ za a b=>?_;clear hp;obtain⟨k,hk,hJ⟩:=za
    exact⟨k,hk,htk3,σ₁,ld₁,hJ,C0.sub a b⟩
   |cont=>
    obtain rfl:=hf
    refine x2a3 hp fun σ₁ ld₁ za a b=>?_;clear hp;obtain⟨k,hk,hJ⟩:=za
    exact⟨k,hk,htk3,σ₁,ld₁,hJ,C0.sub a b⟩
   |brk=>obtain rfl:=hf;exact ex htk3 hp C0
   |ret sv=>refine x1a2 hf fun v za hv=>?_;clear hf;obtain rfl:=za;exact kk _ (.ret sv) σ' ld' B5 ⟨v,rfl,hv⟩ hp C0
  |false=>
   rw[if_neg (by decide)]
   exact a4W (ex htk (h2 rfl) (H'.go g))
 ·refine x2a3 h0 fun σ₁ ld₁ hJ a b=>?_
  exact⟨ht,σ₁,ld₁,hJ,H.sub a b⟩
end
noncomputable abbrev p4i:Addr:=42
noncomputable abbrev platP:Addr:=38
theorem k7i {w:World}{h:Heap}(X:(hd.heap_1 w.params).In h):CodeHd h p4i platP:=by
 have e:=X 42 ⟨.type "code",none,.fields #[.str (Str.ofString "_platform") 218,.str (Str.ofString "_platform") 219,.str (Str.ofString "/claim/cut.py") 220,.int 36 0,.int 0 0,.int 0 0,.int 0 0,.int 7 0,.ref 37,.bool true,.int 181 0,.ref 38,.none,
  .ref 39,.ref 40,.ref 41,.int 224 0,.int 36 0,.str (Str.ofString "/claim/cut.py") 225],#[]⟩ (by kernel_rfl)
 exact⟨_,_,_,_,_,_,_,_,_,e,rfl,rfl,rfl,rfl,rfl,rfl,rfl,rfl,by decide⟩
theorem p1o {w:World}:(hd.heap_1 w.params).lookup platP=none:=by kernel_rfl
noncomputable def restP (B6:Shared)(s:Shared):Prop:=s.os=B6.os∧AllBare s.gens
theorem k9z (B6:Shared):∀s h tk,restP B6 s ->restP B6 {s with heap:=h,toks:=tk}:=fun _ _ _ h=>h
noncomputable abbrev noTab (h:Heap):Heap:=hideAll h [platP]
theorem m3m {w:World}{h:Heap}(X:(hd.heap_1 w.params).In h):(hd.heap_1 w.params).In (noTab h):=fun a o e=>
 a4R _ (X a o e) fun q=>by rw[a0B.mp q,p1o]at e;cases e
theorem k6o {h:Heap}{a:Addr}{m:Str ->Option Value}{ps:Array Value}(hP:h.get? platP=some (tabObj ps))(x:h.Ns a m):(noTab h).Ns a m:=by
 refine x3a3 x fun o es ep e hd r=>?_
 refine⟨o,es,ep,a4R _ e fun q=>?_,hd,r⟩
 rw[a0B.mp q,hP]at e
 cases e;cases hd
theorem m3n {h:Heap}{mg mb:Str ->Option Value}{ps:Array Value}(hP:h.get? platP=some (tabObj ps))(T:TopRead vw loose mg mb h):TopRead vw loose mg mb (noTab h):=by
 refine x1a2 T.nolimit fun mc h1 h2=>?_
 exact⟨k6o hP T.g,k6o hP T.b,⟨mc,k6o hP h1,h2⟩,T.builtins,T.free⟩
theorem m8q {h:Heap}{g:Addr}{mg:Str ->Option Value}{bm:Addr}{ob:Obj}{ps:Array Value}(hP:h.get? platP=some (tabObj ps))(B:BMod h g mg bm ob):BMod (noTab h) g mg bm ob:=by
 refine⟨k6o hP B.ns,B.name,B.ne,a4R _ B.obj fun q=>?_,B.cls,B.dict,B.data⟩
 have e:=B.obj
 rw[a0B.mp q,hP]at e
 cases e
 cases B.cls
noncomputable def p1p (y:Str):Fl ->Loc ->Led ->Prop
 | .ret sv,_,ld=>sv=.str y∧∃ps',TriplesOk ps'.toList∧(platP,SO.obj (tabObj ps'))∈ld
 |_,_,_=>False
noncomputable def p0t (w:World)(xs:List Str)(y:Str):Prop:=
 ∀(A:Around) (s:Shared) (Q:Value ->Shared ->Prop) (E:Value ->Shared ->Prop) (vs:List Value) (mg mb:Str ->Option Value) (bm:Addr) (ob:Obj) (ps:Array Value),(hd.heap_1 w.params).In s.heap ->TopRead vw loose mg mb s.heap ->BMod s.heap mainGlobals mg bm ob ->OkA A 0 ->StrsAre vs xs ->
  s.heap.get? platP=some (tabObj ps) ->TriplesOk ps.toList ->AllBare s.gens ->
  (∀t s' ps',(∀b o,b≠platP ->s.heap.get? b=some o ->s'.heap.get? b=some o) ->s'.heap.get? platP=some (tabObj ps') ->TriplesOk ps'.toList ->s'.os=s.os ->AllBare s'.gens ->Q (.str y t) s') ->wpAny (model PR w) A (call (.ref 43) vs) Q E s
theorem p5v {w:World}{xs:List Str}{y:Str}{name qual:Str}{params:Arguments}{body:List Stmt}{scope:Scope}
  {dV kV doc pm cdv ct oc:Value}{an od:Option Addr}{osl:Array (Option Value)}
  (ho:(hd.heap_1 w.params).lookup 43=some ⟨oc,od,.func (fnOf name qual params body scope dV kV doc pm an cdv ct),osl⟩)(hcd:codeIn (hd.heap_1 w.params) cdv qual=true)
  (hp:∀vs,StrsAre vs xs ->peek1 (hd.heap_1 w.params) ⟨PR,w.params⟩ (bindArgs (fnOf name qual params body scope dV kV doc pm an cdv ct) ⟨vs,[]⟩)=some (tupOf vs,fun D=>some [(Str.ofString "args",.ref D)]))
  (hloc:scope.names.lookup (Str.ofString "args")=some .local)
  (h:∀(h₀:Heap) (sh:Shared) (L D:Addr) (mg:Str ->Option Value) (bm:Addr) (ob:Obj) (ps:Array Value),let C:Cx:=⟨w,(AL 0).deeper (envOf qual scope L 43 cdv),envOf qual scope L 43 cdv,h₀,restP sh,k9z sh⟩
   Gd C ->BMod h₀ mainGlobals mg bm ob ->CodeHd h₀ p4i platP ->TriplesOk ps.toList ->Xt C [(Str.ofString "args",SR D)] [(D,.tup (xs.map .str)),(platP,.obj (tabObj ps))] body (p1p y))
  (hco:autoParam (scope.isCoroutine=false) aR) (hgen:autoParam (scope.isGenerator=false) aR) (hk:autoParam (scope.kind=.function) aR)
  (hcell:autoParam (∀x∈scope.names,x.2≠ .cell) aD):p0t w xs y:=by
 intro A s Q E vs mg mb bm ob ps X T B hA hvs hP ht hbare k
 refine k6j hA (a4I (p3j (items:=vs) (binds:=fun D=>[(Str.ofString "args",.ref D)]) X T (kb rfl) ho hcd (hp vs hvs) (fun D y hy=>?_) (fun D B2 lD F N=>?_) hco hgen hk hcell))
 ·rw[a0B.mp hy];exact hloc
 have hPlt:platP<s.heap.objs.size:=a0M hP
 have hD:=N (D,tupOf vs) (.head _)
 have hDP:D≠platP:=fun q=>by
  have:=hD.2.2
  rw[q,hP]at this;cases this
 have keep:∀b o,(noTab s.heap).get? b=some o ->B2.get? b=some o:=fun b o e=>F.keep b o (a5Z _ e)
 have H:Hold ⟨w,(AL 0).deeper (envOf qual scope (s.heap.objs.size+1) 43 cdv),envOf qual scope (s.heap.objs.size+1) 43 cdv,noTab s.heap,restP s,k9z s⟩ [(Str.ofString "args",SR D)] [(D,.tup (xs.map .str)),(platP,.obj (tabObj ps))]
   {s with heap:=B2,toks:=s.toks+1}:=by
  refine⟨⟨_,⟨F.ns,keep,a0H (a4L (hideAll_size _ _)) (a6S _)⟩,fun x sv e=>?_⟩,fun p hp=>?_,(fun _ h=>nomatch h),?_,⟨rfl,hbare⟩⟩
  ·have hm:=a0B.mp (k0a e)
   injection hm with e1 e2
   subst e1;subst e2
   exact⟨.ref D,rfl,.inl ⟨hloc,rfl⟩⟩
  ·rcases a0G.mp hp with rfl|hp
   ·refine⟨_,hD.1,⟨vs,rfl,?_⟩,hD.2.1,?_⟩
    ·exact Are.ofStrs hvs
    ·cases q:(noTab s.heap).get? D with
     |none=>rfl
     |some o=>have:=hD.2.2;rw[a5Z _ q]at this;cases this
   ·rw[a0B.mp hp]
    exact⟨_,F.keep _ _ hP,rfl,a0S (a3V hPlt),hideAll_none _ (a0B.mpr rfl)⟩
  ·show([D,platP]:List Addr).Nodup
   simp[hDP]
 refine(h (noTab s.heap) s (s.heap.objs.size+1) D mg bm ob ps ⟨m3m X,⟨mg,mb,m3n hP T⟩,rfl,rfl,hk,rfl⟩ (m8q hP B) (k7i (m3m X)) ht).run _ _ _ (Nat.le_add_left 1 _) H fun f fl σ' ld' s' hf hpp H'=>?_
 cases fl with
 |ret sv=>
  refine x1a2 hf fun v za hv=>?_;clear hf;obtain rfl:=za
  refine an2 hpp fun za zz=>x1a2 zz fun ps' ht' hm=>?_;clear hpp zz;obtain rfl:=za
  obtain⟨t,rfl⟩:=hv
  refine x1a2 H'.fr fun m F' _=>?_
  refine x1a3 (H'.led _ hm) fun o e1 e2 _=>?_
  obtain rfl:=e2
  exact k t s' ps' (fun b o hb e=>F'.keep b o (a4R _ e fun q=>hb (a0B.mp q))) e1 ht' H'.rest.1 H'.rest.2
 |next=>exact hpp.elim
 |brk=>exact hpp.elim
 |cont=>exact hpp.elim
theorem fill_J:PySem.Challenge.rw_in0310_01=PySem.Challenge.rw_in0310_01∧hd.heap_1=hd.heap_1:=by
 k_fill
 exact⟨rfl,rfl⟩
local macro_rules | `(tactic| walk_at "fz") => `(tactic| first | with_reducible assumption | with_reducible exact om1 (by assumption) | omega | decide)
local macro_rules | `(tactic| walk_at "ev") => `(tactic| first
 | ((with_reducible show Ev _ _ _ (Expr.Name _ _) _); exact Ev.name (by with_unfolding_all rfl))
 | with_reducible exact Ev.a0 | with_reducible exact Ev.a1 | with_reducible exact Ev.cbool | with_reducible exact Ev.cnone
 | ((with_reducible show Ev _ _ _ (Expr.BinOp _ _ _ _) _); exact Ev.a6 (by walk_at "ev") (by walk_at "ev") (by walk_at "op"))
 | ((with_reducible show Ev _ _ _ (Expr.Subscript _ (Expr.Slice (some _) (some _) _ _) _) _); exact Ev.a4 (by walk_at "ev") (by walk_at "ev") (by walk_at "ev") (by walk_at "fz"))
 | ((with_reducible show Ev _ _ _ (Expr.Subscript _ (Expr.Slice (some _) none _ _) _) _); exact Ev.sliceSN (by walk_at "ev") (by walk_at "ev") (by walk_at "fz"))
 | ((with_reducible show Ev _ _ _ (Expr.Subscript _ (Expr.Slice none (some _) _ _) _) _); exact Ev.a5 (by walk_at "ev") (by walk_at "ev") (by walk_at "fz"))
 | ((with_reducible show Ev _ _ _ (Expr.Subscript _ _ _) _); exact Ev.a3 (by walk_at "ev") (by walk_at "ev") (by first | exact om25 | omega) (by first | with_reducible assumption | omega) (by walk_at "fz"))
 | ((with_reducible show Ev _ _ _ (Expr.Call (Expr.Name _ _) [_] _ _) _); exact Ev.lenS (by assumption) (by walk_at "ev") (by walk_at "fz"))
 | ((with_reducible show Ev _ _ _ (Expr.UnaryOp _ _ _) _); exact Ev.neg (by walk_at "ev"))
 | walk_at "evm" | walk_at "evc")
local macro_rules | `(tactic| walk_at "evc") => `(tactic| fail "evc")
local macro_rules | `(tactic| walk_at "evm") => `(tactic| ((with_reducible show Ev _ _ _ (Expr.Call (Expr.Attribute _ _ _) [_] _ _) _); first
 | exact Ev.sm1 (by walk_at "ev") (by walk_at "ev") F.slot_str_rfind F.type_str_rfind p2n
 | exact Ev.sm1 (by walk_at "ev") (by walk_at "ev") F.slot_str_startswith F.type_str_startswith m2p
 | exact Ev.sm1 (by walk_at "ev") (by walk_at "ev") F.slot_str_endswith F.type_str_endswith p5w
 | exact Ev.sm1 (by walk_at "ev") (by walk_at "ev") F.slot_str_rstrip F.type_str_rstrip (p0h (by walk_at "fz"))
 | exact Ev.sm1 (by walk_at "ev") (by walk_at "ev") F.slot_str_lstrip F.type_str_lstrip (k8d (by walk_at "fz"))))
local macro_rules | `(tactic| walk_at "okA") => `(tactic| exact ⟨rfl, kb rfl, kb rfl⟩)
local macro_rules | `(tactic| walk_at "a1") => `(tactic| exact .cons (by walk_at "ev") .nil)
local macro_rules | `(tactic| walk_at "op") => `(tactic| first | with_reducible exact Opr.addI | with_reducible exact Ipr.addI | with_reducible exact Ipr.subI | ((with_reducible refine Ipr.addS ?_); walk_at "fz") | with_reducible exact Opr.subI | ((with_reducible refine Opr.addS ?_); walk_at "fz"))
local macro_rules | `(tactic| walk_at "ts") => `(tactic| first
 | ((with_reducible show Tst _ _ _ (Expr.BoolOp _ _ _) _); exact Tst.and (by walk_at "ts") (fun q1 => by (try simp only [decide_eq_true_eq] at q1); walk_at "ts"))
 | ((with_reducible show Tst _ _ _ (Expr.Compare _ [CmpOp.Lt] _ _) _); exact Tst.lt (by walk_at "ev") (by walk_at "ev"))
 | ((with_reducible show Tst _ _ _ (Expr.Compare _ [CmpOp.In] _ _) _); exact Tst.inS (by walk_at "ev") (by walk_at "ev"))
 | ((with_reducible show Tst _ _ _ (Expr.Compare _ [CmpOp.NotIn] _ _) _); exact Tst.notinS (by walk_at "ev") (by walk_at "ev"))
 | ((with_reducible show Tst _ _ _ (Expr.Compare _ [CmpOp.NotEq] _ _) _); exact Tst.neS (by walk_at "ev") (by walk_at "ev"))
 | ((with_reducible show Tst _ _ _ (Expr.Compare _ [CmpOp.Eq] _ _) _); first | exact Tst.eqS (by walk_at "ev") (by walk_at "ev") | exact Tst.eqI (by walk_at "ev") (by walk_at "ev"))
 | ((with_reducible show Tst _ _ _ (Expr.UnaryOp _ _ _) _); exact Tst.not (by walk_at "ts"))
 | ((with_reducible show Tst _ _ _ (Expr.Call (Expr.Name _ _) [_, Expr.Name _ _] _ _) _); exact Tst.isb (by assumption) (by walk_at "ev"))
 | exact Tst.ofB (by walk_at "ev") | exact Tst.ofS (by walk_at "ev") (by walk_at "fz"))
local macro_rules | `(tactic| walk_at "x1") => `(tactic| first
 | with_reducible refine Xs.nil ?_
 | ((with_reducible refine Xs.cons ?_); first
  | ((with_reducible show X1 _ _ _ (Stmt.Assign [Expr.Name _ _] _ _) _); refine X1.a0 (Ew.pure (by walk_at "ev") ?_); show Xs _ _ _ _ _)
  | ((with_reducible show X1 _ _ _ (Stmt.AugAssign _ _ _ _) _); refine X1.aug (by with_unfolding_all rfl) (by walk_at "ev") (by walk_at "op") ?_; show Xs _ _ _ _ _)
  | ((with_reducible show X1 _ _ _ (Stmt.If _ _ _ _) _); refine X1.a1 (by walk_at "ts") ?_ ?_ <;> intro q)
  | ((with_reducible show X1 _ _ _ (Stmt.Return (some _) _) _); refine X1.ret (Ew.pure (by walk_at "ev") ?_))))
local macro_rules | `(tactic| walk_at "xs") => `(tactic| repeat' walk_at "x1")
theorem m2i {w:World}{x:Str}:Cn w 0 123 [.str x] (fun _=>True) (fun sv new=>sv=.str x∧new=[]):=by
 refine k0g (x:=Str.ofString "path") (by k_is) (by k_is) (fun _ _=>a1V rfl) rfl (by decide+kernel) (fun h₀ os L=>?_)
 intro C G _
 refine Xs.cons (X1.a0 (Ew.pure (Ev.typeS G (Ev.name (by with_unfolding_all rfl))) ?_))
 show Xs _ _ _ _ _
 refine Xs.cons (X1.a1 (Tst.iss G (Ev.name (by with_unfolding_all rfl))) (fun _=>?_) (fun q=>nomatch q))
 refine Xs.cons (X1.ret (Ew.pure (Ev.name (by with_unfolding_all rfl)) ?_))
 exact⟨[],⟨rfl,rfl⟩,a0X _⟩
theorem sep_cn {w:World}{x:Str}:Cn w 0 151 [.str x] (fun _=>True) (fun sv new=>sv=.str (Str.ofString "/")∧new=[]):=by
 refine k0g (x:=Str.ofString "path") (by k_is) (by k_is) (fun _ _=>a1V rfl) rfl (by decide+kernel) (fun h₀ os L=>?_)
 intro C G _
 refine Xs.cons (X1.a1 (Tst.isb G (Ev.name (by with_unfolding_all rfl))) (fun q=>nomatch q) (fun _=>?_))
 refine Xs.cons (X1.ret (Ew.pure Ev.a0 ?_))
 exact⟨[],⟨rfl,rfl⟩,a0X _⟩
local macro_rules | `(tactic| walk_at "evc") => `(tactic| ((with_reducible show Ev _ _ _ (Expr.Call (Expr.Name _ _) [_] _ _) _); exact Ev.b0 (by assumption) m2i (by walk_at "a1") (fun _ _ => trivial) (by walk_at "okA") (by k_is) (by k_is) rfl))
local macro_rules | `(tactic| walk_at "evc") => `(tactic| ((with_reducible show Ev _ _ _ (Expr.Call (Expr.Name _ _) [_] _ _) _); exact Ev.b0 (by assumption) sep_cn (by walk_at "a1") (fun _ _ => trivial) (by walk_at "okA") (by k_is) (by k_is) rfl))
theorem p2t {w:World}{x:Str}:Cn w 0 50 [.str x] (fun _=>True) (fun sv new=>sv=.str (blankF x)∧new=[]):=by
 refine k0g (x:=Str.ofString "val") (by k_is) (by k_is) (fun _ _=>a1V rfl) rfl (by decide+kernel) (fun h₀ os L=>?_)
 intro C G _
 refine Xs.cons (X1.ret (Ew.a0 (by walk_at "ts") (fun q=>Ew.pure (by walk_at "ev") ?_) (fun q=>Ew.pure (by walk_at "ev") ?_)))
 ·exact⟨[],⟨by unfold blankF;rw[if_pos (a1T.mp q)],rfl⟩,a0X _⟩
 ·exact⟨[],⟨by unfold blankF;rw[if_neg (a2Q.mp q)],rfl⟩,a0X _⟩
theorem m3e {x:Str}(h:((Txt.slice x none (some (Txt.rfind x (Str.ofString "/")+1)) !=Str.ofString "")&& (Txt.slice x none (some (Txt.rfind x (Str.ofString "/")+1)) !=Txt.mul (Str.ofString "/") ((Txt.slice x none (some (Txt.rfind x (Str.ofString "/")+1))).length:Int)))=true):
  k0m x=Txt.rstripChars (Txt.slice x none (some (Txt.rfind x (Str.ofString "/")+1))) (Str.ofString "/"):=by
 rw[a2Y,a3U,a3U]at h
 unfold k0m;dsimp only;rw[if_pos ⟨fun q=>h.1 (len0 (om234 q)),h.2⟩]
theorem m3d {x:Str}(h:((Txt.slice x none (some (Txt.rfind x (Str.ofString "/")+1)) !=Str.ofString "")&& (Txt.slice x none (some (Txt.rfind x (Str.ofString "/")+1)) !=Txt.mul (Str.ofString "/") ((Txt.slice x none (some (Txt.rfind x (Str.ofString "/")+1))).length:Int)))=false):
  k0m x=Txt.slice x none (some (Txt.rfind x (Str.ofString "/")+1)):=by
 unfold k0m;dsimp only;rw[if_neg]
 rintro⟨h1,h2⟩
 have e1:(Txt.slice x none (some (Txt.rfind x (Str.ofString "/")+1)) !=Str.ofString "")=true:=a3U.mpr fun q=>h1 (by rw[q];decide+kernel)
 rw[e1,a3U.mpr h2]at h;cases h
theorem mulOk {x:Str}{n:Nat}(hx:x.length<=10)(hn:n<=10000):MulOk x (n:Int):=by
 have hm:x.length*n<=10*10000:=Nat.mul_le_mul hx hn
 refine⟨?_,fun h1 _=>?_,fun _ _=>?_⟩
 ·rw[a6K,a3B,a3B];exact om381 hn
 ·have:(10:Int)<=(2^63-1)/(n:Int):=by rw[Int.le_ediv_iff_mul_le (om540 h1)];exact om423 hn
  exact om433 this hx
 ·unfold Builtin.Str.tooLong sizeLine
  rw[a1W]
  exact a2G (om541 hm)
theorem p1e {w:World}{x:Str}(hx:x.length<=1000):Cn w 1 165 [.str x] (fun _=>True) (fun sv new=>∃D,sv=SR D∧new=[(D,.tup [.str (k0m x),.str (k1s x)])]):=by
 refine k0g (x:=Str.ofString "p") (by k_is) (by k_is) (fun _ _=>a1V rfl) rfl (by decide+kernel) (fun h₀ os L=>?_)
 intro C G _
 have hl:=k3c x none (some (Txt.rfind x (Str.ofString "/")+1))
 have hz:=om6 hx hl
 iterate 3 walk_at "x1"
 refine Xs.cons (X1.asgT2 (sa:=.str (Txt.slice x none (some (Txt.rfind x (Str.ofString "/")+1)))) (sb:=.str (k1s x)) G (Ew.tuple (EwL.pure (.cons (by walk_at "ev") (.cons (by walk_at "ev") .nil)) ⟨kb rfl,fun D=>⟨D,rfl,Has.mem (.head _),?_⟩⟩)))
 show Xs _ _ _ _ _
 refine Xs.a0 1 (fun σ ld=>σ=[(Str.ofString "head",.str (k0m x)),(Str.ofString "tail",.str (k1s x))]∧ld=[]) ?_ ?_
 ·refine Xs.cons (X1.a1 (Tst.and (by walk_at "ts") (fun _=>Tst.neS (by walk_at "ev") (Ev.a6 (by walk_at "ev") (by walk_at "ev") (Opr.mulS ?_)))) (fun q=>?_) (fun q=>?_))
  ·exact mulOk (by decide+kernel) (om487 hx hl)
  ·walk_at "x1"
   walk_at "x1"
   refine Xs.nil ?_
   exact⟨_,_,⟨rfl,rfl⟩,⟨m3e q▸rfl,rfl,trivial⟩,a0X _⟩
  ·walk_at "x1"
   refine Xs.nil ?_
   exact⟨_,_,⟨rfl,rfl⟩,⟨m3d q▸rfl,rfl,trivial⟩,a0X _⟩
 rintro σ ld ⟨rfl,rfl⟩
 refine Xs.cons (X1.ret (Ew.tuple (EwL.pure (.cons (by walk_at "ev") (.cons (by walk_at "ev") .nil)) ⟨kb rfl,fun D=>?_⟩)))
 exact⟨_,⟨D,rfl,rfl⟩,.refl _⟩
theorem p0c {w:World}{n:Nat}{f:Addr}{svs items:List SV}{pre:Heap ->Prop}{post:SV ->Led ->Prop}{name qual:Str}{params:Arguments}{body:List Stmt}{scope:Scope}
  {dV kV doc pm cdv ct oc:Value}{an od:Option Addr}{osl:Array (Option Value)}{σ:Addr ->Loc}{binds:List Value ->Addr ->List (Str×Value)}
  (ho:(hd.heap_1 w.params).lookup f=some ⟨oc,od,.func (fnOf name qual params body scope dV kV doc pm an cdv ct),osl⟩)(hcd:codeIn (hd.heap_1 w.params) cdv qual=true)
  (hp:∀vs,Are svs vs ->∃ivs,Are items ivs∧peek1 (hd.heap_1 w.params) ⟨PR,w.params⟩ (bindArgs (fnOf name qual params body scope dV kV doc pm an cdv ct) ⟨vs,[]⟩)=some (tupOf ivs,fun D=>some (binds vs D)))
  (hσ:∀vs D,Are svs vs ->BindIs (σ D) (binds vs D).reverse)(hloc:∀vs D,Are svs vs ->∀y∈binds vs D,scope.names.lookup y.1=some .local)
  (hn:(400-10*n).blt recursionLimit=true)
  (h:∀(h₀:Heap) (sh:Shared) (L D:Addr),let C:Cx:=⟨w,(AL n).deeper (envOf qual scope L f cdv),envOf qual scope L f cdv,h₀,shapeOf sh,k1l sh⟩
   Gd C ->pre h₀ ->Xs C (σ D) [(D,.tup items)] body (retP post))
  (hco:autoParam (scope.isCoroutine=false) aR) (hgen:autoParam (scope.isGenerator=false) aR) (hk:autoParam (scope.kind=.function) aR)
  (hcell:autoParam (∀x∈scope.names,x.2≠ .cell) aD):Cn w n f svs pre post:=by
 intro A s Q E vs mg mb X T hA hvs hpre k
 refine x1a2 (hp vs hvs) fun ivs hiv hpk=>?_
 refine k6j hA (a4I (p3j (items:=ivs) (binds:=binds vs) X T (kb hn) ho hcd hpk (fun D y hy=>hloc vs D hvs y hy) (fun D B2 lD F N=>?_) hco hgen hk hcell))
 have hD:=N (D,tupOf ivs) (.head _)
 have H:Hold ⟨w,(AL n).deeper (envOf qual scope (s.heap.objs.size+1) f cdv),envOf qual scope (s.heap.objs.size+1) f cdv,s.heap,shapeOf s,k1l s⟩ (σ D) [(D,.tup items)] {s with heap:=B2,toks:=s.toks+(binds vs D).length}:=by
  refine⟨⟨_,F,fun x sv e=>?_⟩,fun p hp=>?_,(fun _ h=>nomatch h),a1L.mpr ⟨a0Z,a1U⟩,⟨_,_,rfl⟩⟩
  ·refine x1a2 ((hσ vs D hvs).get x sv e) fun v hv q=>?_
   exact⟨v,q,.inl ⟨hloc vs D hvs _ (a4F.mp (k0a hv)),hv⟩⟩
  ·rw[a0B.mp hp]
   exact⟨_,hD.1,⟨ivs,rfl,hiv⟩,hD.2⟩
 refine(h s.heap s (s.heap.objs.size+1) D ⟨X,⟨mg,mb,T⟩,rfl,rfl,hk,rfl⟩ hpre).run _ _ _ H fun f fl σ' ld' s' hf hp H'=>?_
 have G:Grow s s':=by refine x1a2 H'.fr fun m F' _=>?_;exact⟨F'.keep,H'.rest⟩
 have Af:∀new,List.Sublist new ld' ->After s s' new:=fun new hsub=>
  have H2:=H'.sub (σ₁:=[]) trivial hsub
  ⟨G,fun p hp=>let⟨o,a,b,_,d⟩:=H2.led p hp;⟨o,d,a,b⟩,(a1E.mp H2.nodup).2.1⟩
 cases fl with
 |ret sv=>
  refine x1a2 hf fun v za hv=>?_;clear hf;obtain rfl:=za
  refine x1a2 hp fun new hq hsub=>?_
  exact k v sv new s' hv hq (Af new hsub)
 |next=>obtain rfl:=hf;refine x1a2 hp fun new hq hsub=>?_;exact k _ SN new s' rfl hq (Af new hsub)
 |brk=>obtain rfl:=hf;refine x1a2 hp fun new hq hsub=>?_;exact k _ SN new s' rfl hq (Af new hsub)
 |cont=>obtain rfl:=hf;refine x1a2 hp fun new hq hsub=>?_;exact k _ SN new s' rfl hq (Af new hsub)
theorem p4l {a b:Bool}{p q:Prop}(h:(a||b)=false)(hp:p ->a=true)(hq:q ->b=true):¬(p∨q):=by
 rintro(z|z)
 ·rw[hp z]at h;cases h
 ·rw[hq z,Bool.or_true]at h;cases h
theorem ne_f {a b:Str}(h:(a !=b)=false):a=b:=by simpa using h
theorem m1l {w:World}{x:Str}(hx:x.length<=1000):Cn w 1 172 [.str x] (fun _=>True) (fun sv new=>∃D,sv=SR D∧new=[(D,.tup [.str (Str.ofString ""),.str (k1m x),.str (restOf x)])]):=by
 refine k0g (x:=Str.ofString "p") (by k_is) (by k_is) (fun _ _=>a1V rfl) rfl (by decide+kernel) (fun h₀ os L=>?_)
 intro C G _
 walk_at "x1"
 refine Xs.cons (X1.a1 (Tst.isb G (by walk_at "ev")) (fun q=>nomatch q) (fun _=>?_))
 iterate 3 walk_at "x1"
 show Xs _ _ _ _ _
 refine Xs.cons (X1.a1 (by walk_at "ts") (fun q=>?_) (fun q=>?_))
 ·have q:=a3U.mp q
  refine Xs.cons (X1.ret (Ew.tuple (EwL.pure (.cons (by walk_at "ev") (.cons (by walk_at "ev") (.cons (by walk_at "ev") .nil))) ⟨kb rfl,fun D=>?_⟩)))
  exact⟨_,⟨D,rfl,rfl⟩,by unfold k1m restOf;rw[if_pos q,if_pos q];exact .refl _⟩
 ·have q':¬(Txt.slice x none (some 1)≠Str.ofString "/"):=fun z=>z (ne_f q)
  refine Xs.cons (X1.a1 (Tst.or (by walk_at "ts") (fun _=>by walk_at "ts")) (fun q2=>?_) (fun q2=>?_))
  ·refine Xs.cons (X1.ret (Ew.tuple (EwL.pure (.cons (by walk_at "ev") (.cons (by walk_at "ev") (.cons (by walk_at "ev") .nil))) ⟨kb rfl,fun D=>?_⟩)))
   rw[Bool.or_eq_true,a3U,a1T]at q2
   exact⟨_,⟨D,rfl,rfl⟩,by unfold k1m restOf;rw[if_neg q',if_neg q',if_pos q2,if_pos q2];exact .refl _⟩
  ·refine Xs.cons (X1.ret (Ew.tuple (EwL.pure (.cons (by walk_at "ev") (.cons (by walk_at "ev") (.cons (by walk_at "ev") .nil))) ⟨kb rfl,fun D=>?_⟩)))
   have q3:=p4l q2 a3U.mpr a1T.mpr
   exact⟨_,⟨D,rfl,rfl⟩,by unfold k1m restOf;rw[if_neg q',if_neg q',if_neg q3,if_neg q3];exact .refl _⟩
theorem m2c {x y:Str}:(joinStep x y).length<=x.length+y.length+1:=by
 have:(Str.ofString "/").length=1:=by decide+kernel
 unfold joinStep
 split
 ·exact om508
 ·split<;>(rw[k0n];try rw[k0n])<;>(first|exact om523|exact om393 this)
theorem k3p {ys:List Str}{i:Nat}{b:Str}(h:ys[i]?=some b):(ys.map SV.str).getD i SN=.str b:=by
 rw[a0E,a0T,h];rfl
set_option tactic.hygienic true in
theorem m9g {w:World}{x:Str}{ys:List Str}(hy:ys.length=1∨ys.length=2)(hx:x.length<=1000)(hl:AllLen 1000 ys):Cn w 1 158 (.str x::ys.map .str) (fun _=>True) (fun sv new=>sv=.str (ys.foldl joinStep x)∧new=[]):=by
 refine p0c (items:=ys.map .str) (σ:=fun D=>[(Str.ofString "p",SR D),(Str.ofString "a",.str x)]) (binds:=fun vs D=>[(Str.ofString "a",vs.headD .none),(Str.ofString "p",.ref D)]) (by k_is) (by k_is) (fun vs h=>?_) (fun vs D h=>?_) (fun vs D h=>?_) (by decide+kernel) (fun h₀ sh L D=>?_)
 ·replace h:=h.uncons;revert h;intro zq;refine x2a3 zq fun _ _ za zb h=>?_;clear zq;obtain rfl:=za;obtain⟨t,rfl⟩:=zb
  refine⟨_,h,?_⟩
  have e:=h.len
  rw[a0J]at e
  rename_i vs
  rcases vs with _| ⟨a,_| ⟨b,_|_⟩⟩
  ·have e:ys.length=0:=e
   exact(om112 hy e).elim
  ·rfl
  ·rfl
  ·have e:ys.length=_+1+1+1:=e
   exact(om77 hy e).elim
 ·replace h:=h.uncons;revert h;intro zq;refine x2a3 zq fun _ _ za zb h=>?_;clear zq;obtain rfl:=za;obtain⟨t,rfl⟩:=zb
  exact .cons rfl (.cons ⟨_,rfl⟩ .nil)
 ·exact locs rfl
 intro C G _
 iterate 3 walk_at "x1"
 show Xs _ _ _ _ _
 refine Xs.a1 (so:=.tup (ys.map .str)) (fun o=>.head) (fun o ho=>?_)
 have hlen:∀i≤ys.length,((ys.take i).foldl joinStep x).length<=1000+1001*i:=by
  intro i
  induction i with
  |zero=>intro _;simpa using hx
  |succ i ih=>
   intro h
   have hi:i<ys.length:=h
   rw[a2A,a0D hi,a3K]
   have h1:=ih (a4C hi)
   have h2:=hl _ (a2T hi)
   have h3:= @m2c ((ys.take i).foldl joinStep x) ys[i]
   show(joinStep _ ys[i]).length<=_
   exact om167 h3 h1 h2
 have hsl:(Str.ofString "/").length=1:=by decide+kernel
 refine Xs.cons (X1.tryOk (Xs.cons (X1.a3 (Fs.tup (xs:=ys.map .str) G.h (by walk_at "ev") (Has.frz (.head _) ho)) (fun i σ ld=>σ=[(Str.ofString "path",.str ((ys.take i).foldl joinStep x)),(Str.ofString "sep",.str (Str.ofString "/"))]∧ld=[(D,.obj o)]) (fun _ _=>False) ⟨_,_,⟨rfl,rfl⟩,⟨rfl,rfl,trivial⟩,.refl _⟩ ?_ ?_ ?_ (fun _ _ h=>h.elim))))
 ·intro b hb
  rw[a0B.mp hb]
  exact .inr ⟨o,fun i σ ld h=>h.2▸ .head _⟩
 ·rintro i σ ld it hi ⟨rfl,rfl⟩ hit
  rw[a0J]at hi
  have hb:ys[i]?=some ys[i]:=a0D hi
  have hbl:=hl _ (a2T hi)
  have hpl:=hlen i (a4C hi)
  show Xs C ([(_,(ys.map SV.str).getD i SN)]++_) _ _ _
  rw[k3p hb]
  have e:(ys.take (i+1)).foldl joinStep x=joinStep ((ys.take i).foldl joinStep x) ys[i]:=by rw[a2A,hb,a3K];rfl
  rw[e]
  generalize(ys.take i).foldl joinStep x=z at*
  generalize ys[i]=b at*
  show Xs C [(_,_),_,_] _ _ _
  walk_at "x1"
  refine Xs.cons (X1.a1 (Tst.or (by walk_at "ts") (fun _=>Tst.not (Tst.ofS (by walk_at "ev") (om182 hy hi hpl)))) (fun q=>?_) (fun q=>?_))
  ·walk_at "x1"
   iterate 2 refine Xs.nil ?_
   refine⟨_,_,⟨rfl,rfl⟩,⟨?_,rfl,trivial⟩,.refl _⟩
   rw[Bool.or_eq_true,Bool.not_eq_true',bne_eq_false_iff_eq]at q
   rw[show joinStep z b=b from if_pos q]
   rfl
  ·have q:¬(Txt.startswith b (Str.ofString "/")=true∨z=Str.ofString ""):=p4l q id fun e=>by simp[e]
   refine Xs.cons (X1.a1 (by walk_at "ts") (fun q2=>?_) (fun q2=>?_))
   ·walk_at "x1"
    iterate 3 refine Xs.nil ?_
    refine⟨_,_,⟨rfl,rfl⟩,⟨?_,rfl,trivial⟩,.refl _⟩
    rw[show joinStep z b=z++b from(if_neg q).trans (if_pos q2)]
    rfl
   ·refine Xs.cons (X1.aug rfl (Ev.a6 (by walk_at "ev") (by walk_at "ev") (Opr.addS (om402 hsl hbl))) (Ipr.addS (by rw[k0n];exact om126 hy hi hsl hpl hbl)) ?_)
    show Xs _ _ _ [] _
    iterate 3 refine Xs.nil ?_
    refine⟨_,_,⟨rfl,rfl⟩,⟨?_,rfl,trivial⟩,.refl _⟩
    rw[show joinStep z b=z++(Str.ofString "/"++b)from(if_neg q).trans (if_neg (by rw[q2];decide))]
    rfl
 ·rintro σ ld ⟨rfl,rfl⟩
  rw[a0J,a3S]
  refine Xs.nil ?_
  show Xs _ _ _ [_] _
  walk_at "x1"
  exact⟨[],⟨rfl,rfl⟩,a0X _⟩
section
variable {C:Cx}{σ:Loc}{ld:Led}{a b c e:Expr}{p q r:Bool}{pos:Pos}
theorem Tst.or3 (ha:Tst C σ ld a p)(hb:p=false ->Tst C σ ld b q)(hc:p=false ->q=false ->Tst C σ ld c r):Tst C σ ld (.BoolOp .Or [a,b,c] pos) (p|| (q||r)):=.mk fun s Q E H k=>by
 refine isTrue_or (ha.run s _ _ H fun v s' g hv=>?_)
 subst hv
 cases v with
 |true=>exact k _ _ g rfl
 |false=>
  refine isTrue_or ((hb rfl).run s' _ _ (H.go g) fun v s'' g' hv=>?_)
  subst hv
  cases v with
  |true=>exact k _ _ (g.trans g') rfl
  |false=>
   refine isTrue_or ((hc rfl rfl).run s'' _ _ ((H.go g).go g') fun v s3 g3 hv=>?_)
   subst hv
   cases v with
   |true=>exact k _ _ ((g.trans g').trans g3) rfl
   |false=>exact isTrue_or_nil (k _ _ ((g.trans g').trans g3) rfl)
theorem Tst.to (h:Tst C σ ld a p)(e:p=q):Tst C σ ld a q:=e▸h
end
theorem k4x {x:Str}{ts:List Str}(hl:AllLen 1000 ts)(hn:ts.length<=1000)(hx:x.length<=10):(Txt.join x ts).length<=2000000:=by
 show(Builtin.Str.glued _ _).length<=_
 rw[a5S]
 have h1:=StrLaws.join_length_le x ts
 have h2:=k5j hl
 have h3:ts.length*1000<=1000*1000:=Nat.mul_le_mul_right _ hn
 have h4:ts.length*x.length<=1000*10:=Nat.mul_le_mul hn hx
 exact om207 h3 h4 h2 h1
theorem m8c {x:Str}(hr:k1m x=Str.ofString "/"):(x !=Str.ofString "")=true:=by
 rw[a3U]
 rintro rfl
 revert hr;decide+kernel
theorem m3k {w:World}{x:Str}(hx:x.length<=900)(hr:k1m x=Str.ofString "/"):Cn w 2 179 [.str x] (fun _=>True) (fun sv new=>sv=.str (normF x)∧new=[]):=by
 refine k0g (x:=Str.ofString "path") (by k_is) (by k_is) (fun _ _=>a1V rfl) rfl (by decide+kernel) (fun h₀ os L=>?_)
 intro C G _
 have hrl:=p1j x
 walk_at "x1"
 refine Xs.cons (X1.a1 (Tst.isb G (by walk_at "ev")) (fun q=>nomatch q) (fun _=>?_))
 iterate 4 walk_at "x1"
 show Xs _ _ _ (_::_) _
 refine Xs.cons (X1.a1 (Tst.not (Tst.ofS (by walk_at "ev") (om311 hx))) (fun q=>by rw[m8c hr]at q;cases q) (fun _=>?_))
 walk_at "x1"
 show Xs _ _ _ (_::_) _
 refine Xs.cons (X1.asgT [(Str.ofString "_",_),(Str.ofString "initial_slashes",_),(Str.ofString "path",_)] G (Ew.a1 G (m1l (x:=x) (p4o hx)) (EwL.pure (by walk_at "a1") ⟨rfl,fun _ _=>trivial,fun sv new h=>?_⟩) (by walk_at "okA") (by k_is) (by k_is) rfl))
 refine x1a2 h fun D za zb=>?_;clear h;refine eq2 za zb ?_;clear za zb
 refine⟨D,_,rfl,Has.mem (.head _),rfl,?_⟩
 rw[hr]
 show Xs _ _ _ (_::_) _
 refine Xs.cons (X1.a0 (Ew.a5 (Ev.name rfl) (Ev.name rfl) (by decide+kernel) (om502 hx hrl) fun D1=>?_))
 show Xs _ _ _ (_::_) _
 have hsl:=k0l (restOf x) (Str.ofString "/")
 have hsp:=k0s (restOf x) (Str.ofString "/")
 have hnl:=m4w (Txt.split (restOf x) (Str.ofString "/")) []
 have hna:=m4x (Txt.split (restOf x) (Str.ofString "/")) [] hsp k1b
 have eN:(Txt.split (restOf x) (Str.ofString "/")).foldl normStep []=k7l x:=rfl
 rw[eN]at hnl hna
 have hN:normTo (Txt.split (restOf x) (Str.ofString "/")) (Txt.split (restOf x) (Str.ofString "/")).length=k7l x:=by unfold normTo k7l;rw[a3S]
 generalize Txt.split (restOf x) (Str.ofString "/")=cs at*;revert cs;refine id ?_;intros
 have hnl:(k7l x).length<=cs.length:=by simpa using hnl
 refine Xs.a1 (so:=.list (cs.map .str)) (fun o=>.head) (fun o ho=>?_)
 refine Xs.cons (X1.a0 (Ew.list (EwL.pure .nil ⟨a0R _,fun D2=>?_⟩)))
 show Xs _ _ _ (_::_) _
 refine Xs.cons (X1.a3 (Fs.list (xs:=cs.map .str) G.h (Ev.name rfl) (Has.frz (.tail _ (.head _)) ho)) (fun i σ ld=>Str.ofString ".."∉normTo cs i∧(normTo cs i).length<=i∧σ=[(Str.ofString "new_comps",SR D2),(Str.ofString "dotdot",.str (Str.ofString "..")),(Str.ofString "dot",.str (Str.ofString ".")),(Str.ofString "sep",.str (Str.ofString "/")),(Str.ofString "initial_slashes",.str (Str.ofString "/"))]∧ld=[(D2,.list ((normTo cs i).map .str)),(D1,.obj o)]) (fun _ _=>False) ⟨_,_,⟨by simp[normTo],a0R _,rfl,rfl⟩,⟨rfl,rfl,rfl,rfl,rfl,trivial⟩,.cons_cons _ (.cons_cons _ (a0X _))⟩ ?_ ?_ ?_ (fun _ _ h=>h.elim))
 ·intro b hb
  rw[a0B.mp hb]
  exact .inr ⟨o,fun i σ ld h=>h.2.2.2▸ .tail _ (.head _)⟩
 ·rintro i σ ld it hi zu hit;refine an4 zu fun hnd hln za zb=>?_;clear zu;refine eq2 za zb ?_;clear za zb
  rw[a0J]at hi
  have hb:cs[i]?=some cs[i]:=a0D hi
  have hbl:=hsp _ (a2T hi)
  show Xs C ([(_,(cs.map SV.str).getD i SN)]++_) _ _ _
  have e:=m3l hb
  rw[k3p hb,e]
  generalize cs[i]=c at*
  generalize normTo cs i=ts at*;revert c ts;refine id ?_;intros
  show Xs C [(_,_),_,_,_,_,_] _ (_::_) _
  refine Xs.cons (X1.a1 (Tst.or (Tst.not (Tst.ofS (Ev.name rfl) (om364 hx hrl hbl))) (fun _=>Tst.eqS (Ev.name rfl) (Ev.name rfl))) (fun q=>?_) (fun q=>?_))
  ·have e2:normStep ts c=ts:=if_pos (by
    rw[Bool.or_eq_true,a1T,Bool.not_eq_true',bne_eq_false_iff_eq]at q;exact q)
   refine Xs.cons (X1.cont ?_)
   exact⟨_,_,⟨e2.symm▸hnd,e2.symm▸a3W hln,rfl,rfl⟩,⟨rfl,rfl,rfl,rfl,rfl,trivial⟩,e2.symm▸ .refl _⟩
  have q:=p4l (p:=c=Str.ofString "") (q:=c=Str.ofString ".") q (fun e=>by simp[e]) a1T.mpr
  refine Xs.nil ?_
  show Xs _ _ _ [_] _
  refine Xs.cons (X1.a1 (b:=c !=Str.ofString "..") ?hT (fun q2=>?_) (fun q2=>?_))
  case hT=>
   refine Tst.to (q:=c !=Str.ofString "..") (Tst.or3 (q:=false) (r:=false) (Tst.neS (Ev.name rfl) (Ev.name rfl)) (fun _=>Tst.to (Tst.and (q:=false) (Tst.not (Tst.ofS (Ev.name rfl) (by decide+kernel))) (fun h=>absurd h (by decide+kernel))) (by decide+kernel)) (fun _ _=>?_)) (by simp)
   by_cases hts:ts=[]
   ·subst hts
    exact Tst.to (Tst.and (q:=false) (Tst.ofL (Ev.name rfl) (Has.mem (.head _)) (by simp)) (fun h=>by simp at h)) rfl
   ·obtain⟨ts0,y,rfl⟩:∃ts0 y,ts=ts0++[y]:=⟨_,_,(a3M hts).symm⟩
    have hl0:ts0.length+1<=i:=by simpa using hln
    refine Tst.to (Tst.and (Tst.ofL (Ev.name rfl) (Has.mem (.head _)) (by simp;exact om47 hl0 hi hsl hx hrl)) (fun h=>Tst.eqS (Ev.lastL (xs:=ts0.map .str) (sv:=.str y) (Ev.name rfl) (by rw[a0U];exact Has.mem (.head _)) (Ev.neg Ev.a1)) (Ev.name rfl))) ?_
    rw[a3L]
    right
    rw[a2Q]
    rintro rfl
    exact hnd (by simp)
  ·have q2:=a3U.mp q2
   have e2:normStep ts c=ts++[c]:=(if_neg q).trans (if_pos q2)
   refine Xs.cons (X1.append (xs:=ts.map .str) (Ev.name rfl) (Ev.name rfl) .head (by simp;exact om188 hi hsl hx hrl hln) ?_)
   iterate 2 refine Xs.nil ?_
   refine⟨_,_,⟨e2▸p4w hnd q2,by rw[e2];simpa using hln,rfl,rfl⟩,⟨rfl,rfl,rfl,rfl,rfl,trivial⟩,?_⟩
   rw[e2,a0U]
   exact .refl _
  ·have q2:=ne_f q2
   have e2:normStep ts c=ts.dropLast:=(if_neg q).trans (if_neg fun h=>h q2)
   by_cases hts:ts=[]
   ·subst hts
    refine Xs.cons (X1.a1 (Tst.ofL (Ev.name rfl) (Has.mem (.head _)) (by simp)) (fun h=>by simp at h) (fun _=>?_))
    iterate 3 refine Xs.nil ?_
    exact⟨_,_,⟨e2▸hnd,by rw[e2];simp,rfl,rfl⟩,⟨rfl,rfl,rfl,rfl,rfl,trivial⟩,e2▸ .refl _⟩
   ·obtain⟨ts0,y,rfl⟩:∃ts0 y,ts=ts0++[y]:=⟨_,_,(a3M hts).symm⟩
    rw[List.dropLast_concat]at e2
    have hl0:ts0.length+1<=i:=by simpa using hln
    refine Xs.cons (X1.a1 (Tst.ofL (Ev.name rfl) (Has.mem (.head _)) (by simp;exact om47 hl0 hi hsl hx hrl)) (fun _=>?_) (fun h=>by simp at h))
    rw[a0U]
    refine Xs.cons (X1.pop (xs:=ts0.map .str) (x:=y) (Ev.name rfl) .head (by simp;exact om169 hl0 hi hsl hx hrl) ?_)
    iterate 3 refine Xs.nil ?_
    refine⟨_,_,⟨by rw[e2];exact fun h=>hnd (by simp[h]),by rw[e2];exact om394 hl0,rfl,rfl⟩,⟨rfl,rfl,rfl,rfl,rfl,trivial⟩,?_⟩
    rw[e2]
    exact .refl _
 ·rintro σ ld zu;refine an4 zu fun hnd hln za zb=>?_;clear zu;refine eq2 za zb ?_;clear za zb
  rw[a0J,hN]at*
  have hA:AllLen 1000 (k7l x):=k0f hna (om153 hx hrl)
  have hj:=k4x (x:=Str.ofString "/") hA (om90 hsl hx hrl hln) (by decide+kernel)
  show Xs _ _ _ (_::_) _
  walk_at "x1"
  refine Xs.cons (X1.a0 (Ew.pure (Ev.a6 (Ev.name rfl) (Ev.a9 (ts:=k7l x) (Ev.name rfl) (Ev.name rfl) (Has.mem (.head _)) hA (om90 hsl hx hrl hln) (by decide+kernel)) (Opr.addS ?_)) ?_))
  ·rw[show(Str.ofString "/").length=1 from by decide+kernel];exact om468 hj
  show Xs _ _ _ [_] _
  have e:normF x=Str.ofString "/"++Txt.join (Str.ofString "/") (k7l x):=by unfold normF;rw[hr]
  have hl2:(Str.ofString "/"++Txt.join (Str.ofString "/") (k7l x)).length=1+(Txt.join (Str.ofString "/") (k7l x)).length:=by rw[k0n];rfl
  rw[<-e]at hl2⊢
  refine Xs.cons (X1.ret (Ew.pure (Ev.orS (Ev.name rfl) (Ev.name rfl) (om383 hl2 hj)) ?_))
  refine⟨[],⟨?_,rfl⟩,a0X _⟩
  rw[if_neg]
  intro h
  rw[h]at hl2
  have:(Str.ofString "").length=0:=by decide+kernel
  exact(om421 hl2 this).elim
theorem p3p {w:World}{x:Str}(hx:x.length<=900)(hr:k1m x=Str.ofString "/")(hs:Txt.startswith x (Str.ofString "/")=true):Cn w 3 186 [.str x] (fun _=>True) (fun sv new=>sv=.str (normF x)∧new=[]):=by
 refine k0g (x:=Str.ofString "path") (by k_is) (by k_is) (fun _ _=>a1V rfl) rfl (by decide+kernel) (fun h₀ os L=>?_)
 intro C G _
 walk_at "x1"
 refine Xs.cons (X1.a1 (Tst.isb G (by walk_at "ev")) (fun q=>nomatch q) (fun _=>?_))
 refine Xs.cons (X1.a1 (by walk_at "ts") (fun q=>by rw[hs]at q;cases q) (fun _=>?_))
 iterate 2 refine Xs.nil ?_
 show Xs _ _ _ [_] _
 refine Xs.cons (X1.ret (Ew.pure (Ev.b0 G (m3k hx hr) (by walk_at "a1") (fun _ _=>trivial) (by walk_at "okA") (by k_is) (by k_is) rfl) ?_))
 exact⟨[],⟨rfl,rfl⟩,a0X _⟩
noncomputable def HasL (h:Heap)(a:Addr)(xs:List SV):Prop:=∃o,h.get? a=some o∧(SO.list xs).is o
theorem HasL.has {C:Cx}{σ:Loc}{ld:Led}{a:Addr}{xs:List SV}(h:HasL C.h₀ a xs):Has C σ ld a (.list xs):=let⟨o,e,i⟩:=h;Has.base e i
section
variable {C:Cx}{σ:Loc}{ld ld':Led}{s s':Shared}{D l m:Addr}{x y:PySem.Str}{a b e:Expr}{pos px np ap tp sp cp p1 p2 p3:Pos}{sv sa sc:SV}{xs as:List SV}{ls:List Addr}{xss:List (List Str)}{P:Fl ->Loc ->Led ->Prop}{R:SV ->Led ->Prop}{p q:Bool}{i j:Int}
theorem m4y (hm:Has C σ ld m (.list (ls.map SR)))(hlen:xss.length=ls.length)(hv:∀i l,ls[i]?=some l ->Has C σ ld l (.list ((xss.getD i []).map .str)))(H:Hold C σ ld s):
  s.heap.IsList m (ls.map Value.ref).toArray∧∀i v,(ls.map Value.ref)[i]?=some v ->∃l us,v=.ref l∧s.heap.IsList l us.toArray∧StrsAre us (xss.getD i []):=by
 refine x1a2 (hm.isList H) fun vs hI hA=>?_
 have e:vs=ls.map Value.ref:=by
  clear hI hlen hv hm
  induction ls generalizing vs with
  |nil=>obtain _|_:=hA;rfl
  |cons l ls ih=>
   refine x2a3 hA.uncons fun _ _ za h t=>?_;obtain rfl:=za
   rw[ih _ t]
   exact a3C (· ::_) h
 subst e
 refine⟨hI,fun i v h=>?_⟩
 rw[a0T,Option.map_eq_some_iff]at h
 refine x1a2 h fun l hl za=>?_;clear h;obtain rfl:=za
 refine x1a2 ((hv i l hl).isList H) fun us h1 h2=>?_
 exact⟨l,us,rfl,h1,h2.strs⟩
theorem Ev.minL (G:Gd C)(ha:Ev C σ ld e (SR m))(hm:Has C σ ld m (.list (ls.map SR)))(hlen:xss.length=ls.length)(h0:0<ls.length)(hv:∀i l,ls[i]?=some l ->Has C σ ld l (.list ((xss.getD i []).map .str))){k:Nat}(hk:argBest (fun i j=>ltList (xss.getD i []) (xss.getD j [])) (ls.length-1)=k){r:Addr}(hr:ls[k]?=some r)(hu:C.A.in1.units<cLine)
  (e1:autoParam (nsIn (hd.heap_1 C.w.params) mainGlobals (Str.ofString "min")=some none) aK)(hx:autoParam (C.env.kindOf (Str.ofString "min")=some .globalImplicit) aR)
  (he:autoParam (eval (.Call (.Name (Str.ofString "min") np) [e] [] pos) C.env=(do callWith pos (<-eval (.Name (Str.ofString "min") np) C.env) [] (backTo pos (starEach [e] C.env)) (backToKw pos (keywordEach [] C.env)))) aR)
  (hs:autoParam (starEach [e] C.env=(false,eval e C.env)::starEach [] C.env) aR):Ev C σ ld (.Call (.Name (Str.ofString "min") np) [e] [] pos) (SR r):=
 Ev.a2 G (.cons ha .nil hs) (fun vs s Q E hvs H k'=>by
  refine x1a2 hvs.one fun _ za h=>?_;obtain rfl:=za
  obtain rfl:=h
  obtain⟨h1,h2⟩:=m4y hm hlen hv H
  refine my_min h1 (by rw[a0J];exact hlen) (by rw[a0J];exact h0) h2 G.h hu fun v h' tk hv' kp=>k' v _ (.of kp) ?_
  rw[a0J,hk,a0T,hr]at hv'
  injection hv' with e;exact e.symm) e1 (by boot_by_name) (hx:=hx) (he:=he) (hs:=hs)
theorem Ev.maxL (G:Gd C)(ha:Ev C σ ld e (SR m))(hm:Has C σ ld m (.list (ls.map SR)))(hlen:xss.length=ls.length)(h0:0<ls.length)(hv:∀i l,ls[i]?=some l ->Has C σ ld l (.list ((xss.getD i []).map .str))){k:Nat}(hk:argBest (fun i j=>ltList (xss.getD j []) (xss.getD i [])) (ls.length-1)=k){r:Addr}(hr:ls[k]?=some r)(hu:C.A.in1.units<cLine)
  (e1:autoParam (nsIn (hd.heap_1 C.w.params) mainGlobals (Str.ofString "max")=some none) aK)(hx:autoParam (C.env.kindOf (Str.ofString "max")=some .globalImplicit) aR)
  (he:autoParam (eval (.Call (.Name (Str.ofString "max") np) [e] [] pos) C.env=(do callWith pos (<-eval (.Name (Str.ofString "max") np) C.env) [] (backTo pos (starEach [e] C.env)) (backToKw pos (keywordEach [] C.env)))) aR)
  (hs:autoParam (starEach [e] C.env=(false,eval e C.env)::starEach [] C.env) aR):Ev C σ ld (.Call (.Name (Str.ofString "max") np) [e] [] pos) (SR r):=
 Ev.a2 G (.cons ha .nil hs) (fun vs s Q E hvs H k'=>by
  refine x1a2 hvs.one fun _ za h=>?_;obtain rfl:=za
  obtain rfl:=h
  obtain⟨h1,h2⟩:=m4y hm hlen hv H
  refine my_max h1 (by rw[a0J];exact hlen) (by rw[a0J];exact h0) h2 G.h hu fun v h' tk hv' kp=>k' v _ (.of kp) ?_
  rw[a0J,hk,a0T,hr]at hv'
  injection hv' with e;exact e.symm) e1 (by boot_by_name) (hx:=hx) (he:=he) (hs:=hs)
theorem Tst.isl {k0:Nat}(G:Gd C)(ha:Ev C σ ld a (SR l))(hl:Has C σ ld l (.list xs))(e1:autoParam (nsIn (hd.heap_1 C.w.params) mainGlobals (Str.ofString "isinstance")=some none) aK)(k1:autoParam (C.env.kindOf (Str.ofString "isinstance")=some .globalImplicit) aR)
  (e2:autoParam (nsIn (hd.heap_1 C.w.params) mainGlobals (Str.ofString "list")=some none) aK)(k2:autoParam (C.env.kindOf (Str.ofString "list")=some .globalImplicit) aR)
  (e3:autoParam (nsIn (hd.heap_1 C.w.params) mainGlobals (Str.ofString "tuple")=some none) aK)(k3:autoParam (C.env.kindOf (Str.ofString "tuple")=some .globalImplicit) aR)
  (he:autoParam (eval (.Call (.Name (Str.ofString "isinstance") np) [a,.Tuple [.Name (Str.ofString "list") p1,.Name (Str.ofString "tuple") p2] k0 p3] [] pos) C.env=(do callWith pos (<-eval (.Name (Str.ofString "isinstance") np) C.env) [] (backTo pos (starEach [a,.Tuple [.Name (Str.ofString "list") p1,.Name (Str.ofString "tuple") p2] k0 p3] C.env)) (backToKw pos (keywordEach [] C.env)))) aR)
  (hs:autoParam (starEach [a,.Tuple [.Name (Str.ofString "list") p1,.Name (Str.ofString "tuple") p2] k0 p3] C.env=(false,eval a C.env)::starEach [.Tuple [.Name (Str.ofString "list") p1,.Name (Str.ofString "tuple") p2] k0 p3] C.env) aR):
  Tst C σ ld (.Call (.Name (Str.ofString "isinstance") np) [a,.Tuple [.Name (Str.ofString "list") p1,.Name (Str.ofString "tuple") p2] k0 p3] [] pos) true:=
 Tst.ofB (.mk fun s Q E H k=>by
  refine Call_ (k0i G H e1 (by boot_by_name) (by decide+kernel) k1 (by decide+kernel) ?_) he
  refine callWith_builtin1 ?_ hs (by rfl)
  refine a2J (ha.run s _ _ H fun v s' g hv=>?_) hs
  obtain rfl:=hv
  refine a2J ?_
  walk1
  refine a2J (k0i G (H.go g) e2 (by boot_by_name) (by decide+kernel) k2 (by decide+kernel) ?_)
  refine a2J (k0i G (H.go g) e3 (by boot_by_name) (by decide+kernel) k3 (by decide+kernel) (a4D ?_))
  refine a6M (a4D ?_)
  refine x1a2 (hl.isList (H.go g)) fun vs hI _=>?_
  refine isi_lt (hI.at fun o e=>a0C _ e) (a0I _ rfl) fun tk=>?_
  exact k _ _ (g.trans (.of fun b o e=>a0C _ e)) rfl)
theorem Ew.lenW (G:Gd C)(h:Ew C σ ld e fun sv' ld'=>∃l xs,sv'=SR l∧Has C σ ld' l (.list xs)∧xs.length<=1000000∧R (.int (xs.length:Int)) ld')(e1:autoParam (nsIn (hd.heap_1 C.w.params) mainGlobals (Str.ofString "len")=some none) aK)(hx:autoParam (C.env.kindOf (Str.ofString "len")=some .globalImplicit) aR)
  (he:autoParam (eval (.Call (.Name (Str.ofString "len") np) [e] [] pos) C.env=(do callWith pos (<-eval (.Name (Str.ofString "len") np) C.env) [] (backTo pos (starEach [e] C.env)) (backToKw pos (keywordEach [] C.env)))) aR)
  (hs:autoParam (starEach [e] C.env=(false,eval e C.env)::starEach [] C.env) aR):Ew C σ ld (.Call (.Name (Str.ofString "len") np) [e] [] pos) R:=.mk fun s Q E H k=>by
 refine Call_ (k0i G H e1 (by boot_by_name) (by decide+kernel) hx (by decide+kernel) ?_) he
 refine callWith_builtin1 ?_ hs (by rfl)
 refine a2J (h.run s _ _ H fun v sv ld' s' hv hp H'=>a4D ?_) hs
 refine x2a4 hp fun l xs za hl hz r=>?_;clear hp;obtain rfl:=za
 obtain rfl:=hv
 exact len_list hl hz (.cons rfl .nil) H' fun v s'' g hv=>k v _ ld' s'' hv r (H'.go g)
theorem Ew.callW {f:Addr}{n:Nat}{rest:List Expr}(G:Gd C)(hargs:EwL C σ ld (e::rest) fun svs ld'=>∃pre post,Cn C.w n f svs pre post∧(∀s,Hold C σ ld' s ->pre s.heap)∧∀sv new,post sv new ->R sv (new++ld'))
  (hA:OkA C.A n)(e1:nsIn (hd.heap_1 C.w.params) mainGlobals x=some (some (.ref f))){o:Obj}{fd:FuncData}(hf:(hd.heap_1 C.w.params).lookup f=some o)(hfd:o.data=.func fd)(hx:autoParam (C.env.kindOf x=some .globalImplicit) aR)(hd:autoParam ((x==("__debug__":Str))=false) aE)
  (he:autoParam (eval (.Call (.Name x np) (e::rest) [] pos) C.env=(do callWith pos (<-eval (.Name x np) C.env) [] (backTo pos (starEach (e::rest) C.env)) (backToKw pos (keywordEach [] C.env)))) aR)
  (hs:autoParam (starEach (e::rest) C.env=(false,eval e C.env)::starEach rest C.env) aR):Ew C σ ld (.Call (.Name x np) (e::rest) [] pos) R:=.mk fun s Q E H k=>by
 refine Call_ (k5k G H e1 hx hd (callWith_def (o:=o) hfd (hargs.run pos s _ E H fun vs svs' ld' s' hvs hp H'=>?_) hs)) he
 refine x2a3 hp fun pre post c hpre hpost=>?_
 refine ex2 G.T fun mg mb T=>?_
 refine x1a2 H'.fr fun m F _=>?_
 exact⟨G.X.keeps F.keep f o hf,c C.A s' Q E vs mg mb (G.X.keeps F.keep) (T.keeps F.keep) hA hvs (hpre s' H') fun v sv new s'' hv hq A=>k v sv _ s'' hv (hpost sv new hq) (H'.call A)⟩
theorem Has.hasL (h:Has C σ ld l (.list xs))(H:Hold C σ ld s):HasL s.heap l xs:=h s H
theorem Ev.to (h:Ev C σ ld a sv)(e:sv=sa):Ev C σ ld a sa:=e▸h
theorem Tst.isN (ha:Ev C σ ld a (.str x)){k0:Nat}(hm:autoParam (behindInMarks .Is (.Constant .none k0 p1)=false) aU):Tst C σ ld (.Compare a [.Is] [.Constant .none k0 p1] pos) false:=.mk fun s Q E H k=>by
 refine a1F (ha.run s _ _ H fun v s' g hv=>?_) hm
 obtain⟨t,rfl⟩:=hv
 walk1
 walk1
 walk1
 exact k _ _ g rfl
end
theorem p3x (xa xb:List Str):∃i j,argBest (fun i j=>ltList ([xa,xb].getD i []) ([xa,xb].getD j [])) 1=i∧argBest (fun i j=>ltList ([xa,xb].getD j []) ([xa,xb].getD i [])) 1=j∧i<2∧j<2∧
  ltList ([xa,xb].getD j []) ([xa,xb].getD i [])=false∧([xa,xb].getD i []).take (lcp ([xa,xb].getD i []) ([xa,xb].getD j []))=xa.take (lcp xa xb):=by
 unfold argBest
 unfold argBest
 show∃i j,(if ltList xb xa=true then 1 else 0)=i∧(if ltList xa xb=true then 1 else 0)=j∧_
 cases h1:ltList xb xa with
 |true=>
  rw[k1e _ _ h1]
  exact⟨1,0,rfl,rfl,by decide,by decide,k1e _ _ h1,k1p xb xa⟩
 |false=>
  cases h2:ltList xa xb with
  |true=>exact⟨0,1,rfl,rfl,by decide,by decide,h1,rfl⟩
  |false=>
   have e:xa=xb:=k9i xa xb h2 h1
   exact⟨0,0,rfl,rfl,by decide,by decide,k1o xa,by rw[<-e];rfl⟩
theorem m8g {w:World}{c a b:Addr}{xa xb:List Str}(la:xa.length<=1000)(lb:xb.length<=1000):Cn w 0 130 [SR c] (fun h=>HasL h c [SR a,SR b]∧HasL h a (xa.map .str)∧HasL h b (xb.map .str))
  (fun sv new=>∃D ys,sv=SR D∧ys.length=lcp xa xb∧(new=[(D,.list (ys.map SV.str))]∨(new=[]∧((D=a∧ys=xa)∨(D=b∧ys=xb))))):=by
 refine k0g (x:=Str.ofString "m") (by k_is) (by k_is) (fun _ _=>a1V rfl) rfl (by decide+kernel) (fun h₀ os L=>?_)
 intro C G ⟨hc,ha,hb⟩
 have hls:∀ {σ ld} i l,[a,b][i]?=some l ->Has C σ ld l (.list ((([xa,xb]:List (List Str)).getD i []).map .str)):=by
  intro σ ld i l h
  exact k9p (P:=fun i=>[a,b][i]?=some l ->Has C σ ld l (.list ((([xa,xb]:List (List Str)).getD i []).map .str))) (fun h=>by cases h;exact ha.has) (fun h=>by cases h;exact hb.has) (a1A.mp h).1 h
 refine x2a6 (p3x xa xb) fun i1 i2 e1 e2 b1 b2 hlt htk=>?_
 obtain⟨p,hp⟩:∃p,[a,b][i1]?=some p:=⟨_,a0D b1⟩
 obtain⟨q,hq⟩:∃q,[a,b][i2]?=some q:=⟨_,a0D b2⟩
 have hP:=fun {σ ld}=> @hls σ ld i1 p hp
 have hQ:=fun {σ ld}=> @hls σ ld i2 q hq
 have lp:(([xa,xb]:List (List Str)).getD i1 []).length<=1000:=k9p (P:=fun i=>(([xa,xb]:List (List Str)).getD i []).length<=1000) la lb b1
 have fin:(p=a∧([xa,xb]:List (List Str)).getD i1 []=xa)∨(p=b∧([xa,xb]:List (List Str)).getD i1 []=xb):=k9p (P:=fun i=>[a,b][i]?=some p ->(p=a∧([xa,xb]:List (List Str)).getD i []=xa)∨(p=b∧([xa,xb]:List (List Str)).getD i []=xb)) (fun h=>by cases h;exact .inl ⟨rfl,rfl⟩) (fun h=>by cases h;exact .inr ⟨rfl,rfl⟩) b1 hp
 have ho:∃o,C.h₀.get? p=some o:=k9p (P:=fun i=>[a,b][i]?=some p ->∃o,C.h₀.get? p=some o) (fun h=>by cases h;exact⟨_,ha.choose_spec.1⟩) (fun h=>by cases h;exact⟨_,hb.choose_spec.1⟩) b1 hp
 refine Xs.cons (X1.a1 (Tst.not (Tst.ofL (Ev.name rfl) hc.has (by simp))) (fun h=>nomatch h) (fun _=>?_))
 refine Xs.nil ?_
 show Xs _ _ _ (_::_) _
 refine Xs.cons (X1.a1 (Tst.not (Tst.isl G (Ev.a7 (xs:=[SR a,SR b]) (Ev.name rfl) hc.has Ev.a1 (by decide) rfl (by decide)) ha.has)) (fun h=>nomatch h) (fun _=>?_))
 refine Xs.nil ?_
 show Xs _ _ _ (_::_) _
 refine Xs.cons (X1.a0 (Ew.pure (Ev.minL (ls:=[a,b]) (xss:=[xa,xb]) G (Ev.name rfl) hc.has rfl (Nat.zero_lt_succ _) hls e1 hp (kb rfl)) ?_))
 show Xs _ _ _ (_::_) _
 refine Xs.cons (X1.a0 (Ew.pure (Ev.maxL (ls:=[a,b]) (xss:=[xa,xb]) G (Ev.name rfl) hc.has rfl (Nat.zero_lt_succ _) hls e2 hq (kb rfl)) ?_))
 show Xs _ _ _ (_::_) _
 generalize([xa,xb]:List (List Str)).getD i1 []=xp at*
 generalize([xa,xb]:List (List Str)).getD i2 []=xq at*
 clear hls e1 e2 hp hq
 refine Xs.cons (X1.a3 (Fs.enum G (Ev.name rfl) hP) (fun i σ ld=>i<=lcp xp xq∧σ=[(Str.ofString "s2",SR q),(Str.ofString "s1",SR p)]∧ld=[]) (fun _ _=>False) ⟨_,_,⟨a0R _,rfl,rfl⟩,⟨rfl,rfl,trivial⟩,.refl _⟩ ?_ ?_ ?_ (fun _ _ h=>h.elim))
 ·intro b hb
  rw[a0B.mp hb]
  exact .inl ho
 ·rintro i σ ld it hi zu hit;refine an3 zu fun hi2 za zb=>?_;clear zu;refine eq2 za zb ?_;clear za zb
  rw[a0J]at hi
  have hx:xp[i]?=some xp[i]:=a0D hi
  have hiq:=m8z xp xq i hlt hi2 hi
  have hy:xq[i]?=some xq[i]:=a0D hiq
  rw[k3p hx]
  show Xs C [(_,_),(_,_),_,_] _ _ _
  refine Xs.cons (X1.a1 (Tst.neS (Ev.name rfl) (Ev.a7 (xs:=xq.map .str) (sv:=.str xq[i]) (Ev.name rfl) hQ (Ev.name rfl) om7 (by rw[a1W,a0T,hy];rfl) (om73 hi lp))) (fun h=>?_) (fun h=>?_))
  ·have e:=k6r xp xq i hi2 (fun _ _=>by
    rw[a0E,hx,a0E,hy]
    exact a3U.mp h)
   refine Xs.cons (X1.ret (Ew.a3 (Ev.name rfl) hP (Ev.name rfl) om7 (by simp;exact p4s lp) fun D=>?_))
   refine⟨_,⟨D,xp.take i,rfl,?_,.inl rfl⟩,?_⟩
   ·rw[e,htk,a2F]
    exact a4Y (k3x xa xb).1
   ·rw[a1W,a6C]
    exact .cons_cons _ (a0X _)
  ·iterate 2 refine Xs.nil ?_
   refine⟨_,_,⟨?_,rfl,rfl⟩,⟨rfl,rfl,trivial⟩,.refl _⟩
   refine k6q xp xq i hi2 hi hiq ?_
   rw[a0E,hx,a0E,hy]
   exact ne_f h
 ·rintro σ ld zu;refine an3 zu fun hi za zb=>?_;clear zu;refine eq2 za zb ?_;clear za zb
  rw[a0J]at hi
  show Xs _ _ _ [_] _
  refine Xs.cons (X1.ret (Ew.pure (Ev.name rfl) ?_))
  have e:=a3C List.length htk
  rw[a2F,a2F,a4Y (k3x xp xq).1,a4Y (k3x xa xb).1]at e
  have:=(k3x xp xq).1
  exact⟨[],⟨p,xp,rfl,by exact om340 e hi this,.inr ⟨rfl,fin⟩⟩,a0X _⟩
theorem m4u {y:Str}(ly:(normF y).length<=400):(partsOf (tailOf y)).length<=410∧AllLen 400 (partsOf (tailOf y)):=by
 have hl:(tailOf y).length<=(normF y).length:=len_lstripChars _ _
 unfold partsOf
 split
 ·exact⟨a0R _,k1b⟩
 ·have h1:=k0l (tailOf y) (Str.ofString "/")
  exact⟨by exact om119 h1 ly hl,k0f (k0s _ _) (om225 ly hl)⟩
theorem rel_cn {w:World}{x y:Str}(hx:x.length<=900)(hy:y.length<=900)(hr:k1m x=Str.ofString "/")(hs:Txt.startswith x (Str.ofString "/")=true)(hr2:k1m y=Str.ofString "/")(hs2:Txt.startswith y (Str.ofString "/")=true)
  (lx:(normF x).length<=400)(ly:(normF y).length<=400):Cn w 4 194 [.str x,.str y] (fun _=>True) (fun sv new=>sv=.str (relF x y)∧new=[]):=by
 refine k3r (σ:=[(Str.ofString "start",.str y),(Str.ofString "path",.str x)]) (binds:=fun vs=>[(Str.ofString "path",vs.headD .none),(Str.ofString "start",vs.getD 1 .none)]) (by k_is) (by k_is) (fun vs s X h=>?_) (fun vs h=>?_) (fun vs h=>?_) (by decide+kernel) (fun h₀ os L=>?_)
 ·refine x2a3 h.two fun _ _ za zb zx=>ex1 zx fun u zc=>?_;clear zx;obtain rfl:=za;obtain⟨t,rfl⟩:=zb;obtain rfl:=zc
  exact binds_K X rfl (by k_is) rfl rfl rfl
 ·refine x2a3 h.two fun _ _ za zb zx=>ex1 zx fun u zc=>?_;clear zx;obtain rfl:=za;obtain⟨t,rfl⟩:=zb;obtain rfl:=zc
  exact .cons ⟨_,rfl⟩ (.cons ⟨_,rfl⟩ .nil)
 ·exact locs rfl
 intro C G _
 have hlx:(tailOf x).length<=(normF x).length:=len_lstripChars _ _
 have hly:(tailOf y).length<=(normF y).length:=len_lstripChars _ _
 walk_at "x1"
 refine Xs.cons (X1.a1 (Tst.not (Tst.ofS (by walk_at "ev") (om311 hx))) (fun q=>by rw[m8c hr]at q;cases q) (fun _=>?_))
 refine Xs.nil ?_
 show Xs _ _ _ (_::_) _
 refine Xs.cons (X1.a1 (Tst.isb G (by walk_at "ev")) (fun q=>nomatch q) (fun _=>?_))
 iterate 4 walk_at "x1"
 show Xs _ _ _ (_::_) _
 refine Xs.cons (X1.a1 (Tst.isN (by walk_at "ev")) (fun q=>nomatch q) (fun _=>?_))
 iterate 2 walk_at "x1"
 show Xs _ _ _ [_] _
 refine Xs.cons (X1.tryOk ?_)
 refine Xs.cons (X1.a0 (Ew.pure (Ev.sm1 (Ev.b0 G (p3p hy hr2 hs2) (by walk_at "a1") (fun _ _=>trivial) (by walk_at "okA") (by k_is) (by k_is) rfl) (by walk_at "ev") F.slot_str_lstrip F.type_str_lstrip (k8d (om289 ly))) ?_))
 show Xs _ _ _ (_::_) _
 refine Xs.cons (X1.a0 (Ew.pure (Ev.sm1 (Ev.b0 G (p3p hx hr hs) (by walk_at "a1") (fun _ _=>trivial) (by walk_at "okA") (by k_is) (by k_is) rfl) (by walk_at "ev") F.slot_str_lstrip F.type_str_lstrip (k8d (om289 lx))) ?_))
 show Xs _ [(_,.str (tailOf x)),(_,.str (tailOf y)),_,_,_,_,_,_,_] _ (_::_) _
 obtain⟨l1,a1⟩:=m4u ly
 obtain⟨l2,a2⟩:=m4u lx
 refine Xs.a0 2 (fun σ ld=>∃D1 D2,σ=[(Str.ofString "start_list",SR D1),(Str.ofString "path_list",SR D2),(Str.ofString "sep",.str (Str.ofString "/")),(Str.ofString "curdir",.str (Str.ofString ".")),(Str.ofString "pardir",.str (Str.ofString ".."))]∧ld=[(D2,.list ((partsOf (tailOf x)).map .str)),(D1,.list ((partsOf (tailOf y)).map .str))]) ?_ ?_
 ·refine Xs.cons (X1.a0 (Ew.a0 (Tst.ofS (by walk_at "ev") (om87 ly hly)) (fun q=>Ew.a5 (Ev.name rfl) (Ev.name rfl) (by decide+kernel) (om88 ly hly) fun D1=>?_) (fun q=>Ew.list (EwL.pure .nil ⟨a0R _,fun D1=>?_⟩))))
  all_goals
   show Xs _ _ _ (_::_) _
   refine Xs.cons (X1.a0 (Ew.a0 (Tst.ofS (by walk_at "ev") (om87 lx hlx)) (fun q'=>Ew.a5 (Ev.name rfl) (Ev.name rfl) (by decide+kernel) (om88 lx hlx) fun D2=>?_) (fun q'=>Ew.list (EwL.pure .nil ⟨a0R _,fun D2=>?_⟩))))
   all_goals
    refine Xs.nil ?_
    refine⟨_,_,⟨D1,D2,rfl,rfl⟩,⟨rfl,rfl,rfl,rfl,rfl,trivial⟩,?_⟩
    first
     |rw[show partsOf (tailOf y)=Txt.split (tailOf y) (Str.ofString "/")from if_neg (a3U.mp q)]
     |rw[show partsOf (tailOf y)=[]from if_pos (ne_f q)]
    first
     |rw[show partsOf (tailOf x)=Txt.split (tailOf x) (Str.ofString "/")from if_neg (a3U.mp q')]
     |rw[show partsOf (tailOf x)=[]from if_pos (ne_f q')]
    exact .refl _
 rintro σ ld zu;refine x2a2 zu fun D1 D2 za zb=>?_;clear zu;refine eq2 za zb ?_;clear za zb
 show Xs _ _ _ (_::_) _
 have eR:relL x y=List.replicate ((partsOf (tailOf y)).length-lcp (partsOf (tailOf y)) (partsOf (tailOf x))) (Str.ofString "..")++(partsOf (tailOf x)).drop (lcp (partsOf (tailOf y)) (partsOf (tailOf x))):=rfl
 have eF:relF x y=if relL x y=[]then Str.ofString "." else Txt.join (Str.ofString "/") (relL x y):=rfl
 rw[eF]
 generalize relL x y=rl at*
 generalize partsOf (tailOf y)=py at*
 generalize partsOf (tailOf x)=px at*
 obtain⟨b1,b2⟩:=k3x py px
 have hR:rl.length<=820:=by rw[eR];simp;exact om117 l1 l2
 have hA:AllLen 1000 rl:=by
  rw[eR]
  exact k3s (m5n (by decide+kernel)) (k0f (k8f a2) (by decide))
 refine Xs.a0 1 (fun σ ld=>σ=[(Str.ofString "i",.int (lcp py px:Nat)),(Str.ofString "start_list",SR D1),(Str.ofString "path_list",SR D2),(Str.ofString "sep",.str (Str.ofString "/")),(Str.ofString "curdir",.str (Str.ofString ".")),(Str.ofString "pardir",.str (Str.ofString ".."))]∧ld=[(D2,.list (px.map .str)),(D1,.list (py.map .str))]) ?_ ?_
 ·refine Xs.cons (X1.a0 (Ew.lenW G (Ew.callW (f:=130) (n:=0) G (EwL.cons (Ew.list (EwL.pure (.cons (Ev.name rfl) (.cons (Ev.name rfl) .nil)) ⟨by simp,fun D3=>EwL.nil ⟨_,_,m8g (c:=D3) (a:=D1) (b:=D2) (xa:=py) (xb:=px) (om245 l1) (om245 l2),fun s H=>⟨(Has.mem (.head _)).hasL H,(Has.mem (.tail _ (.tail _ (.head _)))).hasL H,(Has.mem (.tail _ (.head _))).hasL H⟩,fun sv new h=>?_⟩⟩))) (by walk_at "okA") (by k_is) (by k_is) rfl)))
  refine x2a3 h fun D ys za el hn=>?_;clear h;obtain rfl:=za
  refine⟨D,ys.map .str,rfl,?_,by simp;exact om354 el l2 b2,?_⟩
  ·rcases hn with rfl| ⟨rfl,⟨rfl,rfl⟩| ⟨rfl,rfl⟩⟩
   ·exact Has.mem (.head _)
   ·exact Has.mem (.tail _ (.tail _ (.head _)))
   ·exact Has.mem (.tail _ (.head _))
  ·rw[a0J,el]
   refine Xs.nil ?_
   exact⟨_,_,⟨rfl,rfl⟩,⟨rfl,rfl,rfl,rfl,rfl,rfl,trivial⟩,.trans (.cons _ (.refl _)) (List.sublist_append_right _ _)⟩
 rintro σ ld ⟨rfl,rfl⟩
 show Xs _ _ _ (_::_) _
 have es:((py.length:Int)-((lcp py px:Nat):Int)).toNat=py.length-lcp py px:=om10
 refine Xs.cons (X1.a0 (Ew.a4 (xs:=List.replicate (py.length-lcp py px) (.str (Str.ofString ".."))) (Ew.mulL (sv:=.str (Str.ofString "..")) (i:=(py.length:Int)-((lcp py px:Nat):Int)) (Ew.list (EwL.pure (.cons (Ev.name rfl) .nil) ⟨kb rfl,fun D4=>⟨D4,rfl,Has.mem (.head _),Ev.a6 (Ev.to (sa:=.int (py.length:Int)) (Ev.lenL (xs:=py.map .str) G (Ev.name rfl) (Has.mem (.tail _ (.tail _ (.head _)))) (by simp;exact om506 l1)) (by rw[a0J])) (Ev.name rfl) Opr.subI,by exact om175 b1,by exact om427 l1,fun D5=>⟨D5,rfl,?_,?_⟩⟩⟩)))))
 ·rw[es];exact Has.mem (.head _)
 refine Ew.a2 (xs:=px.map .str) (Ev.name rfl) (Has.mem (.tail _ (.tail _ (.head _)))) (Ev.name rfl) om7 (by simp;exact om501 l2) fun D6=>⟨D6,rfl,?_,_,Has.mem (.head _),?_,fun D7=>?_⟩
 ·rw[es];exact Has.mem (.tail _ (.head _))
 ·simp;exact om107 l1 l2
 rw[a1W,<-a6D,show List.replicate (py.length-lcp py px) (SV.str (Str.ofString ".."))++(px.drop (lcp py px)).map .str=rl.map .str from by rw[eR,a0U,List.map_replicate]]
 show Xs _ _ _ (_::_) _
 refine Xs.cons (X1.a1 (Tst.not (Tst.ofL (Ev.name rfl) (Has.mem (.head _)) (by simp;exact om492 hR))) (fun q=>?_) (fun q=>?_))
 ·have q:rl=[]:=by simpa using q
  refine Xs.cons (X1.ret (Ew.pure (Ev.name rfl) ?_))
  exact⟨[],⟨by rw[if_pos q],rfl⟩,a0X _⟩
 ·have q:¬rl=[]:=by simpa using q
  refine Xs.nil ?_
  show Xs _ _ _ [_] _
  refine Xs.cons (X1.ret (Ew.pure (Ev.a9 (ts:=rl) (Ev.name rfl) (Ev.name rfl) (Has.mem (.head _)) hA (om493 hR) (by decide+kernel)) ?_))
  exact⟨[],⟨by rw[if_neg q],rfl⟩,a0X _⟩
theorem m5h (x:Str):∀i,i<=x.cps.size ->(cutTo x i).1.length<=i∧(cutTo x i).2.length<=i
 |0,_=>⟨a0R _,a0R _⟩
 |i+1,h=>by
  obtain⟨h1,h2⟩:=m5h x i (Nat.le_of_succ_le h)
  rw[k9n (a2Z h)]
  unfold cutStep
  split
  ·exact⟨by simpa using h1,a0R _⟩
  ·exact⟨a3W h1,by rw[k0n];exact Nat.succ_le_succ h2⟩
theorem p3n {w:World}{x:Str}(hx:x.length<=1000):Cn w 0 211 [.str x] (fun _=>True) (fun sv new=>∃D,sv=SR D∧new=[(D,.list ((cutF x).map .str))]):=by
 refine k0g (x:=Str.ofString "text") (by k_is) (by k_is) (fun _ _=>a1V rfl) rfl (by decide+kernel) (fun h₀ os L=>?_)
 intro C G _
 refine Xs.cons (X1.a0 (Ew.list (EwL.pure (.cons Ev.a0 .nil) ⟨kb rfl,fun D=>?_⟩)))
 show Xs _ _ _ (_::_) _
 refine Xs.cons (X1.forS (y:=x) (Ev.name rfl) G.h (fun i σ ld=>σ=[(Str.ofString "parts",SR D)]∧ld=[(D,.list ((cutTo x i).1.map .str++[.str (cutTo x i).2]))]) (fun _ _=>False) ⟨_,_,⟨rfl,rfl⟩,⟨rfl,trivial⟩,.refl _⟩ ?_ ?_ (fun _ _ h=>h.elim))
 ·rintro i c σ ld I hc ⟨rfl,rfl⟩
  have hi:i<x.cps.size:=(a6H.mp hc).1
  have hi2:i<1000:=a1C hi hx
  obtain⟨b1,b2⟩:=m5h x i (a4C hi)
  rw[k9n hc]
  generalize cutTo x i=ps at*
  have ec:((⟨#[c]⟩:Str)==Str.ofString ".")=decide (c=46):=by rw[show Str.ofString "."=⟨#[46]⟩from by decide+kernel,k6m]
  refine Xs.cons (X1.a1 (Tst.eqS (Ev.name rfl) Ev.a0) (fun q=>?_) (fun q=>?_))
  ·rw[ec,a1B]at q
   rw[show cutStep ps c=(ps.1++[ps.2],Str.ofString "")from if_pos q]
   refine Xs.cons (X1.append (xs:=ps.1.map .str++[.str ps.2]) (Ev.name rfl) Ev.a0 .head (by simp;exact om408 hi2 b1) ?_)
   iterate 2 refine Xs.nil ?_
   refine⟨_,_,⟨rfl,rfl⟩,⟨rfl,trivial⟩,?_⟩
   rw[a0U]
   exact .refl _
  ·rw[ec,a3B]at q
   rw[show cutStep ps c=(ps.1,ps.2++⟨#[c]⟩)from if_neg q]
   refine Xs.cons (X1.augLast (xs:=ps.1.map .str) (Ev.name rfl) (Ev.neg Ev.a1) (Ev.name rfl) (Ipr.addS (x:=ps.2) (y:=⟨#[c]⟩) (by show _+1<=_;exact om357 hi2 b2)) .head ?_ (by intros;rfl))
   iterate 2 refine Xs.nil ?_
   exact⟨_,_,⟨rfl,rfl⟩,⟨rfl,trivial⟩,.refl _⟩
 ·rintro σ ld ⟨rfl,rfl⟩
  show Xs _ _ _ [_] _
  refine Xs.cons (X1.ret (Ew.pure (Ev.name rfl) ?_))
  refine⟨_,⟨D,rfl,rfl⟩,?_⟩
  unfold cutF
  rw[a0U]
  exact .refl _
theorem p1c {w:World}{a:Addr}{xs:List Str}(hl:xs.length<=1000):Cn w 0 263 [SR a] (fun h=>HasL h a (xs.map .str)) (fun sv new=>∃D,sv=SR D∧new=[(D,.list ((stackF xs).map .str))]):=by
 refine k0g (x:=Str.ofString "names") (by k_is) (by k_is) (fun _ _=>a1V rfl) rfl (by decide+kernel) (fun h₀ os L=>?_)
 intro C G ha
 refine Xs.cons (X1.a0 (Ew.list (EwL.pure (.cons Ev.a0 .nil) ⟨kb rfl,fun D=>?_⟩)))
 show Xs _ _ _ (_::_) _
 refine Xs.cons (X1.a3 (Fs.list (xs:=xs.map .str) G.h (Ev.name rfl) ha.has) (fun i σ ld=>∃D,(stackTo xs i).length<=i+1∧σ=[(Str.ofString "stack",SR D)]∧ld=[(D,.list ((stackTo xs i).map .str))]) (fun _ _=>False) ⟨_,_,⟨D,a0W _,rfl,rfl⟩,⟨rfl,trivial⟩,.refl _⟩ ?_ ?_ ?_ (fun _ _ h=>h.elim))
 ·intro b hb
  rw[a0B.mp hb]
  exact .inl ⟨_,ha.choose_spec.1⟩
 ·rintro i σ ld it hi zu hit;refine x1a3 zu fun D hlen za zb=>?_;clear zu;refine eq2 za zb ?_;clear za zb
  rw[a0J]at hi
  have hx:xs[i]?=some xs[i]:=a0D hi
  rw[k3p hx,m1k hx]
  generalize xs[i]=c at*
  generalize stackTo xs i=ts at*
  show Xs C [(_,_),_] _ (_::_) _
  refine Xs.cons (X1.a1 (Tst.eqS (Ev.name rfl) Ev.a0) (fun q=>?_) (fun q=>?_))
  ·rw[show stackStep ts c=ts.dropLast from if_pos (a1T.mp q)]
   refine Xs.cons (X1.a0 (Ew.sliceInit (xs:=ts.map .str) (Ev.name rfl) (Has.mem (.head _)) (Ev.neg Ev.a1) (by simp;exact om328 hi hlen hl) fun D2=>?_))
   iterate 2 refine Xs.nil ?_
   refine⟨_,_,⟨D2,by simp;exact om426 hlen,rfl,rfl⟩,⟨rfl,trivial⟩,?_⟩
   rw[List.map_dropLast]
   exact .cons_cons _ (.cons _ (.refl _))
  ·have q:=a2Q.mp q
   refine Xs.cons (X1.a1 (Tst.notin2 (Ev.name rfl)) (fun q2=>?_) (fun q2=>?_))
   ·rw[Bool.not_eq_true']at q2
    rw[show stackStep ts c=ts++[c]from(if_neg q).trans (if_neg (p2v q2))]
    refine Xs.cons (X1.a0 (Ew.a4 (xs:=ts.map .str) (Ew.pure (Ev.name rfl) ⟨D,rfl,Has.mem (.head _),Ew.list (EwL.pure (.cons (Ev.name rfl) .nil) ⟨kb rfl,fun D2=>⟨D2,rfl,Has.mem (.tail _ (.head _)),_,Has.mem (.head _),by simp;exact om329 hi hlen hl,fun D3=>?_⟩⟩)⟩)))
    iterate 3 refine Xs.nil ?_
    refine⟨_,_,⟨D3,by simpa using hlen,rfl,rfl⟩,⟨rfl,trivial⟩,?_⟩
    rw[a0U]
    exact .cons_cons _ (.cons _ (.cons _ (.refl _)))
   ·rw[Bool.not_eq_false']at q2
    rw[show stackStep ts c=ts from(if_neg q).trans (if_pos (p2u q2))]
    iterate 3 refine Xs.nil ?_
    exact⟨_,_,⟨D,a3W hlen,rfl,rfl⟩,⟨rfl,trivial⟩,.refl _⟩
 ·rintro σ ld zu;refine x1a3 zu fun D hlen za zb=>?_;clear zu;refine eq2 za zb ?_;clear za zb
  rw[a0J,m3b]
  show Xs _ _ _ [_] _
  refine Xs.cons (X1.ret (Ew.pure (Ev.name rfl) ?_))
  exact⟨_,⟨D,rfl,rfl⟩,.refl _⟩
theorem m1o {w:World}{a b:Addr}{xa xb:List Str}(la:xa.length<=1000)(lb:xb.length<=1000):Cn w 0 270 [SR a,SR b] (fun h=>HasL h a (xa.map .str)∧HasL h b (xb.map .str)) (fun sv new=>sv=.int (lcp xa xb:Nat)∧new=[]):=by
 refine k3r (σ:=[(Str.ofString "high",SR b),(Str.ofString "low",SR a)]) (binds:=fun vs=>[(Str.ofString "low",vs.headD .none),(Str.ofString "high",vs.getD 1 .none)]) (by k_is) (by k_is) (fun vs s _ h=>?_) (fun vs h=>?_) (fun vs h=>?_) (by decide+kernel) (fun h₀ os L=>?_)
 ·refine x2a3 h.two fun _ _ za h1 h2=>?_;obtain rfl:=za
  obtain rfl:=h1
  obtain rfl:=h2
  exact a1V rfl
 ·refine x2a3 h.two fun _ _ za h1 h2=>?_;obtain rfl:=za
  exact .cons h2 (.cons h1 .nil)
 ·exact locs rfl
 intro C G ⟨ha,hb⟩
 walk_at "x1"
 refine Xs.cons (X1.a2 (fun n σ ld=>∃i:Nat,i<=lcp xa xb∧n=xa.length-i∧σ=[(Str.ofString "count",.int i),(Str.ofString "high",SR b),(Str.ofString "low",SR a)]∧ld=[])
  (fun σ ld=>σ=[(Str.ofString "count",.int (lcp xa xb:Nat))]∧ld=[]) xa.length ⟨_,_,⟨0,a0R _,rfl,rfl,rfl⟩,⟨rfl,rfl,rfl,trivial⟩,.refl _⟩ ?_ ?_)
 ·rintro n σ ld zu;refine x1a4 zu fun i hi za zb zc=>?_;clear zu;refine eq2 za zb ?_;clear za zb;obtain rfl:=zc
  have hl:=k3x xa xb
  refine⟨_,Tst.and (p:=decide ((i:Int)<if(xb.length:Int)<xa.length then(xb.length:Int)else xa.length)) (q:=xa.getD i Str.empty==xb.getD i Str.empty) (Tst.lt (Ev.name rfl) (Ev.min2 G (Ev.to (sa:=.int (xa.length:Int)) (Ev.lenL (xs:=xa.map .str) G (Ev.name rfl) ha.has (by simp;exact om148 la)) (by rw[a0J])) (Ev.to (sa:=.int (xb.length:Int)) (Ev.lenL (xs:=xb.map .str) G (Ev.name rfl) hb.has (by simp;exact om148 lb)) (by rw[a0J])))) (fun q=>?_),fun q=>?_,fun q=>?_⟩
  ·rw[a1B]at q
   have h1:i<xa.length:=by split at q<;>(first|exact om128 (by assumption) q|exact om36 q)
   have h2:i<xb.length:=by split at q<;>(first|exact om36 q|exact om135 q (by assumption))
   rw[a0E,a0E,a0D h1,a0D h2]
   exact Tst.eqS (Ev.a7 (xs:=xa.map .str) (Ev.name rfl) ha.has (Ev.name rfl) om7 (by rw[a1W,a0T,a0D h1];rfl) (om73 h2 lb)) (Ev.a7 (xs:=xb.map .str) (Ev.name rfl) hb.has (Ev.name rfl) om7 (by rw[a1W,a0T,a0D h2];rfl) (om73 h2 lb))
  ·rw[a2Y,a1B,a1T]at q
   have h1:i<xa.length:=by have:=q.1;split at this<;>(first|exact om128 (by assumption) this|exact om36 this)
   have h2:i<xb.length:=by have:=q.1;split at this<;>(first|exact om36 this|exact om135 this (by assumption))
   have hs:=k6q xa xb i hi h1 h2 q.2
   walk_at "x1"
   refine Xs.nil ?_
   exact⟨_,_,⟨xa.length-(i+1),by exact om23 h1,i+1,hs,rfl,rfl,rfl⟩,⟨rfl,rfl,rfl,trivial⟩,.refl _⟩
  ·have hs:=k6r xa xb i hi (fun h1 h2=>by
    rw[a3L,a3B,a2Q]at q
    rcases q with q|q
    ·exfalso;apply q;split<;>(first|exact om284 h2|exact om284 h1)
    ·exact q)
   exact⟨_,_,⟨rfl,rfl⟩,⟨hs▸rfl,trivial⟩,.refl _⟩
 ·rintro σ ld ⟨rfl,rfl⟩
  show Xs _ _ _ [_] _
  refine Xs.cons (X1.ret (Ew.pure (Ev.name rfl) ?_))
  exact⟨[],⟨rfl,rfl⟩,a0X _⟩
section
variable {C:Cx}{σ:Loc}{ld ld':Led}{s s':Shared}{x y:PySem.Str}{a b e:Expr}{pos px np ap tp sp cp p1 p2 p3:Pos}{sv sa sc:SV}{xs as:List SV}{P:Fl ->Loc ->Led ->Prop}{R:SV ->Led ->Prop}{p q:Bool}{i j:Int}
theorem Ev.eqS (ha:Ev C σ ld a (.str x))(hb:Ev C σ ld b (.str y))(hm:autoParam (behindInMarks .Eq b=false) aU):Ev C σ ld (.Compare a [.Eq] [b] pos) (SB (x==y)):=.mk fun s Q E H k=>by
 refine wpAny_Compare1 (ha.run s _ _ H fun v s' g hv=>?_) hm
 obtain⟨t,rfl⟩:=hv
 refine hb.run _ _ _ (H.go g) fun v s'' g' hv=>?_
 obtain⟨u,rfl⟩:=hv
 walk1
 exact k _ _ (g.trans g') rfl
theorem Ev.indexS (ha:Ev C σ ld a (.str x))(hb:Ev C σ ld b (.str y))(hin:(Builtin.Str.occurrences x y 0 x.length 1).isEmpty=false){pl:Sem Bool}
  (he:autoParam (eval (.Call (.Attribute a (Str.ofString "index") ap) [b] [] pos) C.env=(do
   let ov <-eval a C.env
   standAt ap.atName
   let(f,first) <-holding [ov] (getMethod ov (Str.ofString "index") pl)
   callWith pos f first (backTo pos (starEach [b] C.env)) [])) aR)
  (hs:autoParam (starEach [b] C.env=(false,eval b C.env)::starEach [] C.env) aR):Ev C σ ld (.Call (.Attribute a (Str.ofString "index") ap) [b] [] pos) (.int (Txt.find x y)):=
 Ev.sm1 ha hb F.slot_str_index F.type_str_index (fun t u s Q E k=>by
  cases q:Builtin.Str.occurrences x y 0 x.length 1 with
  |nil=>rw[q]at hin;cases hin
  |cons i r=>exact SC.index q (k _ _ .tk ⟨_,by unfold Txt.find;rw[q]⟩)) he hs
end
theorem m1v {w:World}{x:Str}(hx:x.length<=1000):Cn w 0 218 [.str x] (fun _=>True) (fun sv new=>(sv=match numF x.cps.toList with|none=>SN|some i=>.int i)∧new=[]):=by
 refine k0g (x:=Str.ofString "text") (by k_is) (by k_is) (fun _ _=>a1V rfl) rfl (by decide+kernel) (fun h₀ os L=>?_)
 intro C G _
 have hw:=om1 hx
 have hlen:x.length=x.cps.toList.length:=by simp[Str.length]
 generalize hl0:x.cps.toList=l at*;revert l;refine id ?_;intros
 have getl:∀i c,l[i]?=some c ->x.cps[i]?=some c:=fun i c e=>by rw[<-hl0,a5X]at e;exact e
 have hle:=m0l l
 have htr:=k6l l
 walk_at "xs"
 refine Xs.cons (X1.a2 (fun n σ ld=>∃i:Nat,σ=[(Str.ofString "first",.int i),(Str.ofString "last",.int x.length),(Str.ofString "text",.str x)]∧ld=[]∧i<=lead32 l∧n=l.length-i)
  (fun σ ld=>σ=[(Str.ofString "first",.int (lead32 l)),(Str.ofString "last",.int x.length),(Str.ofString "text",.str x)]∧ld=[]) l.length ⟨_,_,⟨0,rfl,rfl,a0R _,rfl⟩,⟨rfl,rfl,rfl,trivial⟩,.slnil⟩ ?_ ?_)
 ·rintro n σ ld zu;refine x1a4 zu fun i za zb hi hn=>?_;clear zu;refine eq2 za zb ?_;clear za zb
  refine⟨_,Tst.and (by walk_at "ts") (fun q=>by rw[a1B]at q;walk_at "ts"),fun q=>?_,fun q=>?_⟩
  ·rw[a2Y,a1B]at q
   have hil:i<l.length:=Nat.lt_of_lt_of_eq (Int.ofNat_lt.mp q.1) hlen
   rw[k0p (getl i _ (a0D hil)),k3b]at q
   have hs:=m2a hi (by rw[a0D hil];simpa using q.2)
   walk_at "xs"
   exact⟨_,_,⟨n-1,by exact om43 hil hn,i+1,rfl,rfl,hs,by exact om13 hn⟩,⟨rfl,rfl,rfl,trivial⟩,.slnil⟩
  ·have hs:=m2b hi (fun q2=>by
    have hil:i<l.length:=(a1A.mp q2).1
    rw[k0p (getl i _ q2),k3b]at q
    simp at q;exact(om179 hil hlen q).elim)
   exact⟨_,_,⟨rfl,rfl⟩,⟨hs▸rfl,rfl,rfl,trivial⟩,.slnil⟩
 rintro σ ld ⟨rfl,rfl⟩
 show Xs _ _ _ _ _
 refine Xs.cons (X1.a2 (fun n σ ld=>∃i:Nat,σ=[(Str.ofString "last",.int i),(Str.ofString "first",.int (lead32 l)),(Str.ofString "text",.str x)]∧ld=[]∧l.length-trail32 l<=i∧i<=l.length∧n=i)
  (fun σ ld=>σ=[(Str.ofString "last",.int (l.length-trail32 l:Nat)),(Str.ofString "first",.int (lead32 l)),(Str.ofString "text",.str x)]∧ld=[]) l.length ⟨_,_,⟨l.length,rfl,rfl,Nat.sub_le _ _,a0W _,rfl⟩,⟨hlen▸rfl,rfl,rfl,trivial⟩,.slnil⟩ ?_ ?_)
 ·rintro n σ ld zu;refine x1a5 zu fun i za zb hi hi2 hn=>?_;clear zu;refine eq2 za zb ?_;clear za zb
  have hc:0<i ->((i:Int)-1)=((i-1:Nat):Int):=fun _=>om53 (by assumption)
  refine⟨_,Tst.and (by walk_at "ts") (fun q=>by rw[a1B]at q;walk_at "ts"),fun q=>?_,fun q=>?_⟩
  ·rw[a2Y,a1B]at q
   have h0l:=Int.ofNat_lt.mp q.1
   have h0i:=Nat.zero_lt_of_lt h0l
   have hil:i-1<l.length:=a1C (Nat.sub_one_lt (a3E h0i)) hi2
   rw[hc h0i,k0p (getl (i-1) _ (a0D hil)),k3b]at q
   have hs:=k8x h0l hi2 hi (by rw[a0D hil];simpa using q.2)
   walk_at "xs"
   exact⟨_,_,⟨n-1,hn▸Nat.sub_one_lt (a3E h0i),i-1,rfl,rfl,hs,a4C hil,hn▸rfl⟩,⟨(hc h0i)▸rfl,rfl,rfl,trivial⟩,.slnil⟩
  ·have hs:=k8y (om20 hi2) hi (fun h0 q2=>by
    have hil:i-1<l.length:=(a1A.mp q2).1
    rw[hc (om11 h0),k0p (getl (i-1) _ q2),k3b]at q
    simp at q;exact(om144 h0 q).elim)
   exact⟨_,_,⟨rfl,rfl⟩,⟨hs▸rfl,rfl,rfl,trivial⟩,.slnil⟩
 rintro σ ld ⟨rfl,rfl⟩
 show Xs _ _ _ _ _
 refine Xs.a0 2 (fun σ ld=>σ=[(Str.ofString "last",.int (l.length-trail32 l:Nat)),(Str.ofString "first",.int (signOf l).1),(Str.ofString "below",SB (signOf l).2),(Str.ofString "text",.str x)]∧ld=[]) ?_ ?_
 ·show Xs _ _ _ (_::_) _
  walk_at "x1"
  show Xs _ _ _ [_] _
  refine Xs.cons (X1.a1 (Tst.and (Tst.lt (Ev.name rfl) (Ev.name rfl)) (fun q=>Tst.inS (Ev.a3 (Ev.name rfl) (Ev.name rfl) om25 (by rw[a1B]at q;exact om227 q hlen) (om1 hx)) Ev.a0)) (fun q=>?_) (fun q=>?_))
  ·rw[a2Y,a1B]at q
   obtain⟨q1,q⟩:=q
   have hil:lead32 l<l.length:=om235 q1
   rw[k0p (getl _ _ (a0D hil)),pm_in,a4P,a1B]at q
   have e:signOf l=(lead32 l+1,decide (l[lead32 l]=45)):=by
    unfold signOf
    rw[if_pos ⟨by exact om536 q1,by rw[a0D hil];simpa using q⟩,a0D hil]
    congr 1
   refine Xs.cons (X1.a0 (Ew.pure (Ev.eqS (Ev.a3 (Ev.name rfl) (Ev.name rfl) om25 (om471 hil hlen) (om1 hx)) Ev.a0) ?_))
   show Xs _ _ _ [_] _
   walk_at "x1"
   iterate 2 refine Xs.nil ?_
   refine⟨_,_,⟨rfl,rfl⟩,⟨rfl,by rw[e];rfl,?_,rfl,trivial⟩,.refl _⟩
   rw[e,k0p (getl _ _ (a0D hil)),k7p]
   rfl
  ·have e:signOf l=(lead32 l,false):=by
    unfold signOf
    rw[if_neg]
    rintro⟨h1,h2⟩
    have hil:lead32 l<l.length:=om230 h1
    rw[k0p (getl _ _ (a0D hil)),pm_in,a4P,a3L,a3B,a3B]at q
    rw[a0D hil]at h2
    rcases q with q|q
    ·exact q (Int.ofNat_lt.mpr h1)
    ·exact q (by simpa using h2)
   iterate 2 refine Xs.nil ?_
   exact⟨_,_,⟨rfl,rfl⟩,⟨rfl,by rw[e];rfl,by rw[e];rfl,rfl,trivial⟩,.refl _⟩
 rintro σ ld ⟨rfl,rfl⟩
 show Xs _ _ _ (_::_) _
 have eN:numF l=if(signOf l).1=l.length-trail32 l then none else(digsTo ((l.take (l.length-trail32 l)).drop (signOf l).1)).map fun v=>if(signOf l).2 then -(v:Int)else(v:Int):=rfl
 refine Xs.cons (X1.a1 (Tst.eqI (Ev.name rfl) (Ev.name rfl)) (fun q=>?_) (fun q=>?_))
 ·rw[a1B]at q
  refine Xs.cons (X1.ret (Ew.pure Ev.cnone ?_))
  exact⟨[],⟨by rw[eN,if_pos (Int.ofNat_inj.mp q)],rfl⟩,a0X _⟩
 rw[a3B]at q
 rw[if_neg (Ne.intro fun a_1=>q (a3C Nat.cast a_1))]at eN
 refine Xs.nil ?_
 show Xs _ _ _ (_::_) _
 walk_at "x1"
 have esl:Txt.slice x (some ((signOf l).1:Int)) (some ((l.length-trail32 l:Nat):Int))=S ((l.take (l.length-trail32 l)).drop (signOf l).1):=by
  rw[<-k2m,<-hl0,k2k]
 generalize(l.take (l.length-trail32 l)).drop (signOf l).1=r at*;revert r;refine id ?_;intros
 refine Xs.cons (X1.forS (y:=S r) (Ev.to (Ev.a4 (Ev.name rfl) (Ev.name rfl) (Ev.name rfl) (om1 hx)) (by rw[esl])) G.h (fun i σ ld=>∃v:Nat,digsTo (r.take i)=some v∧σ=[(Str.ofString "value",.int v),(Str.ofString "below",SB (signOf l).2)]∧ld=[]) (fun _ _=>False) ⟨_,_,⟨0,rfl,rfl,rfl⟩,⟨rfl,rfl,trivial⟩,.refl _⟩ ?_ ?_ (fun _ _ h=>h.elim))
 ·rintro i c σ ld I hc zu;refine x1a3 zu fun v hd za zb=>?_;clear zu;refine eq2 za zb ?_;clear za zb
  have hc':r[i]?=some c:=by simpa using hc
  have e2:=m2l hc'
  refine Xs.cons (X1.a1 (Tst.notinS (Ev.name rfl) Ev.a0) (fun q2=>?_) (fun q2=>?_))
  ·rw[dg_in]at q2
   have hd0:digit? c=none:=by unfold digit?;rw[if_neg];simp at q2;exact om379 q2
   refine Xs.cons (X1.ret (Ew.pure Ev.cnone ?_))
   exact⟨[],⟨by rw[eN,m9q hc' hd0];rfl,rfl⟩,a0X _⟩
  ·have hin:=q2
   rw[dg_in]at q2
   have hcc:48<=c∧c<=57:=by simpa using q2
   have hd0:digit? c=some (c-48):=by unfold digit?;rw[if_pos hcc]
   have ev:10*(v:Int)+Txt.find (Str.ofString "0123456789") ⟨#[c]⟩=((10*v+(c-48):Nat):Int):=by rw[p5r c hcc];exact om353
   refine Xs.nil ?_
   show Xs _ _ _ [_] _
   refine Xs.cons (X1.a0 (Ew.pure (Ev.to (sa:=.int ((10*v+(c-48):Nat):Int)) (Ev.a6 (Ev.a6 Ev.a1 (Ev.name rfl) (Opr.mulI (IntMulOk.of_left (by decide+kernel)))) (Ev.indexS (x:=Str.ofString "0123456789") (y:=⟨#[c]⟩) Ev.a0 (Ev.name rfl) hin) Opr.addI) (by rw[ev])) ?_))
   refine Xs.nil ?_
   exact⟨_,_,⟨10*v+(c-48),by rw[e2,hd,hd0];rfl,rfl,rfl⟩,⟨rfl,rfl,trivial⟩,.refl _⟩
 ·rintro σ ld zu;refine x1a3 zu fun v hd za zb=>?_;clear zu;refine eq2 za zb ?_;clear za zb
  have hd':digsTo r=some v:=by simpa using hd
  rw[hd']at eN
  show Xs _ _ _ [_] _
  refine Xs.cons (X1.ret (Ew.a0 (Tst.ofB (Ev.name rfl)) (fun q2=>Ew.pure (Ev.neg (Ev.name rfl)) ?_) (fun q2=>Ew.pure (Ev.name rfl) ?_)))
  ·exact⟨[],⟨by rw[eN,q2];rfl,rfl⟩,a0X _⟩
  ·exact⟨[],⟨by rw[eN,q2];rfl,rfl⟩,a0X _⟩
section
variable {C:Cx}{σ:Loc}{ld ld':Led}{s s':Shared}{D:Addr}{x y:PySem.Str}{a b c e:Expr}{pos px np ap tp sp cp p1 p2 p3:Pos}{sv sa sc:SV}{xs as:List SV}{P:Fl ->Loc ->Led ->Prop}{R:SV ->Led ->Prop}{p q r:Bool}{i j:Int}
theorem Tst.and3 (ha:Tst C σ ld a p)(hb:p=true ->Tst C σ ld b q)(hc:p=true ->q=true ->Tst C σ ld c r):Tst C σ ld (.BoolOp .And [a,b,c] pos) (p&& (q&&r)):=.mk fun s Q E H k=>by
 refine isTrue_and (ha.run s _ _ H fun v s' g hv=>?_)
 subst hv
 cases v with
 |false=>exact k _ _ g rfl
 |true=>
  refine isTrue_and ((hb rfl).run s' _ _ (H.go g) fun v s'' g' hv=>?_)
  subst hv
  cases v with
  |false=>exact k _ _ (g.trans g') rfl
  |true=>
   refine isTrue_and ((hc rfl rfl).run s'' _ _ ((H.go g).go g') fun v s3 g3 hv=>?_)
   subst hv
   cases v with
   |false=>exact k _ _ ((g.trans g').trans g3) rfl
   |true=>exact isTrue_and_nil (k _ _ ((g.trans g').trans g3) rfl)
theorem Tst.isntN (ha:Ev C σ ld a SN){k0:Nat}(hm:autoParam (behindInMarks .IsNot (.Constant .none k0 p1)=false) aU):Tst C σ ld (.Compare a [.IsNot] [.Constant .none k0 p1] pos) false:=.mk fun s Q E H k=>by
 refine a1F (ha.run s _ _ H fun v s' g hv=>?_) hm
 obtain rfl:=hv
 walk1
 walk1
 walk1
 exact k _ _ g rfl
theorem Tst.isntI (ha:Ev C σ ld a (.int i)){k0:Nat}(hm:autoParam (behindInMarks .IsNot (.Constant .none k0 p1)=false) aU):Tst C σ ld (.Compare a [.IsNot] [.Constant .none k0 p1] pos) true:=.mk fun s Q E H k=>by
 refine a1F (ha.run s _ _ H fun v s' g hv=>?_) hm
 obtain⟨t,rfl⟩:=hv
 walk1
 walk1
 walk1
 exact k _ _ g rfl
noncomputable def SV.isN:SV ->Bool
 | .val .none=>true
 |_=>false
theorem Tst.notinN {k0:Nat}(hb:Ev C σ ld b (SR D))(hD:Has C σ ld D (.list xs))(hx:∀u∈xs,u=SN∨∃n,u=.int n)(hm:autoParam (behindInMarks .NotIn b=false) aU):Tst C σ ld (.Compare (.Constant .none k0 p1) [.NotIn] [b] pos) (!xs.any SV.isN):=.mk fun s Q E H k=>by
 refine a1F ?_ hm
 walk1
 refine hb.run s _ _ H fun v s' g hv=>?_
 obtain rfl:=hv
 refine x1a2 (hD.isList (H.go g)) fun vs hI hA=>?_
 have key:∀ {xs:List SV} {vs:List Value},Are xs vs ->(∀u∈xs,u=SN∨∃n,u=SV.int n) ->(∀v∈vs,v=.none∨∃n u,v=.int n u)∧vs.any (fun v=>v==.none)=xs.any SV.isN:=by
  intro xs vs h
  induction h with
  |nil=>exact fun _=>⟨(fun _ h=>nomatch h),rfl⟩
  | @cons a v as vs h t ih=>
   intro hx
   obtain⟨i1,i2⟩:=ih fun u hu=>hx u (.tail _ hu)
   rcases hx a (.head _)with rfl| ⟨n,rfl⟩
   ·obtain rfl:=h
    exact⟨fun v hv=>(a0G.mp hv).elim (fun e=>.inl e) (i1 v),by simp[SV.isN]⟩
   ·obtain⟨u,rfl⟩:=h
    exact⟨fun v hv=>(a0G.mp hv).elim (fun e=>.inr ⟨n,u,e⟩) (i1 v),by rw[a5F,a5F,i2];rfl⟩
 obtain⟨k1,k2⟩:=key hA hx
 refine m6j hI k1 fun c hc=>?_
 walk1
 exact k _ _ g (by rw[hc,k2])
theorem Gd.blk {scope:Scope}{cl:List (Str×Addr)}{B:Addr}(G:Gd C)(h:scope.kind=.function):Gd (Mine.blk C scope cl B s):=⟨G.X,G.T,G.g,G.b,h,G.h⟩
end
set_option tactic.hygienic true in
theorem m9e {w:World}{x y z:Str}(hx:x.length<=100)(hy:y.length<=100):Cn w 1 225 [.str x,.str y,.str z] (fun _=>True) (fun sv new=>∃D,sv=SR D∧new=[(D,.tup [.str (k1k x y),.str (k1n x y),.str z])]):=by
 refine k3r (σ:=[(Str.ofString "numbers",.str z),(Str.ofString "issue",.str y),(Str.ofString "kind",.str x)]) (binds:=fun vs=>[(Str.ofString "kind",vs.headD .none),(Str.ofString "issue",vs.getD 1 .none),(Str.ofString "numbers",vs.getD 2 .none)]) (by k_is) (by k_is) (fun vs s _ h=>?_) (fun vs h=>?_) (fun vs h=>?_) (by decide+kernel) (fun h₀ os L=>?_)
 ·refine x3a4 h.three fun _ _ _ za zb zc zx=>ex1 zx fun u2 zd=>?_;clear zx;obtain rfl:=za;obtain⟨t,rfl⟩:=zb;obtain⟨u,rfl⟩:=zc;obtain rfl:=zd
  exact a1V rfl
 ·refine x3a4 h.three fun _ _ _ za zb zc zx=>ex1 zx fun u2 zd=>?_;clear zx;obtain rfl:=za;obtain⟨t,rfl⟩:=zb;obtain⟨u,rfl⟩:=zc;obtain rfl:=zd
  exact .cons ⟨_,rfl⟩ (.cons ⟨_,rfl⟩ (.cons ⟨_,rfl⟩ .nil))
 ·exact locs rfl
 intro C G _
 have hcl:=m0v y
 have hal:=k3i y
 have hcq:=m0u y
 refine Xs.cons (X1.a1 (b:=k1x x y) (Tst.to (Tst.and3 (r:=decide ((53:Int)<=((Txt.item y 0).cps.getD 0 0:Nat))) (Tst.eqS (Ev.name rfl) Ev.a0) (fun _=>Tst.neS (Ev.name rfl) Ev.a0) (fun _ q=>?_)) ?_) (fun q=>?_) (fun q=>?_))
 ·have h0:0<y.length:=by
   rcases Nat.eq_zero_or_pos y.length with h|h
   ·have:=len0 (c:=y) (om234 h)
    rw[this]at q;exact absurd q (by decide+kernel)
   ·exact h
  have hi:y.cps[0]?=some y.cps[0]:=a2Z h0
  exact Tst.le (Ev.ord G (Ev.a3 (Ev.name rfl) Ev.a1 om505 (Int.natCast_pos.mpr h0) (om271 hy)) (by rw[show(0:Int)=((0:Nat):Int)from rfl,k0p hi];rfl)) Ev.a1
 ·unfold k1x
  rw[<-Bool.and_assoc]
  congr 1
  rw[decide_eq_decide]
  exact om443
 ·refine Xs.cons (X1.a0 (Ew.a1 G (p3n (x:=y) (om98 hy)) (EwL.pure (.cons (Ev.name rfl) .nil) ⟨rfl,fun _ _=>trivial,fun sv new h=>?_⟩) (by walk_at "okA") (by k_is) (by k_is) rfl))
  refine x1a2 h fun D za zb=>?_;clear h;refine eq2 za zb ?_;clear za zb
  show Xs _ _ _ (_::_) _
  have h0:(cutF y)[0]?=some ((cutF y).getD 0 Str.empty):=by rw[a0E,a0D hcq];rfl
  have hz:((cutF y).getD 0 Str.empty).length<=1000:=a0H (m0o hal 0) (om98 hy)
  refine Xs.cons (X1.a0 (Ew.pure (Ev.b0 G (m1v hz) (.cons (Ev.a7 (xs:=(cutF y).map .str) (Ev.name rfl) (Has.mem (.head _)) Ev.a1 (by decide) (by rw[show(0:Int).toNat=0 from rfl,a0T,h0];rfl) (by decide)) .nil) (fun _ _=>trivial) (by walk_at "okA") (by k_is) (by k_is) rfl) ?_))
  show Xs _ _ _ (_::_) _
  have eK:k1k x y=Str.ofString "Solaris":=if_pos q
  have eI:k1n x y=Txt.join (Str.ofString ".") (k1j y):=if_pos q
  rw[eK,eI]
  have hb:AllLen 1000 (k1j y)∧(k1j y).length<=1000:=by
   unfold k1j
   split
   ·exact⟨k0f hal (om98 hy),by exact om403 hcl hy⟩
   ·rename_i v hv
    refine⟨k0k (m0n (m0f hv (a0H (m0o hal 0) (p4p hy)) (by decide))) (k0f (k8f hal) (om98 hy)),?_⟩
    rw[a0Q,a5I];exact om205 hcl hy
  refine Xs.a0 1 (fun σ ld=>∃D,σ=[(Str.ofString "parts",SR D),(Str.ofString "numbers",.str z)]∧ld=[(D,.list ((k1j y).map .str))]) ?_ ?_
  ·cases hv:numF ((cutF y).getD 0 Str.empty).cps.toList with
   |none=>
    have eP:k1j y=cutF y:=by unfold k1j;rw[hv]
    rw[eP]
    refine Xs.cons (X1.a1 (Tst.isntN (Ev.name rfl)) (fun h=>nomatch h) (fun _=>?_))
    iterate 2 refine Xs.nil ?_
    exact⟨_,_,⟨D,rfl,rfl⟩,⟨rfl,rfl,trivial⟩,.refl _⟩
   |some v=>
    have eP:k1j y=istr (v-3)::(cutF y).drop 1:=by unfold k1j;rw[hv]
    rw[eP]
    refine Xs.cons (X1.a1 (Tst.isntI (i:=v) (Ev.name rfl)) (fun _=>?_) (fun h=>nomatch h))
    refine Xs.cons (X1.a0 (Ew.a4 (xs:=[.str (istr (v-3))]) (Ew.list (EwL.pure (.cons (Ev.to (sa:=.str (istr (v-3))) (Ev.strI G (Ev.a6 (Ev.name rfl) Ev.a1 Opr.subI) (m0f hv (a0H (m0o hal 0) (p4p hy)) (by decide))) (by rw[k5r])) .nil) ⟨kb rfl,fun D2=>⟨D2,rfl,Has.mem (.head _),Ew.a2 (xs:=(cutF y).map .str) (Ev.name rfl) (Has.mem (.tail _ (.head _))) Ev.a1 (by decide) (by simp;exact om398 hcl hy) fun D3=>⟨D3,rfl,Has.mem (.tail _ (.head _)),_,Has.mem (.head _),by simp;exact om203 hcl hy,fun D4=>?_⟩⟩⟩))))
    iterate 2 refine Xs.nil ?_
    refine⟨_,_,⟨D4,rfl,rfl⟩,⟨rfl,rfl,trivial⟩,?_⟩
    rw[a0P,a6D]
    exact .cons_cons _ (a0X _)
  rintro σ ld zu;refine x1a2 zu fun D2 za zb=>?_;clear zu;refine eq2 za zb ?_;clear za zb
  show Xs _ _ _ [_] _
  refine Xs.cons (X1.ret (Ew.tuple (EwL.pure (.cons Ev.a0 (.cons (Ev.a9 (ts:=k1j y) Ev.a0 (Ev.name rfl) (Has.mem (.head _)) hb.1 hb.2 (by decide+kernel)) (.cons (Ev.name rfl) .nil))) ⟨kb rfl,fun D3=>?_⟩)))
  exact⟨_,⟨D3,rfl,rfl⟩,.cons_cons _ (a0X _)⟩
 ·refine Xs.nil ?_
  have eI:k1n x y=y:=if_neg (by rw[q];decide)
  have eK:k1k x y=if Txt.slice x none (some 3)=Str.ofString "win" then Str.ofString "Windows" else x:=if_neg (by rw[q];decide)
  rw[eI,eK]
  show Xs _ _ _ (_::_) _
  refine Xs.cons (X1.a1 (Tst.eqS (Ev.a5 (Ev.name rfl) Ev.a1 (om271 hx)) Ev.a0) (fun q=>?_) (fun q=>?_))
  ·rw[if_pos (a1T.mp q)]
   refine Xs.cons (X1.ret (Ew.tuple (EwL.pure (.cons Ev.a0 (.cons (Ev.name rfl) (.cons (Ev.name rfl) .nil))) ⟨kb rfl,fun D=>?_⟩)))
   exact⟨_,⟨D,rfl,rfl⟩,.refl _⟩
  ·rw[if_neg (a2Q.mp q)]
   refine Xs.nil ?_
   show Xs _ _ _ [_] _
   refine Xs.cons (X1.ret (Ew.tuple (EwL.pure (.cons (Ev.name rfl) (.cons (Ev.name rfl) (.cons (Ev.name rfl) .nil))) ⟨kb rfl,fun D=>?_⟩)))
   exact⟨_,⟨D,rfl,rfl⟩,.refl _⟩
noncomputable def k8k (l:List Nat):SV:=match numF l with
 |none=>SN
 |some i=>.int i
theorem m8o:∀(xs:List Str),(∀u∈xs.map fun p=>k8k p.cps.toList,u=SN∨∃n,u=SV.int n)∧(xs.map fun p=>k8k p.cps.toList).any SV.isN= !allNum xs∧(allNum xs=true ->(xs.map fun p=>k8k p.cps.toList)=(numsOf xs).map .int)
 | []=>⟨(fun _ h=>nomatch h),rfl,fun _=>rfl⟩
 |p::xs=>by
  refine an3 (m8o xs) fun h1 h2 h3=>?_
  rw[a0P,a5F,h2]
  unfold allNum numsOf at*
  rw[List.all_cons,a0P,a0P]
  cases hp:numF p.cps.toList with
  |none=>
   have e:k8k p.cps.toList=SN:=by unfold k8k;rw[hp]
   rw[e]
   exact⟨fun u hu=>(a0G.mp hu).elim .inl (h1 u),rfl,fun h=>nomatch h⟩
  |some n=>
   have e:k8k p.cps.toList=.int n:=by unfold k8k;rw[hp]
   rw[e]
   refine⟨fun u hu=>(a0G.mp hu).elim (fun h=>.inr ⟨n,h⟩) (h1 u),rfl,fun h=>?_⟩
   rw[h3 (by simpa using h)]
   rfl
set_option tactic.hygienic true in
theorem m1x {w:World}{x y:Str}(hx:x.length<=200)(hy:y.length<=100):Cn w 1 230 [.str x,.str y] (fun _=>True) (fun sv new=>sv=.str (k0o x y)∧new=[]):=by
 refine k3r (σ:=[(Str.ofString "build",.str y),(Str.ofString "numbers",.str x)]) (binds:=fun vs=>[(Str.ofString "numbers",vs.headD .none),(Str.ofString "build",vs.getD 1 .none)]) (by k_is) (by k_is) (fun vs s _ h=>?_) (fun vs h=>?_) (fun vs h=>?_) (by decide+kernel) (fun h₀ os L=>?_)
 ·refine x2a3 h.two fun _ _ za zb zx=>ex1 zx fun u zc=>?_;clear zx;obtain rfl:=za;obtain⟨t,rfl⟩:=zb;obtain rfl:=zc
  exact a1V rfl
 ·refine x2a3 h.two fun _ _ za zb zx=>ex1 zx fun u zc=>?_;clear zx;obtain rfl:=za;obtain⟨t,rfl⟩:=zb;obtain rfl:=zc
  exact .cons ⟨_,rfl⟩ (.cons ⟨_,rfl⟩ .nil)
 ·exact locs rfl
 intro C G _
 have hcl:=m0v x
 have hal:=k3i x
 have hP:AllLen 200 (normP x y)∧(normP x y).length<=210:=by
  unfold normP
  split
  ·exact⟨k0f hal hx,by exact om419 hcl hx⟩
  ·exact⟨k3s (k0f hal hx) (k0k (p4p hy) k1b),by simp;exact om420 hcl hx⟩
 refine Xs.cons (X1.a0 (Ew.a1 G (p3n (x:=x) (om557 hx)) (EwL.pure (.cons (Ev.name rfl) .nil) ⟨rfl,fun _ _=>trivial,fun sv new h=>?_⟩) (by walk_at "okA") (by k_is) (by k_is) rfl))
 refine x1a2 h fun D za zb=>?_;clear h;refine eq2 za zb ?_;clear za zb
 show Xs _ _ _ (_::_) _
 refine Xs.a0 1 (fun σ ld=>σ=[(Str.ofString "parts",SR D)]∧ld=[(D,.list ((normP x y).map .str))]) ?_ ?_
 ·refine Xs.cons (X1.a1 (Tst.neS (Ev.name rfl) Ev.a0) (fun q=>?_) (fun q=>?_))
  ·rw[show normP x y=cutF x++[y]from if_neg (a3U.mp q),a0U]
   refine Xs.cons (X1.append (xs:=(cutF x).map .str) (Ev.name rfl) (Ev.name rfl) .head (by simp;exact om411 hcl hx) ?_)
   iterate 2 refine Xs.nil ?_
   exact⟨_,_,⟨rfl,rfl⟩,⟨rfl,trivial⟩,.refl _⟩
  ·rw[show normP x y=cutF x from if_pos (ne_f q)]
   iterate 2 refine Xs.nil ?_
   exact⟨_,_,⟨rfl,rfl⟩,⟨rfl,trivial⟩,.refl _⟩
 rintro σ ld ⟨rfl,rfl⟩
 obtain⟨hA,hL⟩:=hP
 have eF:k0o x y=Txt.join (Str.ofString ".") ((if allNum (normP x y)then(numsOf (normP x y)).map istr else normP x y).take 3):=rfl
 have hlog:=fun n hall hn=> @p1v (normP x y) n hall hA hn
 rw[eF]
 generalize normP x y=ps at*
 clear eF hal hcl
 refine an3 (m8o ps) fun n1 n2 n3=>?_
 show Xs _ _ _ (_::_) _
 refine Xs.cons (X1.asgC (cl:=[]) (σc:=[]) (xs:=ps.map .str) (p:=fun _=>true) (f:=fun a=>match a with| .str p=>k8k p.cps.toList|_=>SN) (Src.list G.h (Ev.name rfl) (Has.mem (.head _))) ⟨⟨rfl,(fun _ h=>nomatch h),a1U,(fun _ h=>nomatch h)⟩,fun B=>rfl,?plain,(by simp;exact om305 hL),(fun a _ B s=>.nil),?elt⟩ fun D2=>?_)
 case plain=>intro a ha;refine x1a2 (a0K.mp ha) fun p _ za=>?_;obtain rfl:=za;rfl
 case elt=>
  intro a ha _ B s
  refine x1a2 (a0K.mp ha) fun p hp za=>?_;obtain rfl:=za
  exact Ev.b0 (G.blk rfl) (m1v (x:=p) (a0H (hA p hp) (by decide))) (.cons (Ev.name rfl) .nil) (fun _ _=>trivial) (by walk_at "okA") (by k_is) (by k_is) rfl
 rw[a3X.mpr (fun _ _=>rfl),a1X,show((fun a=>match a with| .str p=>k8k p.cps.toList|_=>SN)∘SV.str)=fun p:Str=>k8k p.cps.toList from rfl]
 show Xs _ _ _ (_::_) _
 refine Xs.a0 1 (fun σ ld=>∃D3,σ=[(Str.ofString "parts",SR D3)]∧ld=[(D3,.list ((if allNum ps then(numsOf ps).map istr else ps).map .str))]) ?_ ?_
 ·refine Xs.cons (X1.a1 (Tst.to (q:=allNum ps) (Tst.notinN (Ev.name rfl) (Has.mem (.head _)) n1) (by rw[n2,a4P])) (fun q=>?_) (fun q=>?_))
  ·rw[n3 q,if_pos q]
   refine Xs.cons (X1.asgC (cl:=[]) (σc:=[]) (xs:=(numsOf ps).map .int) (p:=fun _=>true) (f:=fun a=>match a with| .int i=>.str (istr i)|_=>SN) (Src.list G.h (Ev.name rfl) (Has.mem (.head _))) ⟨⟨rfl,(fun _ h=>nomatch h),a1U,(fun _ h=>nomatch h)⟩,fun B=>rfl,?plain,(by rw[a0J];unfold numsOf;rw[a0J];exact om305 hL),(fun a _ B s=>.nil),?elt⟩ fun D3=>?_)
   case plain=>intro a ha;refine x1a2 (a0K.mp ha) fun p _ za=>?_;obtain rfl:=za;rfl
   case elt=>
    intro a ha _ B s
    refine x1a2 (a0K.mp ha) fun n hn za=>?_;obtain rfl:=za
    exact Ev.to (Ev.strI (G.blk rfl) (Ev.name rfl) (hlog n q hn)) (by rw[k5r])
   iterate 2 refine Xs.nil ?_
   refine⟨_,_,⟨D3,rfl,rfl⟩,⟨rfl,trivial⟩,?_⟩
   rw[a3X.mpr (fun _ _=>rfl),a1X,a1X]
   exact .cons_cons _ (a0X _)
  ·rw[if_neg (by rw[q];decide)]
   iterate 2 refine Xs.nil ?_
   exact⟨_,_,⟨D,rfl,rfl⟩,⟨rfl,trivial⟩,.cons _ (.refl _)⟩
 rintro σ ld zu;refine x1a2 zu fun D3 za zb=>?_;clear zu;refine eq2 za zb ?_;clear za zb
 have hT:AllLen 1000 (if allNum ps then(numsOf ps).map istr else ps)∧(if allNum ps then(numsOf ps).map istr else ps).length<=210:=by
  split
  ·rename_i q
   exact⟨m6p fun n hn=>hlog n q hn,by unfold numsOf;simp;exact om312 hL⟩
  ·exact⟨k0f hA (by decide),by exact om312 hL⟩
 generalize(if allNum ps then(numsOf ps).map istr else ps)=ts at*
 show Xs _ _ _ [_] _
 refine Xs.cons (X1.ret (Ew.a6 Ev.a0 (Ew.a3 (xs:=ts.map .str) (Ev.name rfl) (Has.mem (.head _)) Ev.a1 (by decide) (by simp;exact a0H hT.2 (kb rfl)) fun D4=>?_) (by decide+kernel)))
 refine⟨D4,ts.take 3,rfl,?_,m2u hT.1,by simp;exact om94,?_⟩
 ·rw[a6C];exact Has.mem (.head _)
 ·exact⟨[],⟨rfl,rfl⟩,a0X _⟩
section
variable {C:Cx}{σ:Loc}{ld ld':Led}{s s':Shared}{D:Addr}{a b c e:Expr}{pos:Pos}
theorem Tst.ofN (ha:Ev C σ ld e SN)(he:autoParam (∀whole,isTrue e C.env whole=(do let v <-whole;standAt e.pos;holding [v] (truthy v))) aI):Tst C σ ld e false:=.mk fun s Q E H k=>by
 refine isTrue_plain (ha.run s _ _ H fun v s' g hv=>?_) (he _)
 obtain rfl:=hv
 walk1
 exact k _ _ g rfl
end
theorem p2p {w:World}{x:Str}(hx:x.length<=1000):Cn w 2 244 [.str x] (fun _=>True) (fun sv new=>∃D,sv=SR D∧new=[(D,.list ((climbTo 60 x).map .str))]):=by
 refine k0g (x:=Str.ofString "path") (by k_is) (by k_is) (fun _ _=>a1V rfl) rfl (by decide+kernel) (fun h₀ os L=>?_)
 intro C G _
 refine Xs.cons (X1.a0 (Ew.list (EwL.pure .nil ⟨a0R _,fun D=>?_⟩)))
 show Xs _ _ _ (_::_) _
 refine Xs.a0 1 (fun σ ld=>∃ts:List Str,ts.reverse=climbTo 60 x∧ts.length<=60∧σ=[(Str.ofString "tails",SR D)]∧ld=[(D,.list (ts.map .str))]) ?_ ?_
 ·refine Xs.cons (X1.a3 (Fs.range1 (n:=60) G (.cons Ev.a1 .nil) (by decide)) (fun i σ ld=>∃(p:Str) (ts:List Str),p.length<=x.length∧ts.length=i∧climbTo 60 x=climbTo (60-i) p++ts.reverse∧σ=[(Str.ofString "tails",SR D),(Str.ofString "path",.str p)]∧ld=[(D,.list (ts.map .str))]) (fun σ ld=>∃ts:List Str,ts.reverse=climbTo 60 x∧ts.length<=60∧σ=[(Str.ofString "tails",SR D)]∧ld=[(D,.list (ts.map .str))])
   ⟨_,_,⟨x,[],a0W _,rfl,by simp,rfl,rfl⟩,⟨rfl,rfl,trivial⟩,.refl _⟩ (fun _ h=>nomatch h) ?_ ?_ ?_)
  ·rintro i σ ld it hi zu hit;refine x2a5 zu fun p ts hp hl hc za zb=>?_;clear zu;refine eq2 za zb ?_;clear za zb
   rw[a0E,k1h hi]
   show Xs C [(_,_),_,_] _ (_::_) _
   refine Xs.cons (X1.a1 (Tst.eqS (Ev.name rfl) Ev.a0) (fun q=>?_) (fun q=>?_))
   ·rw[a1T.mp q,k6b,a2V]at hc
    refine Xs.cons (X1.brk ?_)
    exact⟨_,_,⟨ts,hc.symm,by exact om444 hi hl,rfl,rfl⟩,⟨rfl,trivial⟩,List.sublist_append_left _ _⟩
   ·refine Xs.nil ?_
    show Xs _ _ _ (_::_) _
    refine Xs.cons (X1.asgT [(Str.ofString "path",_),(Str.ofString "tail",_)] G (Ew.a1 G (p1e (x:=p) (om198 hx hp)) (EwL.pure (.cons (Ev.name rfl) .nil) ⟨rfl,fun _ _=>trivial,fun sv new h=>?_⟩) (by walk_at "okA") (by k_is) (by k_is) rfl))
    refine x1a2 h fun D2 za zb=>?_;clear h;refine eq2 za zb ?_;clear za zb
    refine⟨D2,_,rfl,Has.mem (.head _),rfl,?_⟩
    show Xs _ _ _ [_] _
    refine Xs.cons (X1.append (xs:=ts.map .str) (Ev.name rfl) (Ev.name rfl) (.tail .head) (by simp;exact om439 hi hl) ?_)
    refine Xs.nil ?_
    refine⟨_,_,⟨k0m p,ts++[k1s p],a0H (k9s p) hp,by simp[hl],?_,rfl,rfl⟩,⟨rfl,rfl,trivial⟩,?_⟩
    ·rw[hc,show 60-i=(60-(i+1))+1 by exact om68 hi,climbTo,if_neg (a2Q.mp q)]
     simp
    ·rw[a0U]
     exact .cons _ (.refl _)
  ·rintro σ ld zu;refine x2a5 zu fun p ts hp hl hc za zb=>?_;clear zu;refine eq2 za zb ?_;clear za zb
   refine Xs.nil ?_
   exact⟨_,_,⟨ts,by rw[hc];simp[climbTo],by exact a4L hl,rfl,rfl⟩,⟨rfl,trivial⟩,.refl _⟩
  ·rintro σ ld zu;refine x1a4 zu fun ts hc hl za zb=>?_;clear zu;refine eq2 za zb ?_;clear za zb
   refine Xs.nil ?_
   exact⟨_,_,⟨ts,hc,hl,rfl,rfl⟩,⟨rfl,trivial⟩,.refl _⟩
 rintro σ ld zu;refine x1a4 zu fun ts hc hl za zb=>?_;clear zu;refine eq2 za zb ?_;clear za zb
 show Xs _ _ _ [_] _
 refine Xs.cons (X1.ret (Ew.sliceRev (xs:=ts.map .str) (Ev.name rfl) (Has.mem (.head _)) (Ev.neg Ev.a1) (by simp;exact om316 hl) fun D2=>?_))
 rw[<-List.map_reverse,hc]
 exact⟨_,⟨D2,rfl,rfl⟩,.cons_cons _ (a0X _)⟩
theorem m3c {w:World}{x:Str}(hx:x.length<=1000):Cn w 0 137 [.str x,.str (Str.ofString "/"),SN,.str (Str.ofString ".")] (fun _=>True) (fun sv new=>∃D,sv=SR D∧new=[(D,.tup [.str (k2n x),.str (k0x x)])]):=by
 refine k3r (σ:=[(Str.ofString "extsep",.str (Str.ofString ".")),(Str.ofString "altsep",SN),(Str.ofString "sep",.str (Str.ofString "/")),(Str.ofString "p",.str x)]) (binds:=fun vs=>[(Str.ofString "p",vs.headD .none),(Str.ofString "sep",vs.getD 1 .none),(Str.ofString "altsep",vs.getD 2 .none),(Str.ofString "extsep",vs.getD 3 .none)]) (by k_is) (by k_is) (fun vs s _ h=>?_) (fun vs h=>?_) (fun vs h=>?_) (by decide+kernel) (fun h₀ os L=>?_)
 ·refine x4a5 h.four fun _ _ _ _ za zb zc h3 zx=>ex1 zx fun u4 zd=>?_;clear zx;obtain rfl:=za;obtain⟨t,rfl⟩:=zb;obtain⟨u,rfl⟩:=zc;obtain rfl:=zd
  obtain rfl:=h3
  exact a1V rfl
 ·refine x4a5 h.four fun _ _ _ _ za zb zc h3 zx=>ex1 zx fun u4 zd=>?_;clear zx;obtain rfl:=za;obtain⟨t,rfl⟩:=zb;obtain⟨u,rfl⟩:=zc;obtain rfl:=zd
  exact .cons ⟨_,rfl⟩ (.cons h3 (.cons ⟨_,rfl⟩ (.cons ⟨_,rfl⟩ .nil)))
 ·exact locs rfl
 intro C G _
 walk_at "x1"
 refine Xs.cons (X1.a1 (Tst.ofN (Ev.name rfl)) (fun h=>nomatch h) (fun _=>?_))
 refine Xs.nil ?_
 show Xs _ _ _ (_::_) _
 walk_at "x1"
 refine Xs.a0 1 (fun σ ld=>extB x=false∧σ=[(Str.ofString "p",.str x)]∧ld=[]) ?_ ?_
 ·refine Xs.cons (X1.a1 (Tst.gt (Ev.name rfl) (Ev.name rfl)) (fun q=>?_) (fun q=>?_))
  ·have q:=of_decide_eq_true q
   have q:rSep x<rDot x:=q
   walk_at "x1"
   refine Xs.cons (X1.a2 (fun n σ ld=>∃i:Nat,(∀k,k<i ->dotAt x k=true)∧i<=(rDot x-rSep x-1).toNat∧n=(rDot x-rSep x-1).toNat-i∧σ=[(Str.ofString "filenameIndex",.int (rSep x+1+(i:Int))),(Str.ofString "dotIndex",.int (rDot x)),(Str.ofString "extsep",.str (Str.ofString ".")),(Str.ofString "p",.str x)]∧ld=[])
    (fun σ ld=>extB x=false∧σ=[(Str.ofString "p",.str x)]∧ld=[]) (rDot x-rSep x-1).toNat ⟨_,_,⟨0,fun _ h=>absurd h (Nat.not_lt_zero _),a0R _,rfl,rfl,rfl⟩,⟨a3C (fun z=>some (SV.int z)) (by simp),rfl,rfl,rfl,trivial⟩,.refl _⟩ ?_ ?_)
   ·rintro n σ ld zu;refine x1a5 zu fun i hall hi za zb zc=>?_;clear zu;refine eq2 za zb ?_;clear za zb;obtain rfl:=zc
    refine⟨_,Tst.lt (Ev.name rfl) (Ev.name rfl),fun q1=>?_,fun q1=>?_⟩
    ·have q1:=of_decide_eq_true q1
     refine Xs.cons (X1.a1 (Tst.neS (Ev.a4 (Ev.name rfl) (Ev.name rfl) (Ev.a6 (Ev.name rfl) Ev.a1 Opr.addI) (om1 hx)) (Ev.name rfl)) (fun q2=>?_) (fun q2=>?_))
     ·have e:extB x=true:=by
       unfold extB
       rw[a3N q,Bool.true_and,a6P]
       refine⟨i,a3O.mpr (p4m q1),?_⟩
       unfold dotAt
       exact q2
      refine Xs.cons (X1.ret (Ew.tuple (EwL.pure (.cons (Ev.a5 (Ev.name rfl) (Ev.name rfl) (om1 hx)) (.cons (Ev.sliceSN (Ev.name rfl) (Ev.name rfl) (om1 hx)) .nil)) ⟨kb rfl,fun D=>?_⟩)))
      refine⟨_,⟨D,rfl,rfl⟩,?_⟩
      rw[show k2n x=Txt.slice x none (some (rDot x))from if_pos e,show k0x x=Txt.slice x (some (rDot x)) none from if_pos e]
      exact .refl _
     ·refine Xs.nil ?_
      show Xs _ _ _ [_] _
      walk_at "x1"
      refine Xs.nil ?_
      refine⟨_,_,⟨(rDot x-rSep x-1).toNat-(i+1),by exact om101 q1,i+1,fun k hk=>?_,by exact om173 q1,rfl,rfl,rfl⟩,⟨a3C (fun z=>some (SV.int z)) om366,rfl,rfl,rfl,trivial⟩,.refl _⟩
      rcases Nat.lt_succ_iff_lt_or_eq.mp hk with hk|rfl
      ·exact hall k hk
      ·unfold dotAt;simpa using q2
    ·have q1:=a4K q1
     refine⟨_,_,⟨?_,rfl,rfl⟩,⟨rfl,trivial⟩,.refl _⟩
     unfold extB
     rw[a3L]
     right
     rw[Bool.eq_false_iff]
     intro hc
     rw[a6P]at hc
     refine x1a2 hc fun k hk hk2=>?_
     rw[hall k (by have:=a3O.mp hk;exact om191 this q1)]at hk2;cases hk2
   ·rintro σ ld zu;refine an3 zu fun hb za zb=>?_;clear zu;refine eq2 za zb ?_;clear za zb
    iterate 2 refine Xs.nil ?_
    exact⟨_,_,⟨hb,rfl,rfl⟩,⟨rfl,trivial⟩,.refl _⟩
  ·have q:=a4K q
   have q:¬rSep x<rDot x:=q
   iterate 2 refine Xs.nil ?_
   exact⟨_,_,⟨by unfold extB;rw[a2G q];rfl,rfl,rfl⟩,⟨rfl,trivial⟩,.refl _⟩
 rintro σ ld zu;refine an3 zu fun hb za zb=>?_;clear zu;refine eq2 za zb ?_;clear za zb
 show Xs _ _ _ [_] _
 refine Xs.cons (X1.ret (Ew.tuple (EwL.pure (.cons (Ev.name rfl) (.cons (Ev.a5 (Ev.name rfl) Ev.a1 (om1 hx)) .nil)) ⟨kb rfl,fun D=>?_⟩)))
 refine⟨_,⟨D,rfl,rfl⟩,?_⟩
 rw[show k2n x=x from if_neg (by rw[hb];decide),show k0x x=Str.ofString "" from if_neg (by rw[hb];decide),m3f]
 exact .refl _
theorem m8k {w:World}{x:Str}(hx:x.length<=1000):Cn w 1 251 [.str x] (fun _=>True) (fun sv new=>∃D,sv=SR D∧new=[(D,.list ((peelTo 30 x).map .str))]):=by
 refine k0g (x:=Str.ofString "path") (by k_is) (by k_is) (fun _ _=>a1V rfl) rfl (by decide+kernel) (fun h₀ os L=>?_)
 intro C G _
 refine Xs.cons (X1.a0 (Ew.list (EwL.pure .nil ⟨a0R _,fun D=>?_⟩)))
 show Xs _ _ _ (_::_) _
 refine Xs.a0 1 (fun σ ld=>∃(p:Str) (ts:List Str),p::ts.reverse=peelTo 30 x∧ts.length<=60∧σ=[(Str.ofString "path",.str p),(Str.ofString "ends",SR D)]∧ld=[(D,.list (ts.map .str))]) ?_ ?_
 ·refine Xs.cons (X1.a3 (Fs.range1 (n:=30) G (.cons Ev.a1 .nil) (by decide)) (fun i σ ld=>∃(p:Str) (ts:List Str),p.length<=x.length∧ts.length=i∧peelTo 30 x=peelTo (30-i) p++ts.reverse∧σ=[(Str.ofString "path",.str p),(Str.ofString "ends",SR D)]∧ld=[(D,.list (ts.map .str))]) (fun σ ld=>∃(p:Str) (ts:List Str),p::ts.reverse=peelTo 30 x∧ts.length<=60∧σ=[(Str.ofString "path",.str p),(Str.ofString "ends",SR D)]∧ld=[(D,.list (ts.map .str))])
   ⟨_,_,⟨x,[],a0W _,rfl,by simp,rfl,rfl⟩,⟨rfl,rfl,trivial⟩,.refl _⟩ (fun _ h=>nomatch h) ?_ ?_ ?_)
  ·rintro i σ ld it hi zu hit;refine x2a5 zu fun p ts hp hl hc za zb=>?_;clear zu;refine eq2 za zb ?_;clear za zb
   rw[a0E,k1h hi]
   show Xs C [(_,_),_,_] _ (_::_) _
   refine Xs.cons (X1.asgT [(Str.ofString "root",_),(Str.ofString "end",_)] G (Ew.a1 G (m3c (x:=p) (om198 hx hp)) (EwL.pure (.cons (Ev.name rfl) (.cons Ev.a0 (.cons Ev.cnone (.cons Ev.a0 .nil)))) ⟨rfl,fun _ _=>trivial,fun sv new h=>?_⟩) (by walk_at "okA") (by k_is) (by k_is) rfl))
   refine x1a2 h fun D2 za zb=>?_;clear h;refine eq2 za zb ?_;clear za zb
   refine⟨D2,_,rfl,Has.mem (.head _),rfl,?_⟩
   show Xs _ _ _ (_::_) _
   refine Xs.cons (X1.a1 (Tst.eqS (Ev.name rfl) Ev.a0) (fun q=>?_) (fun q=>?_))
   ·rw[k4c _ (a1T.mp q)]at hc
    refine Xs.cons (X1.brk ?_)
    exact⟨_,_,⟨p,ts,hc.symm,by exact om440 hi hl,rfl,rfl⟩,⟨rfl,rfl,trivial⟩,.cons _ (List.sublist_append_left _ _)⟩
   ·refine Xs.nil ?_
    show Xs _ _ _ (_::_) _
    refine Xs.cons (X1.append (xs:=ts.map .str) (Ev.name rfl) (Ev.name rfl) (.tail .head) (by simp;exact om441 hi hl) ?_)
    show Xs _ _ _ [_] _
    walk_at "x1"
    refine Xs.nil ?_
    refine⟨_,_,⟨k2n p,ts++[k0x p],a0H (m3x p) hp,by simp[hl],?_,rfl,rfl⟩,⟨rfl,rfl,trivial⟩,?_⟩
    ·rw[hc,show 30-i=(30-(i+1))+1 by exact om69 hi,peelTo,if_neg (a2Q.mp q)]
     simp
    ·rw[a0U]
     exact .cons _ (.refl _)
  ·rintro σ ld zu;refine x2a5 zu fun p ts hp hl hc za zb=>?_;clear zu;refine eq2 za zb ?_;clear za zb
   refine Xs.nil ?_
   exact⟨_,_,⟨p,ts,by rw[hc];simp[peelTo],by exact om568 hl,rfl,rfl⟩,⟨rfl,rfl,trivial⟩,.refl _⟩
  ·rintro σ ld zu;refine x2a4 zu fun p ts hc hl za zb=>?_;clear zu;refine eq2 za zb ?_;clear za zb
   refine Xs.nil ?_
   exact⟨_,_,⟨p,ts,hc,hl,rfl,rfl⟩,⟨rfl,rfl,trivial⟩,.refl _⟩
 rintro σ ld zu;refine x2a4 zu fun p ts hc hl za zb=>?_;clear zu;refine eq2 za zb ?_;clear za zb
 show Xs _ _ _ [_] _
 refine Xs.cons (X1.ret (Ew.a4 (xs:=[.str p]) (Ew.list (EwL.pure (.cons (Ev.name rfl) .nil) ⟨kb rfl,fun D2=>⟨D2,rfl,Has.mem (.head _),Ew.sliceRev (xs:=ts.map .str) (Ev.name rfl) (Has.mem (.tail _ (.head _))) (Ev.neg Ev.a1) (by simp;exact om316 hl) fun D3=>⟨D3,rfl,Has.mem (.tail _ (.head _)),_,Has.mem (.head _),by simp;exact om520 hl,fun D4=>?_⟩⟩⟩))))
 rw[<-List.map_reverse,show [SV.str p]++ts.reverse.map .str=(peelTo 30 x).map .str from by rw[<-hc];rfl]
 exact⟨_,⟨D4,rfl,rfl⟩,.cons_cons _ (a0X _)⟩
theorem m9z {w:World}{a:Addr}{ls:List Addr}{xss:List (List Str)}(hlen:xss.length=ls.length)(h0:0<ls.length)(hn:ls.length<=1000)(hx:∀i,(xss.getD i []).length<=1000):Cn w 1 277 [SR a] (fun h=>HasL h a (ls.map SR)∧∀i l,ls[i]?=some l ->HasL h l ((xss.getD i []).map .str)) (fun sv new=>∃D,sv=SR D∧new=[(D,.list ((k0y xss).map .str))]):=by
 refine k0g (x:=Str.ofString "rows") (by k_is) (by k_is) (fun _ _=>a1V rfl) rfl (by decide+kernel) (fun h₀ os L=>?_)
 intro C G ⟨ha,hv⟩
 have hl0:ls[0]?=some ls[0]:=a0D h0
 have get:∀ {i l},ls[i]?=some l ->(ls.map SR)[i]?=some (SR l):=fun h=>by rw[a0T,h];rfl
 refine Xs.cons (X1.a0 (Ew.pure (Ev.a7 (xs:=ls.map SR) (sv:=SR ls[0]) (Ev.name rfl) ha.has Ev.a1 (by decide) (get hl0) (by decide)) ?_))
 show Xs _ _ _ (_::_) _
 refine Xs.cons (X1.a3 (Fs.list (xs:=ls.map SR) G.h (Ev.name rfl) ha.has) (fun i σ ld=>∃D,σ=[(Str.ofString "found",SR D)]∧((i=0∧D=ls[0]∧ld=[])∨(1<=i∧ld=[(D,.list ((commonTo xss i).map .str))]))) (fun _ _=>False) ⟨_,_,⟨_,rfl,.inl ⟨rfl,rfl,rfl⟩⟩,⟨rfl,trivial⟩,.refl _⟩ ?_ ?_ ?_ (fun _ _ h=>h.elim))
 ·intro b hb
  rw[a0B.mp hb]
  exact .inl ⟨_,ha.choose_spec.1⟩
 ·rintro i σ ld it hi zu hit;refine x1a2 zu fun D za hd=>?_;clear zu;obtain rfl:=za
  rw[a0J]at hi
  have hli:ls[i]?=some ls[i]:=a0D hi
  rw[a0E,get hli]
  have hD:∀ {σ it},Has C σ (ld++it) D (.list ((commonTo xss i).map .str)):=by
   intro σ it
   rcases hd with⟨rfl,rfl,rfl⟩| ⟨_,rfl⟩
   ·exact(hv 0 _ hl0).has
   ·exact Has.mem (.head _)
  have b1:=k6a (hx 0) i
  have b2:=hx i
  show Xs C [(_,_),_] _ [_] _
  refine Xs.cons (X1.a0 (Ew.a3 (xs:=(commonTo xss i).map .str) (Ev.name rfl) hD (Ev.b0 (pre:=fun h=>HasL h D ((commonTo xss i).map .str)∧HasL h ls[i] ((xss.getD i []).map .str)) G (m1o b1 b2) (.cons (Ev.name rfl) (.cons (Ev.name rfl) .nil)) (fun s H=>⟨hD.hasL H,(hv i _ hli).has.hasL H⟩) (by walk_at "okA") (by k_is) (by k_is) rfl) om7 (by simp;exact p4s b1) fun D2=>?_))
  refine Xs.nil ?_
  refine⟨_,_,⟨D2,rfl,.inr ⟨by exact om529,rfl⟩⟩,⟨rfl,trivial⟩,?_⟩
  rw[commonTo,a6C,a1W]
  exact .cons_cons _ (List.sublist_append_right _ _)
 ·rintro σ ld zu;refine x1a2 zu fun D za hd=>?_;clear zu;obtain rfl:=za
  rw[a0J]at hd
  rcases hd with⟨h,_⟩| ⟨_,rfl⟩
  ·exact(om451 h0 h).elim
  show Xs _ _ _ [_] _
  refine Xs.cons (X1.ret (Ew.pure (Ev.name rfl) ?_))
  refine⟨_,⟨D,rfl,rfl⟩,?_⟩
  unfold k0y
  rw[hlen]
  exact .refl _
noncomputable def k3d (x:Str):List Str:=x.cps.toList.map fun c=>⟨#[c]⟩
section
variable {prog:Program}{w:World}{A:Around}{E:Value ->Shared ->Prop}{s:Shared}{R:Result ->Shared ->Prop}{I S:Addr}{fp wr:List Addr}{St:Nat ->Heap ->Prop}{x:Str}
theorem m7w {i:Nat}{c:Nat}(h:x.cps[i]?=some c):(k3d x)[i]?=some ⟨#[c]⟩:=by
 unfold k3d
 rw[a0T,a5X,h];rfl
theorem m7v:(k3d x).length=x.length:=by simp[k3d,Str.length]
theorem m7n {ys:List Value}{i c:Nat}{u:Tok}(h:StrsAre ys ((k3d x).take i))(e:x.cps[i]?=some c):StrsAre (ys++[Value.str ⟨#[c]⟩ u]) ((k3d x).take (i+1)):=by
 have:(k3d x).take (i+1)=(k3d x).take i++[⟨#[c]⟩]:=by
  rw[a2A,m7w e];rfl
 rw[this]
 exact m7m h
theorem p2i (W:Walks prog w A.in1 I fp wr x.cps.size (SignAt x) St)(hSf:S∉fp)(us:List Value)(hz:us.length+x.cps.size<=16777216)(res:Value):
  ∀(k i:Nat) (s:Shared) (ys:List Value) (c:Nat),x.cps.size-i=k ->i<=x.cps.size ->St i s.heap ->s.heap.get? S=some (listOf (us++ys).toArray c) ->StrsAre ys ((k3d x).take i) ->
  (∀h' tk ys' c',(∀b o,b∉wr ->b≠S ->s.heap.get? b=some o ->h'.get? b=some o) ->h'.get? S=some (listOf (us++ys').toArray c') ->StrsAre ys' (k3d x) ->R (.ok (.ret res)) {s with heap:=h',toks:=tk}) ->
  codeAny (model prog w) A (.builtin "list.extend.loop" ⟨[.ref S,.ref I,res],[]⟩) R s:=by
 have hSw:S∉wr:=fun h=>hSf (W.sub _ h)
 intro k
 induction k with
 |zero=>
  intro i s ys c hk hi hst hS hy hR
  have hin:i=x.cps.size:=om83 hk hi
  refine a2D F.entry_extend_loop ?_
  rw[a1H a3Z _]
  show wpAny _ A.in1 (pyNext (.ref I)>>=_) _ _ s
  refine a0A (W.done s _ _ (hin▸hst) fun h' tk hk'=>?_)
  refine a0F (hR h' tk ys c (fun b o hb _ e=>hk' b o hb e) (hk' S _ hSw hS) ?_)
  rwa[a2H (by rw[m7v];show x.cps.size<=i;exact a4L (id (Eq.symm hin)))]at hy
 |succ k ih=>
  intro i s ys c hk hi hst hS hy hR
  have hlt:i<x.cps.size:=om21 hk
  refine a2D F.entry_extend_loop ?_
  rw[a1H a3Z _]
  show wpAny _ A.in1 (pyNext (.ref I)>>=_) _ _ s
  refine a0A (W.item i s _ _ hlt hst fun v h' tk hP hst' hk'=>?_)
  refine x2a2 hP fun cp u hc za=>?_;clear hP;obtain rfl:=za
  have hS':=hk' S _ hSw hS
  have hyl:=k1a hy
  rw[a2F]at hyl
  have hsz:(us++ys).toArray.size<=us.length+i:=by simp;exact om278 hyl
  have e2:(us++ys).toArray.push (Value.str ⟨#[cp]⟩ u)=(us++(ys++[Value.str ⟨#[cp]⟩ u])).toArray:=by simp
  show wpAny _ A.in1 (updateSeq S (·.push (Value.str ⟨#[cp]⟩ u))>>=_) _ _ _
  refine a0A (a2X hS' rfl (a0F ⟨a1Z a3Z _,?_⟩) (by rw[a1S];exact om277 hz hlt hsz) (by rw[a1S,Array.size_push];exact om246 hz hlt hsz))
  have hS2:=a1G (Obj.mapSeq (·.push (Value.str ⟨#[cp]⟩ u))) hS' rfl
  obtain⟨c2,hS3⟩:∃c2,(h'.update S (Obj.mapSeq (·.push (Value.str ⟨#[cp]⟩ u)))).get? S=some (listOf (us++(ys++[Value.str ⟨#[cp]⟩ u])).toArray c2):=⟨_,by rw[<-e2];exact hS2⟩
  refine ih (i+1) _ (ys++[Value.str ⟨#[cp]⟩ u]) c2 (om2 hk) hlt (W.frame _ _ _ hst' fun b hbf o e=>?_) hS3 (m7n hy hc) fun h'' tk'' ys' c' hk'' hS'' hy'=>?_
  ·exact(a0O _ _ (fun h:S=b=>hSf (by rw[h];exact hbf))).trans e
  ·exact hR h'' tk'' ys' c' (fun b o hbw hbS e=>hk'' b o hbw hbS ((a0O _ _ (Ne.symm hbS)).trans (hk' b o hbw e))) hS'' hy'
end
theorem p2s (c:Nat):(Builtin.Str.occurrences (Str.ofString " \t") ⟨#[c]⟩ 0 (Str.ofString " \t").length 1).isEmpty= !decide (c=32∨c=9):=by
 have:=StrLaws.found_one (Str.ofString " \t") c
 rw[←Bool.not_inj_iff,this,a4P,show(Str.ofString " \t").cps.toList=[32,9]from by decide+kernel]
 simp
noncomputable def k6f (c:Nat):Bool:=c==45||c==47||c==92||c==58||c==59||c==34||c==40||c==41
theorem sp_in (c:Nat):(Builtin.Str.occurrences (Str.ofString "-/\\:;\"()") ⟨#[c]⟩ 0 (Str.ofString "-/\\:;\"()").length 1).isEmpty= !k6f c:=by
 have:=StrLaws.found_one (Str.ofString "-/\\:;\"()") c
 rw[<-Bool.not_inj_iff,this,a4P,show(Str.ofString "-/\\:;\"()").cps.toList=[45,47,92,58,59,34,40,41]from by decide+kernel]
 unfold k6f
 simp only[a0G,a0Z,a5C,Bool.decide_or,Bool.or_assoc]
 rfl
noncomputable def k2j (l:List Nat):List Nat:=(l.take (l.length-trail32 l)).drop (lead32 l)
noncomputable def k0v (a:List Nat×Bool)(x:List Nat):List Nat×Bool:=if x=[]then a else(a.1++((if a.2 then [45]else [])++k2j x),true)
noncomputable def sjTo (xs:List Str)(i:Nat):List Nat×Bool:=(xs.take i).foldl (fun a x=>k0v a x.cps.toList) ([],false)
theorem k7f {xs:List Str}{i:Nat}{c:Str}(h:xs[i]?=some c):sjTo xs (i+1)=k0v (sjTo xs i) c.cps.toList:=by
 unfold sjTo;rw[a2A,h,a3K];rfl
noncomputable def k0b (l:List Nat):List Str:=l.map fun c=>⟨#[c]⟩
theorem k3n (a b:List Nat):k0b (a++b)=k0b a++k0b b:=a0U
noncomputable def unkL:List Nat:=[117,110,107,110,111,119,110]
noncomputable def scanF:Nat ->List Nat ->Bool ->List Nat
 |0,_,_=>[]
 |_+1,[],_=>[]
 |n+1,c::r,o=>if(c::r).take 7=unkL then scanF n ((c::r).drop 7) o else if k6f c then scanF n r true else(if o then [45]else [])++(if c=32 then 95 else c)::scanF n r false
noncomputable def safeL (xs:List Str):List Nat:=scanF (sjTo xs xs.length).1.length (sjTo xs xs.length).1 false
noncomputable def m1r (xs:List Str):Str:=S (safeL xs)
theorem k7n (x:Str):(x !=Str.ofString "")= !decide (x.cps.toList=[]):=by
 have:(x=Str.ofString "")↔x.cps.toList=[]:=by
  constructor
  ·rintro rfl;decide+kernel
  ·intro h;cases x with|mk a=>simp at h;subst h;rfl
 by_cases h:x.cps.toList=[]
 ·rw[this.mpr h];decide+kernel
 ·simp[h,this]
noncomputable def Asc (x:Str):Prop:=∀c∈x.cps.toList,32<=c∧c<127
theorem m9x {l:List Nat}{c:Nat}(h:c∈k2j l):c∈l:=a3D (a2S h)
theorem k8b (l:List Nat):(k2j l).length<=l.length:=by unfold k2j;simp;exact om170
theorem m1m {xs:List Str}(h:∀x∈xs,Asc x):∀i,∀c∈(sjTo xs i).1,32<=c∧c<127
 |0,c,hc=>by simp[sjTo]at hc
 |i+1,c,hc=>by
  cases e:xs[i]? with
  |none=>
   have:sjTo xs (i+1)=sjTo xs i:=by unfold sjTo;rw[a2A,e];simp
   rw[this]at hc;exact m1m h i c hc
  |some x=>
   rw[k7f e,k0v]at hc
   split at hc
   ·exact m1m h i c hc
   ·rcases a0V.mp hc with hc|hc
    ·exact m1m h i c hc
    ·rcases a0V.mp hc with hc|hc
     ·split at hc
      ·simp at hc;subst hc;decide
      ·cases hc
     ·exact h x (a1D e) c (m9x hc)
theorem m1n {l:List Nat}(h:∀c∈l,c<1114112):OkS (k0b l):=fun x hx=>by
 refine x1a2 (a0K.mp hx) fun c hc za=>?_;obtain rfl:=za
 simp[PyData.strOk,h c hc]
theorem m6b {a b:List Nat}:k0b a=k0b b↔a=b:=by
 refine⟨fun h=>?_,fun h=>by rw[h]⟩
 induction a generalizing b with
 |nil=>cases b with
  |nil=>rfl
  |cons d b=>cases h
 |cons c a ih=>cases b with
  |nil=>cases h
  |cons d b=>
   simp only[k0b,a0P,List.cons.injEq,Str.mk.injEq]at h
   have h1:c=d:=by simpa using h.1
   rw[h1,ih h.2]
theorem m7i:[Str.ofString "u",Str.ofString "n",Str.ofString "k",Str.ofString "n",Str.ofString "o",Str.ofString "w",Str.ofString "n"]=k0b unkL:=by decide+kernel
theorem cut7 (l:List Nat)(i:Nat):((k0b l).take (i+7)).drop i=k0b ((l.drop i).take 7):=by
 unfold k0b
 rw[List.drop_take,<-a6D,<-a6C,Nat.add_sub_cancel_left]
theorem k0t (l:List Nat):(k0b l).length=l.length:=by simp[k0b]
theorem m6o (l:List Nat):Txt.join (Str.ofString "") (k0b l)=S l:=by
 rw[show Txt.join (Str.ofString "") (k0b l)=Str.join (Str.ofString "") (k0b l)from a5S _ _,show Str.ofString ""=S []from by decide+kernel]
 induction l with
 |nil=>rfl
 |cons c l ih=>cases l with
  |nil=>rfl
  |cons d l=>
   show S [c]++S []++Str.join (S []) (k0b (d::l))=_
   rw[ih,m4g,m4g];rfl
structure Tw (C:Cx)(σ:Loc)(ld:Led)(e:Expr)(P:Bool ->Led ->Prop):Prop where
 run:∀(s:Shared) (Q:Bool ->Shared ->Prop) (E:Value ->Shared ->Prop),Hold C σ ld s ->(∀b ld' s',P b ld' ->Hold C σ ld' s' ->Q b s') ->wpAny (model PR C.w) C.A (isTrue e C.env (eval e C.env)) Q E s
section
variable {C:Cx}{σ:Loc}{ld ld':Led}{s s':Shared}{D l:Addr}{x y:PySem.Str}{a b c e:Expr}{pos px np ap tp sp cp p1 p2 p3:Pos}{sv sa sc:SV}{xs ys:List Str}{us:List SV}{P:Fl ->Loc ->Led ->Prop}{R:SV ->Led ->Prop}{W:Bool ->Led ->Prop}{p q r:Bool}{i j:Int}
theorem X1.a4 {test:Expr}{body orelse:List Stmt}(h:Tw C σ ld test fun b ld'=>if b=true then Xs C σ ld' body P else Xs C σ ld' orelse P):X1 C σ ld (.If test body orelse pos) P:=.mk fun s Q E H k=>by
 refine wpAny_If (h.run s _ E H fun c ld' s' hp H'=>?_)
 cases c with
 |true=>rw[if_pos rfl]at hp⊢;exact hp.run s' Q E H' k
 |false=>rw[if_neg (by decide)]at hp⊢;exact hp.run s' Q E H' k
theorem Tw.eqL (h:Ew C σ ld a fun sv ld'=>∃l xs,sv=SR l∧OkS xs∧Ew C σ ld' b fun sv' ld''=>∃l' ys,sv'=SR l'∧Has C σ ld'' l (.list (xs.map .str))∧Has C σ ld'' l' (.list (ys.map .str))∧OkS ys∧W (decide (xs=ys)) ld'')(hu:C.A.units+64<cLine)
  (hm:autoParam (behindInMarks .Eq b=false) aU):Tw C σ ld (.Compare a [.Eq] [b] pos) W:=.mk fun s Q E H k=>by
 refine a1F (h.run s _ _ H fun v sv ld' s' hv hp H'=>?_) hm
 refine x2a3 hp fun l xs za ox hb=>?_;clear hp;obtain rfl:=za
 obtain rfl:=hv
 refine hb.run s' _ _ H' fun v sv ld'' s'' hv hp H''=>?_
 refine x2a5 hp fun l' ys za h1 h2 oy w=>?_;clear hp;obtain rfl:=za
 obtain rfl:=hv
 refine x1a2 (h1.isList H'') fun vs hI hA=>?_
 refine x1a2 (h2.isList H'') fun ws hJ hB=>?_
 refine p5m hI hJ hA.strs hB.strs ox oy hu ?_
 walk1
 exact k _ ld'' _ w H''
theorem Tw.neL (h:Ew C σ ld a fun sv ld'=>∃l xs,sv=SR l∧OkS xs∧Ew C σ ld' b fun sv' ld''=>∃l' ys,sv'=SR l'∧Has C σ ld'' l (.list (xs.map .str))∧Has C σ ld'' l' (.list (ys.map .str))∧OkS ys∧W (!decide (xs=ys)) ld'')(hu:C.A.units+64<cLine)
  (hm:autoParam (behindInMarks .NotEq b=false) aU):Tw C σ ld (.Compare a [.NotEq] [b] pos) W:=.mk fun s Q E H k=>by
 refine a1F (h.run s _ _ H fun v sv ld' s' hv hp H'=>?_) hm
 refine x2a3 hp fun l xs za ox hb=>?_;clear hp;obtain rfl:=za
 obtain rfl:=hv
 refine hb.run s' _ _ H' fun v sv ld'' s'' hv hp H''=>?_
 refine x2a5 hp fun l' ys za h1 h2 oy w=>?_;clear hp;obtain rfl:=za
 obtain rfl:=hv
 refine x1a2 (h1.isList H'') fun vs hI hA=>?_
 refine x1a2 (h2.isList H'') fun ws hJ hB=>?_
 refine p4y hI hJ hA.strs hB.strs ox oy hu ?_
 walk1
 exact k _ ld'' _ w H''
theorem Ew.sliceRun {lo hi:Expr}(ha:Ev C σ ld a (SR l))(hl:Has C σ ld l (.list us))(hlo:Ev C σ ld lo (.int i))(hhi:Ev C σ ld hi (.int j))(h0:0<=i)(h1:0<=j)(hz:us.length<=10000)(r:∀D,R (SR D) ((D,.list ((us.take j.toNat).drop i.toNat))::ld))
  (hs:autoParam (∀D,subscripted (.Slice (some lo) (some hi) none sp) false (.ref l) (.ref D)=operate [.ref D,.ref l] (getItem (.ref l) (.ref D))) aJ)
  (ht:autoParam (∀r,letTemporaryGo a (.ref l) r=Pure.pure ()) aJ):Ew C σ ld (.Subscript a (.Slice (some lo) (some hi) none sp) pos) R:=.mk fun s Q E H k=>by
 walk1
 refine ha.run s _ _ H fun v s' g hv=>?_
 obtain rfl:=hv
 walk1
 refine hlo.run _ _ _ (H.go g) fun v s'' g' hv=>?_
 obtain⟨u,rfl⟩:=hv
 refine hhi.run _ _ _ ((H.go g).go g') fun v s3 g3 hv=>?_
 obtain⟨u3,rfl⟩:=hv
 try walk1
 have H':=((H.go g).go g').go g3
 refine x1a2 (hl.isList H') fun vs hI hA=>?_
 refine x1a2 H'.fr fun m F r'=>?_
 exact m7t F H'.news hI (IsPart.int _ _) (IsPart.int _ _) h0 h1 (by have:=hA.len;exact om8 this hz) (fun D h' F2 N2 hn=>k _ (SR D) _ {s3 with heap:=h',toks:=s3.toks} rfl (r D) (H'.made r' F2 N2 (fun p hp=>a0S (hn p hp)) ⟨_,_,rfl,(hA.take _).drop _⟩)) (hs _) ht
theorem X1.extendS (ha:Ev C σ ld a (SR D))(hb:Ev C σ ld b (.str x))(G:C.A.handled=none)(U:LUpd D (.list us) (.list (us++(k3d x).map .str)) ld ld')(hz:us.length+x.length<=100000)(p:P .next σ ld'){pl:Sem Bool}
  (he:autoParam (eval (.Call (.Attribute a (Str.ofString "extend") ap) [b] [] cp) C.env=(do
   let ov <-eval a C.env
   standAt ap.atName
   let(f,first) <-holding [ov] (getMethod ov (Str.ofString "extend") pl)
   callWith cp f first (backTo cp (starEach [b] C.env)) [])) aR)
  (hs:autoParam (starEach [b] C.env=(false,eval b C.env)::starEach [] C.env) aR) (hi:autoParam (interactive C.env=false) aR) (hw:autoParam (swapsWith (.Call (.Attribute a (Str.ofString "extend") ap) [b] [] cp) none pos.line C.env=Pure.pure false) aR):X1 C σ ld (.Expr (.Call (.Attribute a (Str.ofString "extend") ap) [b] [] cp) pos) P:=by
 refine X1.exprW (Ew.meth (T:="list") (id:="list.extend") ha (EwL.pure (.cons hb .nil hs) fun _ v vs s Q E hv hvs H k=>?_) (.list (Has.mem U.mem)) F.plainAttrs_list PySem.F.slot_list_extend PySem.F.type_list_extend he hs (by rfl)) hi hw
 obtain rfl:=hv
 refine x1a2 hvs.one fun _ za zx=>ex1 zx fun t zb=>?_;clear zx;obtain rfl:=za;obtain rfl:=zb
 refine x1a3 (H.led _ U.mem) fun o ho za _=>?_;obtain⟨vs,n,rfl,hA⟩:=za
 have hl:=hA.len
 have hSI:D≠s.heap.objs.size:=a0S (a0M ho)
 have hSf:D∉[s.heap.objs.size]:=fun hm=>hSI (a0B.mp hm)
 refine a4I (codeAny_call_builtin PySem.F.slot_list_extend.plain PySem.F.entry_list_extend (PySem.F.slot_list_extend.check _ _ _ _ _ _ _ _ ⟨_,ho,rfl⟩ (PySem.F.args_list_extend_2 _ _) ?_))
 show wpAny _ _ (Builtin.List.listExtendWith (.ref D) (.str x t) .none) _ _ s
 unfold Builtin.List.listExtendWith
 refine a0A (wpAny_typeOf (T:="str") (v:=.str x t) rfl ?_)
 have h1:Builtin.List.listSameRef (.ref D) (.str x t)=false:=rfl
 have h2:(Value.type "str"==Value.type "list")=false:=by decide
 have h3:(Value.type "str"==Value.type "tuple")=false:=by decide
 simp only[h1,h2,h3,a6F,a3A,if_false]
 refine a0A (wpAny_pyIter_str fun o St W hst=>?_)
 refine a0A (a1O ?_)
 unfold Builtin.List.listLengthHint
 refine a0A (a4B (T:="str") (v:=.str x t) rfl PySem.F.str_len ?_)
 wp_delta
 refine a0A (wpAny_isInstance (T:="str") (v:=.str x t) (b:=true) rfl (by rw[a2I];kernel_rfl) ?_)
 show wpAny _ _ (typeOf (Value.str x t)>>=_) _ _ _
 refine a0A (wpAny_typeOf (T:="str") (v:=.str x t) rfl ?_)
 refine a0F ?_
 rw[if_neg (by decide)]
 refine a0F ⟨a1Z PySem.F.plain_extend_loop _,p2i (W C.A.in1 G) hSf vs (by have:x.cps.size=x.length:=rfl;exact om350 hz hl this) .none x.cps.size 0 _ [] n rfl (a0R _) hst ?_ .nil fun h' tk ys' c' hk hS' hy'=>?_⟩
 ·rw[a2O];exact a0C _ ho
 ·refine k .none SN ld' _ rfl ⟨rfl,p⟩ (H.upd (s':={s with heap:=h',toks:=tk}) U (fun b o hb e=>hk b o (fun q=>by have:=a0M e;rw[a0B.mp q]at this;exact absurd this (a1R _)) hb (a0C _ e)) hS' ⟨vs++ys',c',rfl,hA.app (Are.ofStrs hy')⟩ (C.ok _ _ _ H.rest))
theorem X1.appendW {xs:List SV}{ld'':Led}(ha:Ev C σ ld a (SR D))(hb:Ew C σ ld b fun sv' ld'=>sv'=sv∧ld'=ld)(U:LUpd D (.list xs) (.list (xs++[sv])) ld ld'')(hz:xs.length<=10000)(p:P .next σ ld''){pl:Sem Bool}
  (he:autoParam (eval (.Call (.Attribute a (Str.ofString "append") ap) [b] [] cp) C.env=(do
   let ov <-eval a C.env
   standAt ap.atName
   let(f,first) <-holding [ov] (getMethod ov (Str.ofString "append") pl)
   callWith cp f first (backTo cp (starEach [b] C.env)) [])) aR)
  (hs:autoParam (starEach [b] C.env=(false,eval b C.env)::starEach [] C.env) aR) (hi:autoParam (interactive C.env=false) aR) (hw:autoParam (swapsWith (.Call (.Attribute a (Str.ofString "append") ap) [b] [] cp) none pos.line C.env=Pure.pure false) aR):X1 C σ ld (.Expr (.Call (.Attribute a (Str.ofString "append") ap) [b] [] cp) pos) P:=by
 refine X1.exprW (Ew.meth (T:="list") (id:="list.append") ha (EwL.cons (.mk fun s0 Q0 E0 H0 k0=>hb.run s0 Q0 E0 H0 fun v0 sv' ld' s' hv0 hp H'=>k0 v0 sv ld s' (hp.1▸hv0) (.nil fun _ v vs s Q E hv hvs H k=>?_) (hp.2▸H')) hs) (.list (Has.mem U.mem)) F.plainAttrs_list slot_list_append type_list_append he hs (by rfl)) hi hw
 clear hp H0 k0 H' hv0
 obtain rfl:=hv
 refine x1a2 hvs.one fun _ za hv1=>?_;obtain rfl:=za
 refine x1a3 (H.led _ U.mem) fun o ho za _=>?_;obtain⟨vs,n,rfl,hA⟩:=za
 refine append_at (hsz:=by rw[a1S,a1M];have:=hA.len;exact om8 this hz) ho fun h' hs' ho'=>?_
 exact k .none SN ld'' _ rfl ⟨rfl,p⟩ (H.upd (s':={s with heap:=h'}) U (fun b o hb e=>hs'.extBut b o hb e) ho' ⟨_,n+1,by rw[List.push_toArray],hA.app (.cons hv1 .nil)⟩ (C.ok _ _ _ H.rest))
end
theorem m7x {l:List Nat}{i:Nat}(h:i<l.length):((k0b l).map SV.str)[i]?=some (.str ⟨#[l[i]]⟩):=by
 simp[k0b,a0T,a0D h]
theorem p3c {xs:List Str}(h:AllLen 400 xs):∀i,(sjTo xs i).1.length<=401*i
 |0=>a0R _
 |i+1=>by
  have ih:=p3c h i
  cases e:xs[i]? with
  |none=>
   have:sjTo xs (i+1)=sjTo xs i:=by unfold sjTo;rw[a2A,e];simp
   rw[this];exact om136 ih
  |some x=>
   rw[k7f e,k0v]
   have h1:=h x (a1D e)
   have h2:=k8b x.cps.toList
   have h3:x.length=x.cps.toList.length:=by simp[Str.length]
   split
   ·exact om136 ih
   ·rw[a0Y,a0Y]
    have:(if(sjTo xs i).2=true then [45]else []).length<=1:=by split<;>simp
    exact om143 h3 ih this h1 h2
theorem m8b {w:World}{a:Addr}{xa:List Str}(la:xa.length<=2)(lx:AllLen 400 xa)(hasc:∀x∈xa,Asc x):Cn w 0 237 [SR a] (fun h=>HasL h a (xa.map .str)) (fun sv new=>sv=.str (m1r xa)∧new=[]):=by
 refine k0g (x:=Str.ofString "texts") (by k_is) (by k_is) (fun _ _=>a1V rfl) rfl (by decide+kernel) (fun h₀ os L=>?_)
 intro C G ha
 have hsl:=p3c lx
 refine Xs.cons (X1.a0 (Ew.list (EwL.pure .nil ⟨a0R _,fun D=>?_⟩)))
 show Xs _ _ _ (_::_) _
 walk_at "x1"
 show Xs _ _ _ (_::_) _
 refine Xs.a0 1 (fun σ ld=>σ=[(Str.ofString "signs",SR D)]∧ld=[(D,.list ((k0b (sjTo xa xa.length).1).map .str))]) ?_ ?_
 ·refine Xs.cons (X1.a3 (Fs.list (xs:=xa.map .str) G.h (Ev.name rfl) ha.has) (fun i σ ld=>σ=[(Str.ofString "behind",SB (sjTo xa i).2),(Str.ofString "signs",SR D)]∧ld=[(D,.list ((k0b (sjTo xa i).1).map .str))]) (fun _ _=>False) ⟨_,_,⟨rfl,rfl⟩,⟨rfl,rfl,trivial⟩,.refl _⟩ ?_ ?_ ?_ (fun _ _ h=>h.elim))
  ·intro b hb
   rw[a0B.mp hb]
   exact .inl ⟨_,ha.choose_spec.1⟩
  ·rintro i σ ld it hi ⟨rfl,rfl⟩ hit
   rw[a0J]at hi
   have hx:xa[i]?=some xa[i]:=a0D hi
   have e2:=k7f hx
   have hxm:=a1D hx
   have hx4:=lx _ hxm
   have hx9:9∉xa[i].cps.toList:=fun q=>by have:=(hasc _ hxm 9 q).1;exact(om594 this).elim
   have hz:=hsl i
   rw[k3p hx,e2]
   generalize xa[i]=x at*
   generalize sjTo xa i=ps at*;revert x ps;refine id ?_;intros
   show Xs C [(_,_),_,_] _ [_] _
   refine Xs.cons (X1.a1 (Tst.neS (Ev.name rfl) Ev.a0) (fun q=>?_) (fun q=>?_))
   ·have hx0:x.cps.toList≠[]:=by rw[k7n]at q;simpa using q
    rw[show k0v ps x.cps.toList=(ps.1++((if ps.2 then [45]else [])++k2j x.cps.toList),true)from if_neg hx0]
    refine Xs.a0 1 (fun σ ld=>σ=[(Str.ofString "one",.str x),(Str.ofString "signs",SR D)]∧ld=(D,.list ((k0b (ps.1++if ps.2 then [45]else [])).map .str))::it) ?_ ?_
    ·refine Xs.cons (X1.a1 (Tst.ofB (Ev.name rfl)) (fun q2=>?_) (fun q2=>?_))
     ·rw[if_pos q2,k3n,a0U]
      refine Xs.cons (X1.append (xs:=(k0b ps.1).map .str) (Ev.name rfl) Ev.a0 .head (by rw[a0J,k0t];exact om282 hi hz la) ?_)
      iterate 2 refine Xs.nil ?_
      exact⟨_,_,⟨rfl,rfl⟩,⟨rfl,rfl,trivial⟩,.refl _⟩
     ·rw[if_neg (by rw[q2];decide),a2O]
      iterate 2 refine Xs.nil ?_
      exact⟨_,_,⟨rfl,rfl⟩,⟨rfl,rfl,trivial⟩,.refl _⟩
    rintro σ ld ⟨rfl,rfl⟩
    have hp1:(ps.1++if ps.2=true then [45]else []).length<=401*i+1:=by
     rw[a0Y]
     have:(if ps.2=true then [45]else []).length<=1:=by split<;>simp
     exact Nat.add_le_add hz this
    rw[show ps.1++((if ps.2=true then [45]else [])++k2j x.cps.toList)=(ps.1++if ps.2=true then [45]else [])++k2j x.cps.toList from(a6E _ _ _).symm]
    generalize(ps.1++if ps.2=true then [45]else [])=us at*;revert us;refine id ?_;intros
    show Xs _ _ _ (_::_) _
    iterate 3 walk_at "x1"
    have hlen:x.length=x.cps.toList.length:=by simp[Str.length]
    generalize hl0:x.cps.toList=l at*;revert l;refine id ?_;intros
    have getl:∀i c,l[i]?=some c ->x.cps[i]?=some c:=fun i c e=>by rw[<-hl0,a5X]at e;exact e
    have hle:=m0l l
    have htr:=k6l l
    have n9:∀i (hi:i<l.length),l[i]≠9:=fun i hi e=>hx9 (e▸a2T hi)
    refine Xs.cons (X1.a2 (fun n σ ld=>∃i:Nat,i<=lead32 l∧n=l.length-i∧σ=[(Str.ofString "first",.int i),(Str.ofString "last",.int x.length),(Str.ofString "behind",SB true),(Str.ofString "one",.str x),(Str.ofString "signs",SR D)]∧ld=(D,.list ((k0b us).map .str))::it)
     (fun σ ld=>σ=[(Str.ofString "first",.int (lead32 l)),(Str.ofString "last",.int x.length),(Str.ofString "behind",SB true),(Str.ofString "one",.str x),(Str.ofString "signs",SR D)]∧ld=(D,.list ((k0b us).map .str))::it) l.length ⟨_,_,⟨0,a0R _,rfl,rfl,rfl⟩,⟨rfl,rfl,rfl,rfl,rfl,trivial⟩,.refl _⟩ ?_ ?_)
    ·rintro n σ ld zu;refine x1a4 zu fun i hi za zb zc=>?_;clear zu;refine eq2 za zb ?_;clear za zb;obtain rfl:=zc
     refine⟨_,Tst.and (Tst.lt (Ev.name rfl) (Ev.name rfl)) (fun q=>by rw[a1B]at q;exact Tst.inS (Ev.a3 (Ev.name rfl) (Ev.name rfl) om25 (om89 q) (om51 hx4)) Ev.a0),fun q=>?_,fun q=>?_⟩
     ·rw[a2Y,a1B]at q
      have hil:i<l.length:=Nat.lt_of_lt_of_eq (Int.ofNat_lt.mp q.1) hlen
      rw[k0p (getl i _ (a0D hil)),p2s,a4P,a1B]at q
      have hs:=m2a hi (by rw[a0D hil];have:=n9 i hil;have:=q.2;simp;exact om60 this (by assumption))
      walk_at "x1"
      refine Xs.nil ?_
      exact⟨_,_,⟨l.length-(i+1),by exact om23 hil,i+1,hs,rfl,rfl,rfl⟩,⟨rfl,rfl,rfl,rfl,rfl,trivial⟩,.refl _⟩
     ·have hs:=m2b hi (fun q2=>by
       have hil:i<l.length:=(a1A.mp q2).1
       rw[k0p (getl i _ q2),p2s]at q
       simp at q;exact(om179 hil hlen q).elim)
      exact⟨_,_,⟨rfl,rfl⟩,⟨hs▸rfl,rfl,rfl,rfl,rfl,trivial⟩,.refl _⟩
    rintro σ ld ⟨rfl,rfl⟩
    show Xs _ _ _ (_::_) _
    refine Xs.cons (X1.a2 (fun n σ ld=>∃i:Nat,l.length-trail32 l<=i∧i<=l.length∧n=i∧σ=[(Str.ofString "last",.int i),(Str.ofString "first",.int (lead32 l)),(Str.ofString "behind",SB true),(Str.ofString "one",.str x),(Str.ofString "signs",SR D)]∧ld=(D,.list ((k0b us).map .str))::it)
     (fun σ ld=>σ=[(Str.ofString "last",.int (l.length-trail32 l:Nat)),(Str.ofString "first",.int (lead32 l)),(Str.ofString "behind",SB true),(Str.ofString "one",.str x),(Str.ofString "signs",SR D)]∧ld=(D,.list ((k0b us).map .str))::it) l.length ⟨_,_,⟨l.length,Nat.sub_le _ _,a0W _,rfl,rfl,rfl⟩,⟨hlen▸rfl,rfl,rfl,rfl,rfl,trivial⟩,.refl _⟩ ?_ ?_)
    ·rintro n σ ld zu;refine x1a5 zu fun i hi hi2 hn za zb=>?_;clear zu;refine eq2 za zb ?_;clear za zb
     have hc:0<i ->((i:Int)-1)=((i-1:Nat):Int):=fun _=>om53 (by assumption)
     refine⟨_,Tst.and (Tst.lt (Ev.name rfl) (Ev.name rfl)) (fun q=>by rw[a1B]at q;exact Tst.inS (Ev.a3 (Ev.name rfl) (Ev.a6 (Ev.name rfl) Ev.a1 Opr.subI) (om64 q) (om127 hlen hi2) (om51 hx4)) Ev.a0),fun q=>?_,fun q=>?_⟩
     ·rw[a2Y,a1B]at q
      have h0l:=Int.ofNat_lt.mp q.1
      have h0i:=Nat.zero_lt_of_lt h0l
      have hil:i-1<l.length:=a1C (Nat.sub_one_lt (a3E h0i)) hi2
      rw[hc h0i,k0p (getl (i-1) _ (a0D hil)),p2s,a4P,a1B]at q
      have hs:=k8x (om334 q) (om139 hil) hi (by rw[a0D hil];have:=n9 (i-1) hil;have:=q.2;simp;exact om60 this (by assumption))
      walk_at "x1"
      refine Xs.nil ?_
      exact⟨_,_,⟨i-1,by exact om172 q hn,i-1,hs,by exact om183 hil,rfl,rfl,rfl⟩,⟨(hc (om288 q))▸rfl,rfl,rfl,rfl,rfl,trivial⟩,.refl _⟩
     ·have hs:=k8y (om20 hi2) hi (fun h0 q2=>by
       have hil:i-1<l.length:=(a1A.mp q2).1
       rw[hc (om11 h0),k0p (getl (i-1) _ q2),p2s]at q
       simp at q;exact(om144 h0 q).elim)
      exact⟨_,_,⟨rfl,rfl⟩,⟨hs▸rfl,rfl,rfl,rfl,rfl,trivial⟩,.refl _⟩
    rintro σ ld ⟨rfl,rfl⟩
    show Xs _ _ _ [_] _
    have esl:Txt.slice x (some (lead32 l:Int)) (some ((l.length-trail32 l:Nat):Int))=S (k2j l):=by
     rw[k2j,<-k2m,<-hl0,k2k]
    have hcl:=k8b l
    refine Xs.cons (X1.extendS (x:=S (k2j l)) (us:=(k0b us).map .str) (Ev.name rfl) (Ev.to (Ev.a4 (Ev.name rfl) (Ev.name rfl) (Ev.name rfl) (om51 hx4)) (by rw[esl])) G.h .head (by rw[k2g,a0J,k0t];exact om125 hi hlen hp1 la hx4 hcl) ?_)
    iterate 2 refine Xs.nil ?_
    refine⟨_,_,⟨rfl,rfl⟩,⟨rfl,rfl,trivial⟩,?_⟩
    rw[k3n,a0U]
    exact .refl _
   ·have hx0:x.cps.toList=[]:=by rw[k7n]at q;simpa using q
    rw[show k0v ps x.cps.toList=ps from if_pos hx0]
    iterate 2 refine Xs.nil ?_
    exact⟨_,_,⟨rfl,rfl⟩,⟨rfl,rfl,trivial⟩,.refl _⟩
  ·rintro σ ld ⟨rfl,rfl⟩
   rw[a0J]
   refine Xs.nil ?_
   exact⟨_,_,⟨rfl,rfl⟩,⟨rfl,trivial⟩,.refl _⟩
 rintro σ ld ⟨rfl,rfl⟩
 have hok:∀c∈(sjTo xa xa.length).1,c<1114112:=fun c hc=>by have:=(m1m hasc _ c hc).2;exact om533 this
 have h0:safeL xa=scanF (sjTo xa xa.length).1.length (sjTo xa xa.length).1 false:=rfl
 have hll:=hsl xa.length
 show Xs _ _ _ (_::_) _
 rw[show m1r xa=S (safeL xa)from rfl]
 generalize safeL xa=sL at*
 generalize(sjTo xa xa.length).1=l at*;revert sL l;refine id ?_;intros
 have hl8:l.length<=802:=om395 hll la
 refine Xs.cons (X1.a0 (Ew.list (EwL.pure .nil ⟨a0R _,fun K=>?_⟩)))
 show Xs _ _ _ (_::_) _
 iterate 2 walk_at "x1"
 refine Xs.cons (X1.a2 (fun n σ ld=>∃(i:Nat) (kp:List Nat) (ow:Bool) (f:Nat),kp.length+(if ow then 1 else 0)<=i∧i<=l.length∧l.length-i<=f∧kp++scanF f (l.drop i) ow=sL∧n=l.length-i∧
   σ=[(Str.ofString "at",.int i),(Str.ofString "owed",SB ow),(Str.ofString "kept",SR K),(Str.ofString "signs",SR D)]∧ld=[(K,.list ((k0b kp).map .str)),(D,.list ((k0b l).map .str))])
  (fun σ ld=>sL.length<=900∧σ=[(Str.ofString "kept",SR K)]∧ld=[(K,.list ((k0b sL).map .str))]) l.length ⟨_,_,⟨0,[],false,l.length,a0W _,a0R _,a0W _,h0.symm,rfl,rfl,rfl⟩,⟨rfl,rfl,rfl,rfl,trivial⟩,.refl _⟩ ?_ ?_)
 ·rintro n σ ld zu;refine x4a7 zu fun i kp ow f hk hi hf hs za zb zc=>?_;clear zu;refine eq2 za zb ?_;clear za zb;obtain rfl:=zc
  refine⟨decide ((i:Int)<l.length),Tst.lt (Ev.name rfl) (Ev.to (Ev.lenL (xs:=(k0b l).map .str) G (Ev.name rfl) (Has.mem (.tail _ (.head _))) (by rw[a0J,k0t];exact om538 hl8)) (by rw[a0J,k0t])),fun q=>?_,fun q=>?_⟩
  ·have q:=of_decide_eq_true q
   have hil:i<l.length:=om36 q
   obtain⟨g,rfl⟩:∃g,f=g+1:=⟨f-1,by exact om122 hf hil⟩
   have hdr:l.drop i=l[i]::l.drop (i+1):=List.drop_eq_getElem_cons hil
   rw[hdr,scanF,<-hdr]at hs
   have he:((k0b l).take (i+7)).drop i=k0b ((l.drop i).take 7):=cut7 l i
   refine Xs.cons (X1.a4 (Tw.eqL (Ew.sliceRun (us:=(k0b l).map .str) (Ev.name rfl) (Has.mem (.tail _ (.head _))) (Ev.name rfl) (Ev.a6 (Ev.name rfl) Ev.a1 Opr.addI) om7 om527 (by rw[a0J,k0t];exact om539 hl8) fun D2=>⟨D2,k0b ((l.drop i).take 7),rfl,m1n fun c hc=>hok c (a2S (a3D hc)),Ew.list (EwL.pure (.cons Ev.a0 (.cons Ev.a0 (.cons Ev.a0 (.cons Ev.a0 (.cons Ev.a0 (.cons Ev.a0 (.cons Ev.a0 .nil))))))) ⟨by simp,fun D3=>⟨D3,k0b unkL,rfl,?_,?_,m1n (by decide),?_⟩⟩)⟩) (kb rfl)))
   ·rw[<-he,show((i:Int)+7).toNat=i+7 by exact om249,show(i:Int).toNat=i from rfl,<-a6C,<-a6D]
    exact Has.mem (.tail _ (.head _))
   ·rw[<-m7i]
    exact Has.mem (.head _)
   ·by_cases hu:(l.drop i).take 7=unkL
    ·rw[if_pos hu,List.drop_drop]at hs
     rw[if_pos (a3N (by rw[hu]))]
     have hl7:i+7<=l.length:=by have:=a3C List.length hu;simp[unkL]at this;exact om141 this
     walk_at "x1"
     iterate 2 refine Xs.nil ?_
     refine⟨_,_,⟨l.length-(i+7),by exact om189 hl7,i+7,kp,ow,g,by exact Nat.le_add_right_of_le hk,hl7,by exact om159 hf,hs,rfl,rfl,rfl⟩,⟨rfl,rfl,rfl,rfl,trivial⟩,.cons _ (.cons _ (.refl _))⟩
    ·rw[if_neg hu]at hs
     rw[if_neg (by rw[a1B,m6b];exact hu)]
     have hT:∀ {σ σ':Loc} {it:Led} {P:Fl ->Loc ->Led ->Prop},True:=trivial
     have hat:((k0b l).map SV.str)[(i:Int).toNat]?=some (.str ⟨#[l[i]]⟩):=m7x hil
     refine Xs.a0 1 (fun σ ld=>∃(kp:List Nat) (ow:Bool),kp.length+(if ow then 1 else 0)<=i+1∧kp++scanF g (l.drop (i+1)) ow=sL∧σ=[(Str.ofString "at",.int i),(Str.ofString "owed",SB ow),(Str.ofString "kept",SR K),(Str.ofString "signs",SR D)]∧ld=[(K,.list ((k0b kp).map .str)),(D,.list ((k0b l).map .str))]) ?_ ?_
     ·refine Xs.cons (X1.a1 (b:=k6f l[i]) (Tst.to (Tst.inS (Ev.a7 (Ev.name rfl) (Has.mem (.tail _ (.tail _ (.tail _ (.head _))))) (Ev.name rfl) om7 hat (om67 hil hl8)) Ev.a0) (by rw[sp_in,a4P])) (fun q2=>?_) (fun q2=>?_))
      ·rw[if_pos q2]at hs
       walk_at "x1"
       iterate 2 refine Xs.nil ?_
       exact⟨_,_,⟨kp,true,by split at hk<;>simp<;>(first|exact om48 hk|exact om477 hk),hs,rfl,rfl⟩,⟨rfl,rfl,rfl,rfl,trivial⟩,.cons _ (.cons _ (.refl _))⟩
      ·rw[if_neg (by rw[q2];decide)]at hs
       refine Xs.a0 1 (fun σ ld=>σ=[(Str.ofString "at",.int i),(Str.ofString "owed",SB false),(Str.ofString "kept",SR K),(Str.ofString "signs",SR D)]∧ld=[(K,.list ((k0b (kp++if ow then [45]else [])).map .str)),(D,.list ((k0b l).map .str))]) ?_ ?_
       ·refine Xs.cons (X1.a1 (Tst.ofB (Ev.name rfl)) (fun q3=>?_) (fun q3=>?_))
        ·rw[if_pos q3,k3n,a0U]
         refine Xs.cons (X1.append (xs:=(k0b kp).map .str) (Ev.name rfl) Ev.a0 (.tail (.tail .head)) (by rw[a0J,k0t];exact om279 hk hil hl8) ?_)
         show Xs _ _ _ [_] _
         walk_at "x1"
         iterate 2 refine Xs.nil ?_
         exact⟨_,_,⟨rfl,rfl⟩,⟨rfl,rfl,rfl,rfl,trivial⟩,.cons _ (.cons _ (.refl _))⟩
        ·rw[if_neg (by rw[q3];decide),a2O]
         iterate 2 refine Xs.nil ?_
         exact⟨_,_,⟨rfl,rfl⟩,⟨rfl,q3▸rfl,rfl,rfl,trivial⟩,.cons _ (.cons _ (.refl _))⟩
       rintro σ ld ⟨rfl,rfl⟩
       show Xs _ _ _ [_] _
       have hkl:(kp++if ow=true then [45]else []).length<=i:=by
        rw[a0Y]
        split at hk<;>simp_all
       rw[<-a6E]at hs
       generalize(kp++if ow=true then [45]else [])=kq at*;revert kq;refine id ?_;intros
       have sp:((⟨#[l[i]]⟩:Str)==Str.ofString " ")=decide (l[i]=32):=k3b _
       have hkq:((k0b kq).map SV.str).length<=10000:=by rw[a0J,k0t];exact om326 hil hl8 hkl
       refine Xs.cons (X1.appendW (xs:=(k0b kq).map .str) (sv:=.str ⟨#[if l[i]=32 then 95 else l[i]]⟩) (Ev.name rfl) (Ew.a0 (Tst.eqS (Ev.a7 (Ev.name rfl) (Has.mem (.tail _ (.head _))) (Ev.name rfl) om7 hat (om67 hil hl8)) Ev.a0) (fun q3=>Ew.pure Ev.a0 ?_) (fun q3=>Ew.pure (Ev.a7 (Ev.name rfl) (Has.mem (.tail _ (.head _))) (Ev.name rfl) om7 hat (om67 hil hl8)) ?_)) .head hkq ?_)
       ·rw[sp,a1B]at q3
        exact⟨by rw[if_pos q3];rfl,rfl⟩
       ·rw[sp,a3B]at q3
        exact⟨by rw[if_neg q3],rfl⟩
       ·iterate 2 refine Xs.nil ?_
        refine⟨_,_,⟨kq++[if l[i]=32 then 95 else l[i]],false,by simp;exact om20 hkl,by rw[<-hs];simp,rfl,rfl⟩,⟨rfl,rfl,rfl,rfl,trivial⟩,?_⟩
        rw[k3n,a0U]
        exact .refl _
     rintro σ ld zu;refine x2a4 zu fun kp ow hk hs za zb=>?_;clear zu;refine eq2 za zb ?_;clear za zb
     show Xs _ _ _ [_] _
     walk_at "x1"
     iterate 2 refine Xs.nil ?_
     exact⟨_,_,⟨l.length-(i+1),by exact om23 hil,i+1,kp,ow,g,hk,hil,by exact om156 hf,hs,rfl,rfl,rfl⟩,⟨rfl,rfl,rfl,rfl,trivial⟩,.refl _⟩
  ·have q:=a4K q
   have hil:i=l.length:=om406 hi q
   have e:kp=sL:=by rw[<-hs,hil,List.drop_length];cases f<;>simp[scanF]
   subst e
   exact⟨_,_,⟨by exact om295 hk hil hl8,rfl,rfl⟩,⟨rfl,trivial⟩,.cons_cons _ (a0X _)⟩
 ·rintro σ ld zu;refine an3 zu fun hkl za zb=>?_;clear zu;refine eq2 za zb ?_;clear za zb
  have hal:AllLen 1000 (k0b sL):=fun p hp=>by refine x1a2 (a0K.mp hp) fun c _ za=>?_;obtain rfl:=za;show(1:Nat)<=1000;decide
  show Xs _ _ _ [_] _
  refine Xs.cons (X1.ret (Ew.pure (Ev.to (Ev.a9 (ts:=k0b sL) Ev.a0 (Ev.name rfl) (Has.mem (.head _)) hal (by rw[k0t];exact p4o hkl) (by decide+kernel)) (by rw[m6o])) ?_))
  exact⟨[],⟨rfl,rfl⟩,a0X _⟩
theorem m7q {prog:Program}{w:World}{A:Around}{E:Value ->Shared ->Prop}{s:Shared}{x y:Str}{t u:Tok}{Q:Value ->Shared ->Prop}(hy:(y.length==0)=false)(hx:x.length<=10000)
  (h:∀(vs:List Value) tk,StrsAre vs (Txt.split x y) ->Q (.ref s.heap.objs.size) {s with heap:=s.heap.push (listOf vs.toArray 0),toks:=tk}):wpAny (model prog w) A (call (.builtin "str.split") [.str x t,.str y u]) Q E s:=by
 have hn:(PySem.Builtin.Str.partsBetween x (PySem.Builtin.Str.occurrences x y 0 x.length (x.length+1)) y.length).length<=sizeLine:=by
  have e1:=StrLaws.occ_length_le x y 0 x.length (x.length+1)
  rw[length_partsBetween,a1S];exact om382 e1 hx
 have go:∀(l:List (Str×Tok)) k,l.map (·.1)=Txt.split x y ->Q (.ref s.heap.objs.size) {s with heap:=s.heap.push {cls:=.type "list",data:=.seq (strValues l).toArray},toks:=k}:=fun l k e=>by
  have sa:=strsAre_of_values l
  rw[e]at sa
  exact h _ k sa
 cases h1:(decide (x.length<y.length)||decide (PySem.Builtin.Str.strKind x<PySem.Builtin.Str.strKind y))
 ·cases hf:(PySem.Builtin.Str.occurrences x y 0 x.length (x.length+1)).isEmpty
  ·refine call_meets PySem.F.slot_str_split (typeIs_str _ _ _) PySem.F.entry_str_split (PySem.F.args_str_split_2 _ _) (meets_str_split_sep x y t u h1 hy hf (by rw[a1S];exact om45 hx) hn) ?_
   show wants Q E _ {s with toks:=_,heap:=s.heap.push {cls:=.type "list",data:=.seq (strsFrom s.toks (PySem.Builtin.Str.partsBetween x (PySem.Builtin.Str.occurrences x y 0 x.length (x.length+1)) y.length)).toArray}}
   rw[strsFrom_eq]
   exact go (numbered s.toks _) _ ((numbered_texts _ _).trans ((if_neg (ne_true_of_eq_false h1)).trans (if_neg (ne_true_of_eq_false hf))).symm)
  ·exact call_meets PySem.F.slot_str_split (typeIs_str _ _ _) PySem.F.entry_str_split (PySem.F.args_str_split_2 _ _) (meets_str_split_not_found x y t u h1 hy hf)
    (go [(x,t)] s.toks ((if_neg (ne_true_of_eq_false h1)).trans (if_pos hf)).symm)
 ·exact call_meets PySem.F.slot_str_split (typeIs_str _ _ _) PySem.F.entry_str_split (PySem.F.args_str_split_2 _ _) (meets_str_split_cannot_occur x y t u h1)
   (go [(x,t)] s.toks (if_pos h1).symm)
structure Eo (C:Cx)(σ:Loc)(ld:Led)(e:Expr)(P:SV ->Led ->Prop):Prop where
 run:∀(s:Shared) (Q:Value ->Shared ->Prop) (E:Value ->Shared ->Prop),Hold C σ ld s ->(∀v sv new s',sv.is v ->P sv new ->After s s' new ->Q v s') ->wpAny (model PR C.w) C.A (eval e C.env) Q E s
theorem After.one {s s':Shared}{D:Addr}{so:SO}{o:Obj}(g:Grow s s')(n:s.heap.get? D=none)(e:s'.heap.get? D=some o)(i:so.is o):After s s' [(D,so)]:=
 ⟨g,fun p hp=>by rw[a0B.mp hp];exact⟨o,n,e,i⟩,a1L.mpr ⟨a0Z,a1U⟩⟩
section
variable {C:Cx}{σ σc:Loc}{ld ld':Led}{s s':Shared}{D l:Addr}{x y:PySem.Str}{a b c e elt iter:Expr}{pos px np ap tp sp cp py spos:Pos}{sv sa sc:SV}{xs us:List SV}{P:Fl ->Loc ->Led ->Prop}{R:SV ->Led ->Prop}{scope:Scope}{cl:List (Str×Addr)}
theorem Eo.splitS (ha:Ev C σ ld a (.str x))(hb:Ev C σ ld b (.str y))(hy:(y.length==0)=false)(hx:x.length<=10000)(r:∀D,R (SR D) [(D,.list ((Txt.split x y).map .str))]){pl:Sem Bool}
  (he:autoParam (eval (.Call (.Attribute a (Str.ofString "split") ap) [b] [] pos) C.env=(do
   let ov <-eval a C.env
   standAt ap.atName
   let(f,first) <-holding [ov] (getMethod ov (Str.ofString "split") pl)
   callWith pos f first (backTo pos (starEach [b] C.env)) [])) aR)
  (hs:autoParam (starEach [b] C.env=(false,eval b C.env)::starEach [] C.env) aR):Eo C σ ld (.Call (.Attribute a (Str.ofString "split") ap) [b] [] pos) R:=.mk fun s Q E H k=>by
 refine MethodCall_ (ha.run s _ _ H fun v s' g hv=>?_) he
 obtain⟨h1,h2⟩:=TyIs.str v s' hv (H.go g)
 refine a6A h1 PySem.F.plainAttrs_str PySem.F.slot_str_split PySem.F.type_str_split h2 ?_
 refine a6O (by rw[hs];rfl) ?_
 have hq:wpAny (model PR C.w) C.A (spliced (backTo pos (starEach [b] C.env))) (fun vs B1=>wpAny (model PR C.w) C.A (call (.builtin "str.split") (v::vs)) Q E B1) E s':=a2J (hb.run s' _ _ (H.go g) fun v2 s'' g' hv2=>a4D (by
  obtain⟨t,rfl⟩:=hv
  obtain⟨u,rfl⟩:=hv2
  refine m7q hy hx fun vs tk sa=>?_
  exact k _ (SR _) _ _ rfl (r _) (.one ((g.trans g').trans (.of fun b o e=>a0C _ e)) (k0e (g.trans g').keep (k0h _)) (a0I _ rfl) ⟨vs,0,rfl,.ofStrs sa⟩))) hs
 rw[hs]at hq⊢
 exact a5N hq
theorem Eo.comp {px:Pos}{ifs:List Expr}{p:SV ->Bool}{f:SV ->SV}(hsrc:Src C σ ld iter xs)(c:CompOk C σ ld scope cl σc x ifs elt xs p f)(hP:∀D,R (SR D) [(D,.list ((xs.filter p).map f))])
  (hcell:autoParam (∀z∈scope.names,z.2≠ .cell) aD)(hkind:autoParam (scope.kind=.function) aR)
  (hnames:autoParam (∀z∈scope.names,z.2=.local ->scope.names.lookup z.1=some .local) aD)(hx:autoParam (scope.names.lookup x=some .local) aR)
  (hs:autoParam (∀x,foldedSetIterable iter C.env x=Pure.pure x) aI):Eo C σ ld (.ListComp elt [⟨.Name x px,iter,ifs,0⟩] scope pos) R:=.mk fun s Q E H k=>by
 refine wpAny_ListComp_free (cl:=cl) (pvOf xs p) (fun v y=>∃a∈xs,a.is v∧(f a).is y) c.cap.clos hcell hkind hnames hx (hsrc.run s _ E H fun it B0 hS=>?_) hs
 refine x5a8 hS fun I fp wr Pi St za W hl hst hfp hw hPi g=>?_;clear hS;obtain rfl:=za
 refine⟨I,fp,wr,xs.length,Pi,St,rfl,W,by rw[a1S];have:=c.size;exact om45 this,hst,hfp,c.quiet H g hw hPi,fun D h' tk ys vs hD hL hpl hlen hPv hF hk=>?_⟩
 have kk:∀b o,s.heap.get? b=some o ->h'.get? b=some o:=fun b o e=>hk b o (fun q=>by rw[hw b q]at e;cases e) (g.keep b o e)
 obtain⟨e,hpl⟩:=hpl
 obtain⟨_,B3,F6,rfl⟩:=id g
 have hA:Are xs vs:=Are.ofGet hlen fun i v hv=>hPi i v (hPv i v hv)
 exact k _ (SR D) _ {s with heap:=h',toks:=tk} rfl (hP D) (.one (.of kk) (k0e g.keep hD) hpl ⟨ys.toList,e,by simp,Are.pairF c.plain (k7h c.plain) (fun _ h=>h) hA hF⟩)
noncomputable def k7u (ls:List Addr)(gs:List (List SV)):Led:=(ls.zip gs).map fun q=>(q.1,SO.list q.2)
theorem k4v {ls:List Addr}{gs:List (List SV)}{i:Nat}{l:Addr}{g:List SV}(h1:ls[i]?=some l)(h2:gs[i]?=some g):(l,SO.list g)∈k7u ls gs:=
 a0K.mpr ⟨(l,g),a1D (a6N.mpr ⟨h1,h2⟩),rfl⟩
theorem m9y {px:Pos}{g:SV ->List SV}{I:Value}{B0:Shared}{E:Value ->Shared ->Prop}{RR:Value ->Addr ->Result ->Shared ->Prop}(H:Hold C σ ld s)(hS:SrcAt C s xs I B0)(cap:CapOk C scope cl σ σc)(kx:∀B,(compEnvC scope cl B C.env).kindOf x=some .local)(size:xs.length<=10000)
  (helt:∀a∈xs,∀B s,Eo (blk C scope cl B s) ((x,a)::σc) ld elt fun sv new=>∃D,sv=SR D∧new=[(D,.list (g a))])
  (hcell:∀z∈scope.names,z.2≠ .cell)(hkind:scope.kind=.function)
  (hRR:∀D B h' tk m' e (ls:List Addr),s.heap.get? D=none ->B0.heap.get? B=none ->D≠B ->h'.Ns B m' ->h'.get? D=some (listOf (ls.map Value.ref).toArray e) ->ls.length=xs.length ->ls.Nodup ->
   (∀(j:Nat) (l:Addr),ls[j]?=some l ->∃a o,xs[j]?=some a∧h'.get? l=some o∧(SO.list (g a)).is o∧s.heap.get? l=none∧l≠D∧l≠B) ->(∀b o,s.heap.get? b=some o ->h'.get? b=some o) ->RR (.ref D) B (.ok .next) {s with heap:=h',toks:=tk}):
  wpAny (model PR C.w) C.A (newList []) (fun acc B5=>wpAny (model PR C.w) C.A (newFunctionEnv scope C.env.globals cl [] C.env.qual none .none (some C.env)) (fun cenv C4=>
   codeAny (model PR C.w) C.A (.compStart (.ListComp elt [⟨.Name x px,iter,[],0⟩] scope pos) 0 I acc {cenv with scope:=relabel scope C.env}) (RR acc cenv.locals) C4) E B5) E B0:=by
 refine x5a8 hS fun I fp wr Pi St za W hl hst hfp hw hPi gr=>?_;clear hS;obtain rfl:=za
 refine a2U (a6I hcell (by intro y hy;simp at hy) (fun B2 hns1 hsb1=>?_) hkind)
 dsimp only at hns1 hsb1⊢
 generalize hH2:B0.heap.push {cls:=.type "list",dict:=none,data:=.seq ([]:List Value).toArray}=H2 at hns1 hsb1⊢;revert H2;refine id ?_;intros
 have hC:H2.objs.size=B0.heap.objs.size+1:=by rw[<-hH2,a1Q]
 generalize hB:H2.objs.size=B at hns1 hsb1⊢
 generalize hD:B0.heap.objs.size=D at*;revert B D;refine id ?_;intros
 have hDB:D≠B:=by rw[<-hB,hC];exact a0S (a2B _)
 have lt2:∀b o,B0.heap.get? b=some o ->b<D:=fun b o e=>hD▸a0M e
 have ltB:∀b o,B0.heap.get? b=some o ->b<B:=fun b o e=>Nat.lt_trans (lt2 b o e) (by rw[<-hB,hC];exact a2B _)
 have hDf:D∉fp:=fun hm=>a1R _ (hfp _ hm)
 have hBf:B∉fp:=fun hm=>by have:=hfp _ hm;rw[<-hB,hC]at this;exact a1R _ (Nat.lt_of_succ_lt this)
 have nB:B0.heap.get? B=none:=by
  cases q:B0.heap.get? B with
  |none=>rfl
  |some o=>exact absurd (ltB B o q) (a1R _)
 have nD:B0.heap.get? D=none:=by
  cases q:B0.heap.get? D with
  |none=>rfl
  |some o=>exact absurd (lt2 D o q) (a1R _)
 have old:∀b o,B0.heap.get? b=some o ->B2.get? b=some o:=fun b o e=>hsb1.extBut b o (a0S (ltB b o e)) (a0C _ (hH2▸a0C _ e))
 have hacc:B2.get? D=some (listOf #[] 0):=hsb1.extBut _ _ hDB (a0C _ (hH2▸hD▸a0I _ rfl))
 have hst1:St 0 B2:=W.frame _ _ _ hst fun b _ o e=>old b o e
 have kB:(compEnvC scope cl B C.env).scope.kind=.function:=by simp[compEnvC,relabel,hkind]
 have hDw:D∉wr:=fun q=>hDf (W.sub _ q)
 have hBw:B∉wr:=fun q=>hBf (W.sub _ q)
 have loop:∀B5:Shared,B5={B0 with heap:=B2,toks:=B0.toks+([]:List (Str×Value)).length} ->
   codeAny (model PR C.w) C.A (.compLoop (.ListComp elt [⟨.Name x px,iter,[],0⟩] scope pos) 0 (.ref I) (.ref D) (compEnvC scope cl B C.env)) (RR (.ref D) B) B5:=by
  rintro B5 rfl
  refine codeAny_compLoop_tests (fun n s'=>∃(ls:List Addr) (h:Heap) (tk:Tok) (m:Str ->Option Value) (e:Nat),ls.length<=xs.length∧s'={B0 with heap:=h,toks:=tk}∧(∀b o,b∉wr ->B0.heap.get? b=some o ->h.get? b=some o)∧h.Ns B m∧h.get? D=some (listOf (ls.map Value.ref).toArray e)∧ls.Nodup∧
   (∀(j:Nat) (l:Addr),ls[j]?=some l ->∃a o,xs[j]?=some a∧h.get? l=some o∧(SO.list (g a)).is o∧B0.heap.get? l=none∧l≠D∧l≠B∧l∉wr)∧St ls.length h∧n=xs.length+1-ls.length) ?_ (xs.length+1)
   ⟨[],B2,_,_,0,a0R _,rfl,fun b o _ e=>old b o e,hns1,hacc,a1U,(fun j l h=>by simp at h),hst1,rfl⟩
  rintro n s' zu;refine x5a9 zu fun ls h tk' m e hi za hk hn hd hnd hls hsti zb=>?_;clear zu;refine eq2 za zb ?_;clear za zb
  have keepS:∀ {h':Heap},(∀b o,b∉wr ->B0.heap.get? b=some o ->h'.get? b=some o) ->∀b o,s.heap.get? b=some o ->h'.get? b=some o:=fun hk b o e=>hk b o (fun q=>by rw[hw b q]at e;cases e) (gr.keep b o e)
  by_cases hlt:ls.length<xs.length
  ·refine W.item ls.length _ _ _ hlt hsti fun v h2 tk2 hPv hst2 hk2=>?_
   refine x1a2 (hPi _ v hPv) fun a ha hav=>?_
   have ham:=a1D ha
   have hn2:h2.Ns B m:=hn.at' fun o e=>hk2 _ o hBw e
   refine wpAny_assign_Name (env:=compEnvC scope cl B C.env) (a2M (kx B) hn2 (fun h3 hn3 hs3=>?_) (by rw[kB];rfl))
   have up3:∀b o,b≠B ->b∉wr ->h.get? b=some o ->h3.get? b=some o:=fun b o hb hbw e=>hs3.extBut b o hb (hk2 b o hbw e)
   rw[List.forIn_nil]
   refine a0F ?_
   simp only[a4Q]
   have hs4:∀c o,c∉wr ->B0.heap.get? c=some o ->h3.get? c=some o:=fun c o hc e=>up3 c o (a0S (ltB c o e)) hc (hk c o hc e)
   have H4:=H.blk (s':={B0 with heap:=h3,toks:=tk2+1}) cap (keepS hs4) hn3 (fun c o e=>ltB c o (gr.keep c o e)) (if_pos rfl) hav (kx B)
   have hst3:St (ls.length+1) h3:=W.frame _ _ _ hst2 fun b hb o e=>hs3.extBut b o (fun q=>hBf ((show b=B from q)▸hb)) e
   refine(helt a ham B _).run _ _ _ H4 fun y sv new s5 hy hp A=>?_
   refine x1a2 hp fun T za zb=>?_;clear hp;obtain rfl:=za;obtain rfl:=zb
   obtain rfl:=hy
   refine x1a3 (A.led _ (.head _)) fun oT hT0 hT hTi=>?_
   obtain⟨k5,h5,t5,rfl⟩:=A.g
   have hT0:h3.get? T=none:=hT0
   have nT:∀b o,h3.get? b=some o ->b≠T:=fun b o e q=>by rw[q,hT0]at e;cases e
   have hD3:h3.get? D=_:=up3 D _ hDB hDw hd
   have hTD:T≠D:=fun q=>nT _ _ hD3 q.symm
   have hTB:T≠B:=fun q=>by refine x3a2 hn3 fun _ _ _ ho _=>?_;exact nT _ _ ho q.symm
   have hTw:T∉wr:=fun q=>by obtain⟨o,ho⟩:=hl _ _ hst3 T q;exact nT _ _ ho rfl
   have hTs:B0.heap.get? T=none:=by
    cases q:B0.heap.get? T with
    |none=>rfl
    |some o=>exact absurd rfl (nT _ _ (hs4 T o hTw q))
   refine append_at (k5 _ _ hD3) (fun h6 hs6 hd6=>?_) (by rw[a1S,a1M,a0J];exact om405 hlt size)
   refine⟨xs.length+1-(ls.length+1),by exact om3 hlt,ls++[T],h6,t5,_,e+1,by simp;exact om168 hlt,rfl,fun c o hc e=>hs6.extBut c o (a0S (lt2 c o e)) (k5 c o (hs4 c o hc e)),(hn3.keeps k5).sameBut hs6 (Ne.symm hDB),?_,?_,fun j l hj=>?_,?_,by simp⟩
   ·rw[hd6];simp
   ·rw[a1E]
    refine⟨hnd,a1L.mpr ⟨a0Z,a1U⟩,fun a ha b hb q=>?_⟩
    obtain⟨j,hj⟩:=a4U ha
    refine x2a7 (hls j a hj) fun _ o _ h1 _ _ _ h2 h3=>?_
    exact nT _ _ (up3 a o h2 h3 h1) (q.trans (a0B.mp hb))
   ·rcases Nat.lt_or_ge j ls.length with hj'|hj'
    ·rw[a4A hj']at hj
     refine x2a7 (hls j l hj) fun a' o h1 h2 h3 h4 h5 h6 h7=>?_
     exact⟨a',o,h1,hs6.extBut l o h5 (k5 l o (up3 l o h6 h7 h2)),h3,h4,h5,h6,h7⟩
    ·rw[a2C hj']at hj
     have:j-ls.length=0:=by
      rcases Nat.eq_zero_or_pos (j-ls.length)with h|h
      ·exact h
      ·rw[a4O (by simp;exact Nat.one_le_of_lt h)]at hj;cases hj
     rw[this]at hj
     obtain rfl:T=l:=by simpa using hj
     have ej:j=ls.length:=om286 this hj'
     exact⟨a,oT,ej▸ha,hs6.extBut T oT hTD hT,hTi,hTs,hTD,hTB,hTw⟩
   ·rw[a0Y]
    exact W.frame _ _ _ hst3 fun c hc o e=>hs6.extBut c o (fun q=>hDf (q▸hc)) (k5 c o e)
  ·have hin:ls.length=xs.length:=om22 hi hlt
   rw[hin]at hsti
   refine W.done _ _ _ hsti fun h2 tk2 hk2=>?_
   obtain⟨_,h0,t0,rfl⟩:=id gr
   exact hRR D B h2 tk2 m e ls (k0e gr.keep nD) nB hDB (hn.at' fun o e=>hk2 _ o hBw e) (hk2 _ _ hDw hd) hin hnd (fun j l hj=>x2a7 (hls j l hj) fun a o h1 h2' h3 h4 h5 h6 h7=>⟨a,o,h1,hk2 l o h7 h2',h3,k0e gr.keep h4,h5,h6⟩) (keepS fun c o hc e=>hk2 c o hc (hk c o hc e))
 exact codeAny_compStart_list (loop _ rfl) (W.self 0 _ _ _ hst1 (loop _ rfl))
theorem m5m:∀ls:List Addr,Are (ls.map SR) (ls.map Value.ref)
 | []=>.nil
 |_::ls=>.cons rfl (m5m ls)
theorem Hold.objs {h':Heap}{tk:Tok}{B:Addr}{e:Nat}{ls:List Addr}{gs:List (List SV)}(H:Hold C σ ld s)(hD:s.heap.get? D=none)(hd:h'.get? D=some (listOf (ls.map Value.ref).toArray e))(hlen:ls.length=gs.length)(hnd:ls.Nodup)
  (hls:∀(j:Nat) (l:Addr),ls[j]?=some l ->∃g o,gs[j]?=some g∧h'.get? l=some o∧(SO.list g).is o∧s.heap.get? l=none∧l≠D)(kk:∀b o,s.heap.get? b=some o ->h'.get? b=some o):After s {s with heap:=h',toks:=tk} ((D,.list (ls.map SR))::k7u ls gs):=by
 have fst:(k7u ls gs).map (·.1)=ls:=by
  unfold k7u
  rw[a1X]
  exact List.map_fst_zip (a4L hlen)
 refine⟨.of kk,fun p hp=>?_,?_⟩
 ·rcases a0G.mp hp with rfl|hp
  ·exact⟨_,hD,hd,ls.map Value.ref,e,rfl,m5m ls⟩
  ·refine x1a2 (a0K.mp hp) fun za hq zb=>?_;obtain⟨l,g⟩:=za;obtain rfl:=zb
   obtain⟨j,hj⟩:=a4U hq
   obtain⟨h1,h2⟩:=a6N.mp hj
   refine x2a5 (hls j l h1) fun g' o h3 h4 h5 h6 _=>?_
   rw[h2]at h3;cases h3
   exact⟨o,h6,h4,h5⟩
 ·rw[a0P,fst,a1L]
  refine⟨fun q=>?_,hnd⟩
  obtain⟨j,hj⟩:=a4U q
  refine x2a5 (hls j D hj) fun _ _ _ _ _ _ h=>?_
  exact h rfl
theorem X1.asgO {px:Pos}{g:SV ->List SV}(hsrc:Src C σ ld iter xs)(cap:CapOk C scope cl σ σc)(kx:∀B,(compEnvC scope cl B C.env).kindOf x=some .local)(size:xs.length<=10000)
  (helt:∀a∈xs,∀B s,Eo (blk C scope cl B s) ((x,a)::σc) ld elt fun sv new=>∃D,sv=SR D∧new=[(D,.list (g a))])
  (hP:∀D ls,ls.length=xs.length ->ls.Nodup ->P .next ((y,SR D)::σ) ((D,.list (ls.map SR))::k7u ls (xs.map g)++ld))
  (hcell:autoParam (∀z∈scope.names,z.2≠ .cell) aD)(hkind:autoParam (scope.kind=.function) aR)
  (hnames:autoParam (∀z∈scope.names,z.2=.local ->scope.names.lookup z.1=some .local) aD)
  (hy:autoParam (C.env.kindOf y=some .local) aR)(hp:autoParam ((C.env.scope.kind==.class|| (C.env.scope.kind==.module&&C.env.locals !=C.env.globals))=false) aR)
  (hsw:autoParam (swapsWith (.ListComp elt [⟨.Name x px,iter,[],0⟩] scope pos) (some (.Name y py)) spos.line C.env=Pure.pure true) aR)
  (hs:autoParam (∀x,foldedSetIterable iter C.env x=Pure.pure x) aI):X1 C σ ld (.Assign [.Name y py] (.ListComp elt [⟨.Name x px,iter,[],0⟩] scope pos) spos) P:=.mk fun s Q E H k=>by
 rw[exec_Assign_Name_used _ _ _ _ hsw]
 refine a0A (a3P (a0A ?_))
 show wpAny _ C.A (do let _ <-comprehension (.ListComp elt [⟨.Name x px,iter,[],0⟩] scope pos) scope C.env _ (newList []) false (eval iter C.env) (some (assign (.Name y py) C.env))) _ _ s
 refine a0A (a2L (wpAny_comprehension_free (use:=some (assign (.Name y py) C.env)) (Q:=fun _ s'=>Q .next s') rfl hs cap.clos hkind hnames
  (hsrc.run s _ E H fun it B0 hS=>?_)) (fun _ s' hq=>a0F (a0F hq)) fun _ _ e=>e)
 refine m9y (RR:=fun acc B=>compPost (model PR C.w) C.A E (some (assign (.Name y py) C.env)) (fun _ s'=>Q .next s') acc B) H hS cap kx size helt hcell hkind ?_
 intro D B h' tk m' e ls hD hB hDB hnB hd hlen hnd hls kk
 refine x5a8 hS fun I fp wr Pi St za W hl hst hfp hw hPi gr=>?_;clear hS;obtain rfl:=za
 have hB0:=k0e gr.keep hB
 have hls':∀(j:Nat) (l:Addr),ls[j]?=some l ->∃gg o,(xs.map g)[j]?=some gg∧h'.get? l=some o∧(SO.list gg).is o∧s.heap.get? l=none∧l≠D:=fun j l hj=>by
  refine x2a6 (hls j l hj) fun a o h1 h2 h3 h4 h5 _=>?_
  exact⟨g a,o,by rw[a0T,h1];rfl,h2,h3,h4,h5⟩
 have A:=Hold.objs (B:=B) (tk:=tk) H hD hd (by rw[a0J,hlen]) hnd hls' kk
 have H1:=H.call A
 refine x1a2 H1.fr fun m F r=>?_
 obtain⟨oL,hL⟩:=H.loc
 have hLB:C.env.locals≠B:=by rintro q;rw[q]at hL;rw[hB0]at hL;cases hL
 show wpAny _ C.A (assign (.Name y py) C.env (.ref D)) _ _ _
 refine wpAny_assign_Name (a2M hy F.ns (fun B3 C1 B8=>?_) hp)
 refine⟨m',hnB.sameBut B8 (Ne.symm hLB),fun B7 C9=>?_⟩
 have H2:=H1.put F r hy (sv:=SR D) (v:=.ref D) rfl B8 C1 (tk:=tk+1)
 have nB:∀b o,((b,o)∈((D,SO.list (ls.map SR))::k7u ls (xs.map g)++ld)) ->b≠B:=by
  intro b so hb q
  subst q
  rcases a0V.mp hb with hb|hb
  ·rcases a0G.mp hb with hb|hb
   ·cases hb;exact hDB rfl
   ·refine x1a2 (a0K.mp hb) fun za hq e2=>?_;obtain⟨l,gg⟩:=za
    obtain⟨j,hj⟩:=a4U hq
    obtain⟨h1,_⟩:=a6N.mp hj
    refine x2a6 (hls j l h1) fun _ _ _ _ _ _ _ h=>?_
    injection e2 with e3 _
    exact h e3
  ·refine x1a2 (H.led _ hb) fun o e2 _=>?_
   rw[show(b,so).1=b from rfl,hB0]at e2;cases e2
 refine k .next .next _ _ {s with heap:=B7,toks:=tk+1} rfl (hP D ls hlen hnd) ?_
 refine x1a2 H2.fr fun m4 F4 r4=>?_
 have up:∀b o,b≠B ->B3.get? b=some o ->B7.get? b=some o:=fun b o hb e=>C9.extBut b o hb e
 refine⟨⟨m4,⟨F4.ns.sameBut C9 hLB,fun b o e=>up b o (fun q=>?_) (F4.keep b o e),F4.above⟩,fun z sv ez=>?_⟩,fun p hp=>?_,fun p hp=>?_,H2.nodup,C.ok _ _ _ H.rest⟩
 ·refine x1a2 H.fr fun m0 F0 _=>?_
  have:=F0.keep b o e
  rw[q,hB0]at this;cases this
 ·refine x1a2 (r4 z sv ez) fun v hv q=>?_
  refine⟨v,hv,?_⟩
  rcases q with q| ⟨q,c,oc,e1,e2,e3⟩
  ·exact .inl q
  ·refine .inr ⟨q,c,oc,e1,up _ _ (fun q=>?_) e2,e3⟩
   refine x2a2 (H.cel _ (k0a e1)) fun o v a _=>?_
   rw[show((z,c):Str×Addr).2=c from rfl,q,hB0]at a;cases a
 ·refine x1a2 (H2.led p hp) fun o a b=>?_
  exact⟨o,up _ _ (nB p.1 p.2 hp) a,b⟩
 ·refine x2a2 (H2.cel p hp) fun o v a b=>?_
  refine⟨o,v,up _ _ (fun q=>?_) a,b⟩
  refine x2a2 (H.cel p hp) fun o' v' a' _=>?_
  rw[q,hB0]at a';cases a'
end
section
variable {prog:Program}{w:World}{A:Around}{E:Value ->Shared ->Prop}{s:Shared}
theorem m2g {Q:Int ->Shared ->Prop}(h:Q 1 {s with toks:=s.toks+1}):wpAny (model prog w) A (pyHash (.bool true)) Q E s:=by
 have hT:s.TypeIs (.bool true) "bool":=rfl
 unfold pyHash
 have hv:[Value.bool true].any Value.onHeap=false:=rfl
 refine a0A ?_
 rw[cRoomFor,if_neg (by rw[hv];exact a2W)];refine a0F ?_
 refine a0A (a4B hT PySem.F.slot_bool_hash.lookup ?_)
 show wpAny _ _ (if(some (Value.builtin "int.__hash__")==some Value.none)=true then _ else _) Q E s
 rw[if_neg (by rw[beq_builtin_none];exact a2W)]
 refine a0A (a4B hT PySem.F.slot_bool_hash.lookup ?_)
 show wpAny _ _ (callSpecialIfBoundUnlessNone? (.bool true) "__hash__" _>>=_) Q E s
 refine a0A (wpAny_callSpecialIfBoundUnlessNone?_slot hT PySem.F.slot_bool_hash
  (a2E PySem.F.slot_bool_hash hT PySem.F.entry_int_hash ?_ (PySem.F.args_int_hash_1 _)))
 wp_walk
 exact⟨_,rfl,a0F h⟩
theorem p2j {Q:Bool ->Shared ->Prop}(h:Q true s):wpAny (model prog w) A (eqBool (.bool true) (.bool true)) Q E s:=by
 unfold eqBool
 refine a1O ?_
 rw[if_pos (show(Value.bool true==Value.bool true)=true by decide)]
 exact a0A (a5Y (a0F h))
noncomputable abbrev set0 (led:Bool):Obj:={cls:=.type "set",dict:=none,data:=.set #[] 0 (.fresh 0 0 led)}
noncomputable abbrev set1 (led:Bool):Obj:={cls:=.type "set",dict:=none,data:=.set #[(1,.bool true)] 1 ⟨7,#[1],#[],0,led,0,true⟩}
theorem p4x {Q:Value ->Shared ->Prop}(h:Q (.ref s.heap.objs.size) {s with heap:=s.heap.push (set0 (!w.params.followText "set-order"))}):wpAny (model prog w) A (newSet (.type "set")) Q E s:=by
 unfold newSet setsByText
 refine a0A (a0A (a4E (a0F ?_)))
 dsimp only
 simp only[newObj]
 exact a0A (wpAny_alloc (a0F h))
theorem k9e {a:Addr}{o:Obj}(ho:s.heap.get? a=some o)(hc:o.cls=.type "set"):s.TypeIs (.ref a) "set":=⟨o,ho,hc⟩
theorem p0q {a:Addr}{led:Bool}{Q:Value ->Shared ->Prop}(ho:s.heap.get? a=some (set0 led))(h:∀h',Heap.SameBut a s.heap h' ->h'.get? a=some (set1 led) ->Q .none {s with heap:=h',toks:=s.toks+1}):
  wpAny (model prog w) A (call (.builtin "set.add") [.ref a,.bool true]) Q E s:=by
 refine a2E PySem.F.slot_set_add (k9e ho rfl) PySem.F.entry_set_add ?_ (PySem.F.args_set_add_2 _ _)
 unfold Builtin.«set.add» Builtin.Frozenset.oneOther
 simp only[List.isEmpty_nil,bind_assoc]
 unfold Builtin.Frozenset.addrOf setAdd
 refine a0A (a0F ?_)
 try dsimp only
 refine a0A (a0F ?_)
 try dsimp only
 refine a0A ?_
 refine a1O ?_
 refine a0A (m2g ?_)
 unfold setAddHashed setAddHashedIn
 refine a1O (a0A (a4V ho rfl rfl ?_))
 dsimp only
 have hb:byScan (.bool true) #[]=true:=by decide+kernel
 rw[if_pos hb]
 unfold setAddByScan
 refine a0A (a0A (a5Y ?_))
 refine a0A (a0F (a:=ScanMet.absent) ?_)
 have hL:layNew (.fresh 0 0 led) #[] 1 (.bool true)=(#[(1,.bool true)],⟨7,#[1],#[],0,led,0,true⟩,false,false):=by cases led<;>decide+kernel
 rw[hL]
 dsimp only
 refine a0A (m:=pure ()) (a0F ?_)
 simp only[a4Q]
 rw[hashByValue_scannable 8 (x:=.bool true) rfl]
 refine a0A (a0F ?_)
 rw[if_pos (show plainKind (.bool true)=true from rfl)]
 refine a0A (wpAny_storeSet_of (o:=set0 led) ho rfl ?_ (by rw[a1S];decide))
 have e:(s.heap.update a (Obj.putSet #[(1,.bool true)] ⟨7,#[1],#[],0,led,0,true⟩)).get? a=some (set1 led):=by
  rw[a1G _ ho rfl];rfl
 have ht:(!false&& (⟨7,#[1],#[],0,led,0,true⟩:SetTable).tooFull)=false:=by cases led<;>decide+kernel
 rw[if_neg (by rw[ht];decide)]
 refine a0F (a0F ?_)
 show wpAny _ _ (ret Value.none) _ _ _
 exact a0F ⟨_,rfl,h _ (a5H ..) e⟩
theorem p0r {a:Addr}{led:Bool}{Q:Value ->Shared ->Prop}(ho:s.heap.get? a=some (set1 led))(h:Q .none {s with toks:=s.toks+1}):
  wpAny (model prog w) A (call (.builtin "set.add") [.ref a,.bool true]) Q E s:=by
 refine a2E PySem.F.slot_set_add (k9e ho rfl) PySem.F.entry_set_add ?_ (PySem.F.args_set_add_2 _ _)
 unfold Builtin.«set.add» Builtin.Frozenset.oneOther
 simp only[List.isEmpty_nil,bind_assoc]
 unfold Builtin.Frozenset.addrOf setAdd
 refine a0A (a0F ?_)
 try dsimp only
 refine a0A (a0F ?_)
 try dsimp only
 refine a0A ?_
 refine a1O ?_
 refine a0A (m2g ?_)
 unfold setAddHashed setAddHashedIn
 refine a1O (a0A (a4V (o:=set1 led) ho rfl rfl ?_))
 dsimp only
 have hb:byScan (.bool true) #[(1,.bool true)]=true:=by decide+kernel
 rw[if_pos hb]
 unfold setAddByScan
 refine a0A (a0A (a5Y ?_))
 refine a0A ?_
 show wpAny _ _ (setEpoch a>>=fun before=>eqBool (.bool true) (.bool true)>>=_) _ _ _
 refine a0A (wpAny_setEpoch_of (o:=set1 led) ho rfl rfl ?_)
 refine a0A (p2j ?_)
 rw[if_pos rfl]
 refine a0F (a0F (a0F ?_))
 show wpAny _ _ (ret Value.none) _ _ _
 exact a0F ⟨_,rfl,h⟩
end
theorem slot_seti_next:Slot "set_iterator" "__next__" "set_iterator.__next__":=
 .of (owner:="set_iterator") (n:="__next__") (by rw[a3Q,a2N];kernel_rfl) (by decide+kernel) (by decide+kernel) (by decide+kernel)
  (by first|exact .inl (by decide+kernel)|exact .inr (by decide+kernel)) (by rw[a2I];kernel_rfl)
theorem k3g:entryFor table "set_iterator.__next__"=some Builtin.«set_iterator.__next__» :=entryFor_of_tree (by kernel_rfl)
theorem k8q:entryFor table "set.__iter__"=some Builtin.«frozenset.__iter__» :=
 entryFor_alias (id':="frozenset.__iter__") (by rw[fastTable_eq_tree];kernel_rfl) (by first|rfl|decide+kernel) (by decide+kernel) (by rw[fastTable_eq_tree];kernel_rfl)
theorem k3y (a:Value):argsOk "set_iterator.__next__" ⟨[a],[]⟩:=by
 unfold argsOk;kernel_rfl
section
variable {prog:Program}{w:World}{A:Around}{E:Value ->Shared ->Prop}{s:Shared}
noncomputable abbrev ledW (w:World):Bool:= !w.params.followText "set-order"
set_option tactic.hygienic true in
theorem k9x {a:Addr}{Q:Option (Value×Nat) ->Shared ->Prop}(ho:s.heap.get? a=some (set1 (ledW w)))(h:Q (some (.bool true,if ledW w then 2 else 0)) s):wpAny (model prog w) A (setNext a 0 0 1) Q E s:=by
 unfold setNext
 refine a0A (a4V (o:=set1 (ledW w)) ho rfl rfl ?_)
 dsimp only
 unfold setsByText
 refine a0A (a0A (a4E (a0F ?_)))
 dsimp only
 cases hb:w.params.followText "set-order" with
 |true=>
  have hw:ledW w=false:=by unfold ledW;rw[hb];rfl
  rw[hw]at h ho
  rw[if_pos (show(model prog w).w.params.followText "set-order"=true from hb),if_neg (by decide)]
  unfold setWalk
  refine a0A (a0A (a4V (o:=set1 false) ho rfl rfl ?_))
  dsimp only
  unfold setsByText
  refine a0A (a0A (a4E (a0F ?_)))
  dsimp only
  rw[if_pos (show(model prog w).w.params.followText "set-order"=true from hb)]
  refine a0A (a4E (a0F ?_))
  have e:pickOrder (w.params.setOrder a 1) #[((1:Int),Value.bool true)]= #[(1,.bool true)]:=by
   show pickOrder.go _ 1 0 [((1:Int),Value.bool true)] #[]=_
   unfold pickOrder.go
   rw[show w.params.setOrder a 1 0% [((1:Int),Value.bool true)].length=0 from Nat.mod_one _]
   rfl
  rw[show(model prog w).w.params=w.params from rfl,e]
  exact a0F h
 |false=>
  have hw:ledW w=true:=by unfold ledW;rw[hb];rfl
  rw[hw]at h⊢
  rw[if_neg (show¬(model prog w).w.params.followText "set-order"=true by rw[show(model prog w).w=w from rfl,hb];decide)]
  split
  ·rename_i q;exact absurd q a2W
  refine a0A (m:=pure ()) (a0F ?_)
  exact a0F h
set_option tactic.hygienic true in
theorem m1p {a:Addr}{Q:Option (Value×Nat) ->Shared ->Prop}(ho:s.heap.get? a=some (set1 (ledW w)))(h:Q none s):wpAny (model prog w) A (setNext a (if ledW w then 2 else 0) 1 1) Q E s:=by
 unfold setNext
 refine a0A (a4V (o:=set1 (ledW w)) ho rfl rfl ?_)
 dsimp only
 unfold setsByText
 refine a0A (a0A (a4E (a0F ?_)))
 dsimp only
 cases hb:w.params.followText "set-order" with
 |true=>
  have hw:ledW w=false:=by unfold ledW;rw[hb];rfl
  rw[hw]at ho
  rw[if_pos (show(model prog w).w.params.followText "set-order"=true from hb),if_neg (by decide)]
  unfold setWalk
  refine a0A (a0A (a4V (o:=set1 false) ho rfl rfl ?_))
  dsimp only
  unfold setsByText
  refine a0A (a0A (a4E (a0F ?_)))
  dsimp only
  rw[if_pos (show(model prog w).w.params.followText "set-order"=true from hb)]
  refine a0A (a4E (a0F ?_))
  have e:pickOrder (w.params.setOrder a 1) #[((1:Int),Value.bool true)]= #[(1,.bool true)]:=by
   show pickOrder.go _ 1 0 [((1:Int),Value.bool true)] #[]=_
   unfold pickOrder.go
   rw[show w.params.setOrder a 1 0% [((1:Int),Value.bool true)].length=0 from Nat.mod_one _]
   rfl
  rw[show(model prog w).w.params=w.params from rfl,e]
  exact a0F h
 |false=>
  have hw:ledW w=true:=by unfold ledW;rw[hb];rfl
  rw[hw]
  rw[if_neg (show¬(model prog w).w.params.followText "set-order"=true by rw[show(model prog w).w=w from rfl,hb];decide)]
  split
  ·rename_i q;exact absurd q a2W
  refine a0A (m:=pure ()) (a0F ?_)
  exact a0F h
noncomputable abbrev m6d (k i:Int)(x:Value):Obj:={cls:=.type "set_iterator",dict:=none,data:=.fields #[rawInt k,rawInt i,x,rawInt 1,rawInt 1]}
noncomputable def SetSt (w:World)(I a:Addr)(i:Nat)(h:Heap):Prop:=h.get? a=some (set1 (ledW w))∧((i=0∧h.get? I=some (m6d 0 0 (.ref a)))∨(i=1∧h.get? I=some (m6d ((if ledW w then 2 else 0:Nat):Int) 1 (.ref a))))
theorem NextAt.set {I a:Addr}(hne:a≠I):NextAt prog w I [I,a] [I] 1 (fun _ v=>v=.bool true) "StopIteration" (SetSt w I a) where
 sub:=fun b hb=>by rw[a0B.mp hb];simp
 frame:=fun i h h' st hk=>⟨hk a (by simp) _ st.1,st.2.imp (fun q=>⟨q.1,hk I (by simp) _ q.2⟩) (fun q=>⟨q.1,hk I (by simp) _ q.2⟩)⟩
 live:=fun i h st b hb=>by
  rw[a0B.mp hb]
  rcases st.2 with q|q
  ·exact⟨_,q.2⟩
  ·exact⟨_,q.2⟩
 item:=fun A i s Q E hh hi st hQ=>by
  obtain rfl:i=0:=Nat.lt_one_iff.mp hi
  obtain⟨ha,q⟩:=st
  have hI:s.heap.get? I=some (m6d 0 0 (.ref a)):=q.elim (fun q=>q.2) (fun q=>absurd q.1 (by decide))
  refine a1I (name:=Str.ofString "__next__") ⟨_,hI,rfl⟩ slot_seti_next (a2E slot_seti_next ⟨_,hI,rfl⟩ k3g ?_ (k3y _))
  unfold Builtin.«set_iterator.__next__»
  show wpAny _ _ (fieldsOf (.ref I)>>=_) _ _ _
  refine a0A (wpAny_fieldsOf hI rfl ?_)
  show wpAny _ _ (setEntries a>>=_) _ _ _
  refine a0A (wpAny_setEntries_of (o:=set1 (ledW w)) ha rfl rfl ?_)
  show wpAny _ _ (setNext a 0 0 1>>=_) _ _ _
  refine a0A (k9x ha ?_)
  dsimp only
  refine a0A (a6L hI rfl (by simp) ?_)
  have e1:(s.heap.update I (Obj.mapFields (·.setIfInBounds 0 (rawInt ((if ledW w then 2 else 0:Nat):Int))))).get? I=some (m6d ((if ledW w then 2 else 0:Nat):Int) 0 (.ref a)):=by rw[a1G _ hI rfl];rfl
  refine a0A (a6L e1 rfl (by simp) (a0F ⟨_,rfl,hQ _ _ _ rfl ⟨?_,.inr ⟨rfl,?_⟩⟩ fun b o hb e=>?_⟩))
  ·exact(a0O _ _ (Ne.symm hne)).trans ((a0O _ _ (Ne.symm hne)).trans ha)
  ·rw[a1G _ e1 rfl];rfl
  ·have hb:I≠b:=fun q=>hb (a0B.mpr q.symm)
   exact(a0O _ _ hb).trans ((a0O _ _ hb).trans e)
 last:=fun A s Q E hh st hE=>by
  obtain⟨ha,q⟩:=st
  have hI:s.heap.get? I=some (m6d ((if ledW w then 2 else 0:Nat):Int) 1 (.ref a)):=q.elim (fun q=>absurd q.1 (by decide)) (fun q=>q.2)
  refine a1I (name:=Str.ofString "__next__") ⟨_,hI,rfl⟩ slot_seti_next (a2E slot_seti_next ⟨_,hI,rfl⟩ k3g ?_ (k3y _))
  unfold Builtin.«set_iterator.__next__»
  show wpAny _ _ (fieldsOf (.ref I)>>=_) _ _ _
  refine a0A (wpAny_fieldsOf hI rfl ?_)
  show wpAny _ _ (setEntries a>>=_) _ _ _
  refine a0A (wpAny_setEntries_of (o:=set1 (ledW w)) ha rfl rfl ?_)
  show wpAny _ _ (setNext a (((if ledW w then 2 else 0:Nat):Int)).toNat 1 1>>=_) _ _ _
  rw[a1W]
  refine a0A (m1p ha ?_)
  dsimp only
  refine a0A (a6L hI rfl (by simp) ?_)
  show wpAny _ _ (newExc (.type "StopIteration") []>>=_) _ _ _
  refine a0A ?_
  simp only[newExc,newTuple]
  refine a0A (a2U ?_ (by size_fits))
  refine a0A (m:=firstArgMember _ _) (a5A (a:=Value.none) (by first|rfl| (simp only[firstArgMember];rfl)) ?_)
  refine a2U ?_ (by size_fits)
  simp only[raiseNew]
  refine a0A (wpAny_handled ?_)
  first|rw[show A.in1.handled=none from hh]|rw[hh]
  refine a0A (a0F (wpAny_throw ?_))
  refine hE _ _ _ (fun b o hb e=>?_) ?_ ⟨_,_,a0I _ rfl,rfl,rfl,by first|rfl| (rw[Array.getElem?_append_left (by simp)];rfl)⟩
  ·exact a0C _ (a0C _ ((a0O _ _ (fun q=>hb (a0B.mpr q.symm))).trans e))
  ·cases q:s.heap.get? _ with
   |none=>rfl
   |some o=>exact absurd (a0M q) (by rw[a1Q,Heap.size_after_update];exact a6U.mpr (a6S _))
set_option tactic.hygienic true in
theorem m5t {a:Addr}{Q:List Value ->Shared ->Prop}(hh:A.handled=none)(ha:s.heap.get? a=some (set1 (ledW w)))(h:∀h' tk,(∀b o,s.heap.get? b=some o ->h'.get? b=some o) ->Q [.bool true] {s with heap:=h',toks:=tk}):wpAny (model prog w) A (unpackItems (.ref a) 1 none) Q E s:=by
 have hT:s.TypeIs (.ref a) "set":=⟨_,ha,rfl⟩
 have hlt:a≠s.heap.objs.size:=a0S (a0M ha)
 unfold unpackItems
 refine a0A ?_
 unfold notIterableAtAll
 refine a0A (a4B hT PySem.F.slot_set_iter.lookup ?_)
 refine a0F ?_
 simp only[a3A,if_false]
 refine a0A (a1O (wpAny_pyIter_slot hT PySem.F.slot_set_iter (a2E PySem.F.slot_set_iter hT k8q ?_ (PySem.F.args_set_iter_1 _))))
 unfold Builtin.«frozenset.__iter__»
 show wpAny _ _ (Builtin.Frozenset.sizeOf a>>=_) _ _ _
 refine a0A ?_
 unfold Builtin.Frozenset.sizeOf
 refine a0A (wpAny_setEntries_of (o:=set1 (ledW w)) ha rfl rfl (a0F ?_))
 refine a0A ?_
 refine a0A ?_
 refine a4V (o:=set1 (ledW w)) ha rfl rfl ?_
 dsimp only
 unfold setsByText
 refine a0A (a0A (a4E (a0F ?_)))
 refine a0F ?_
 split
 ·rename_i q
  cases hb:(model prog w).w.params.followText "set-order"<;>rw[hb]at q<;>exact absurd q a2W
 show wpAny _ _ (setEpoch a>>=_) _ _ _
 refine a0A (wpAny_setEpoch_of (o:=set1 (ledW w)) ha rfl rfl ?_)
 refine a0A ?_
 simp only[newFields]
 refine a2U ?_ (by size_fits)
 refine a0F ⟨_,rfl,"set_iterator",_,⟨_,a0I _ rfl,rfl⟩,slot_seti_next.lookup,?_⟩
 have st0:SetSt w s.heap.objs.size a 0 (s.heap.push (m6d 0 0 (.ref a))):=⟨a0C _ ha,.inl ⟨rfl,a0I _ rfl⟩⟩
 refine a0A (a1O ?_)
 show wpAny _ _ (pyNext (.ref s.heap.objs.size)>>=fun r=>match r with|none=>pure []|some x=>do let rest <-holding [x] (draw (.ref s.heap.objs.size) 0);pure (x::rest)) _ _ _
 refine a0A ((NextAt.set (w:=w) hlt).one hh (by decide) st0 fun v h1 tk1 hv st1 hk1=>?_)
 obtain rfl:=hv
 dsimp only
 refine a0A (a1O (a0F (a0F ?_)))
 rw[if_neg (by decide)]
 refine a0A (a1O ((NextAt.set (w:=w) hlt).fin hh st1 (.inl rfl) (fun _ h2 tk2 hk2=>?_) fun q=>absurd q (by decide)))
 rw[if_neg (by decide)]
 refine a0F (h h2 tk2 fun b o e=>?_)
 have hb:b∉[s.heap.objs.size]:=fun q=>a0S (a0M e) (a0B.mp q)
 exact hk2 b o hb (hk1 b o hb (a0C _ e))
theorem m2n (elt target iter:Expr)(scope:Scope)(pos:Pos)(it acc:Value)(env:Env):
  compTurn (.SetComp elt [⟨target,iter,[],0⟩] scope pos) 0 it acc env=(standAt iter.pos>>=fun _=>pyNext it>>=fun r=>match r with
   |none=>pure (.done .next)
   |some v=>letOwnedTupleGo target it v>>=fun _=>assign target env v>>=fun _=>
    (eval elt env>>=fun x=>standAt elt.pos>>=fun _=>call (.builtin "set.add") [acc,x]>>=fun _=>pure ())>>=fun _=>
     again (.compLoop (.SetComp elt [⟨target,iter,[],0⟩] scope pos) 0 it acc env)):=by rfl
theorem m2o {R:Result ->Shared ->Prop}{elt target iter:Expr}{scope:Scope}{pos:Pos}{it acc:Value}{env:Env}(I:Nat ->Shared ->Prop)
  (turn:∀n s,I n s ->wpAny (model prog w) A (pyNext it) (fun r B1=>match r with
   |none=>R (.ok .next) B1
   |some v=>wpAny (model prog w) A (assign target env v) (fun _ B0=>wpAny (model prog w) A (eval elt env) (fun x B5=>
     wpAny (model prog w) A (call (.builtin "set.add") [acc,x]) (fun _ C4=>∃m,m<n∧I m C4) (notedBy (model prog w) A env fun e s'=>R (.error e) s') B5)
     (notedBy (model prog w) A env fun e s'=>R (.error e) s') B0) (notedBy (model prog w) A env fun e s'=>R (.error e) s') B1) (notedBy (model prog w) A env fun e s'=>R (.error e) s') s)
  (n:Nat) (h:I n s) (ht:autoParam (∀v,letOwnedTupleGo target it v=pure ()) aI):
  codeAny (model prog w) A (.compLoop (.SetComp elt [⟨target,iter,[],0⟩] scope pos) 0 it acc env) R s:=by
 refine codeAny_loop rfl I (fun n s hI=>?_) n h
 show wpAny _ _ ((compTurn (.SetComp elt [⟨target,iter,[],0⟩] scope pos) 0 it acc env).onRaise (fun x=>do noteFrame x env;theTreesLotGoes x)) _ _ s
 refine wpAny_noted ?_
 rw[m2n]
 refine a0A (a3P (a0A (a2L (turn n s hI) (fun r B1 B2=>?_) fun _ _ h'=>h')))
 cases r with
 |none=>exact a0F B2
 |some v=>
  refine a0A (a5A (ht v) ?_)
  exact a0A (a2L B2 (fun _ B0 B3=>a0A (a0A (a2L B3 (fun x B5 B7=>a0A (a3P (a0A (a2L B7
   (fun _ C4 C5=>a0F (a0F ⟨rfl,C5⟩)) fun _ _ h'=>h')))) fun _ _ h'=>h'))) fun _ _ h'=>h')
theorem m0w {R:Result ->Shared ->Prop}{elt target iter:Expr}{scope:Scope}{pos:Pos}{it acc:Value}{env:Env}
  (h0:codeAny (model prog w) A (.compLoop (.SetComp elt [⟨target,iter,[],0⟩] scope pos) 0 it acc env) R s)
  (h:wpAny (model prog w) A (pyIter it) (fun it' s'=>codeAny (model prog w) A (.compLoop (.SetComp elt [⟨target,iter,[],0⟩] scope pos) 0 it' acc env) R s')
   (notedBy (model prog w) A env fun x s'=>R (.error x) s') s):
  codeAny (model prog w) A (.compStart (.SetComp elt [⟨target,iter,[],0⟩] scope pos) 0 it acc env) R s:=by
 refine codeAny_of_tree ?_
 show wpAny _ _ ((compStart (.SetComp elt [⟨target,iter,[],0⟩] scope pos) 0 it acc env).onRaise (fun x=>do noteFrame x env;standAt theWindowsPlace)) _ _ s
 refine wpAny_notedAt ?_
 unfold compStart
 show wpAny _ _ (ask>>=_) _ _ s
 refine a0A (a4E (wpAny_ite ?_))
 split
 ·first
   |exact a0A (a0F (a0F (And.intro rfl h0)))
   |exact a0F (And.intro rfl h0)
 ·first
   |exact a0A (a5Y (a0A (a3P (a0A (a2L h (fun it' s' h'=>a0F (And.intro rfl h')) fun _ _ x=>x)))))
   | (refine a0A (a5Y ?_);show wpAny _ _ (standAt iter.pos>>=_) _ _ s;exact a0A (a3P (a0A (a2L h (fun it' s' h'=>a0F (And.intro rfl h')) fun _ _ x=>x))))
end
section
variable {C:Cx}{σ σc:Loc}{ld ld':Led}{s s':Shared}{x y:PySem.Str}{a b c e elt iter:Expr}{pos px tp py spos:Pos}{xs:List SV}{P:Fl ->Loc ->Led ->Prop}{R:SV ->Led ->Prop}{scope:Scope}{cl:List (Str×Addr)}{k0:Nat}
theorem Eo.setT (hsrc:Src C σ ld iter xs)(cap:CapOk C scope cl σ σc)(kx:∀B,(compEnvC scope cl B C.env).kindOf x=some .local)(hne:0<xs.length)
  (helt:∀a∈xs,∀B s,Ev (blk C scope cl B s) ((x,a)::σc) ld elt (SB true))(hP:∀D,R (SR D) [(D,.obj (set1 (ledW C.w)))])
  (hcell:autoParam (∀z∈scope.names,z.2≠ .cell) aD)(hkind:autoParam (scope.kind=.function) aR)
  (hnames:autoParam (∀z∈scope.names,z.2=.local ->scope.names.lookup z.1=some .local) aD)
  (hs:autoParam (∀x,foldedSetIterable iter C.env x=Pure.pure x) aI):Eo C σ ld (.SetComp elt [⟨.Name x px,iter,[],0⟩] scope pos) R:=.mk fun s Q E H k=>by
 show wpAny _ _ (comprehension (.SetComp elt [⟨.Name x px,iter,[],0⟩] scope pos) scope C.env _ (newSet (.type "set")) false (eval iter C.env)) _ _ _
 refine wpAny_comprehension_free (use:=none) rfl hs cap.clos hkind hnames (hsrc.run s _ E H fun it B0 hS=>?_)
 refine x5a8 hS fun I fp wr Pi St za W hl hst hfp hw hPi gr=>?_;clear hS;obtain rfl:=za
 refine p4x (a6I hcell (by intro y hy;simp at hy) (fun B2 hns1 hsb1=>?_) hkind)
 dsimp only at hns1 hsb1⊢
 show codeAny _ _ _ (compPost (model PR C.w) C.A E none Q (.ref B0.heap.objs.size) _) _
 generalize hH2:B0.heap.push (set0 (!C.w.params.followText "set-order"))=H2 at hns1 hsb1⊢;revert H2;refine id ?_;intros
 have hC:H2.objs.size=B0.heap.objs.size+1:=by rw[<-hH2,a1Q]
 generalize hB:H2.objs.size=B at hns1 hsb1⊢
 generalize hD:B0.heap.objs.size=D at*;revert B D;refine id ?_;intros
 have hDB:D≠B:=by rw[<-hB,hC];exact a0S (a2B _)
 have lt2:∀b o,B0.heap.get? b=some o ->b<D:=fun b o e=>hD▸a0M e
 have ltB:∀b o,B0.heap.get? b=some o ->b<B:=fun b o e=>Nat.lt_trans (lt2 b o e) (by rw[<-hB,hC];exact a2B _)
 have hDf:D∉fp:=fun hm=>a1R _ (hfp _ hm)
 have hBf:B∉fp:=fun hm=>by have:=hfp _ hm;rw[<-hB,hC]at this;exact a1R _ (Nat.lt_of_succ_lt this)
 have nD:B0.heap.get? D=none:=by
  cases q:B0.heap.get? D with
  |none=>rfl
  |some o=>exact absurd (lt2 D o q) (a1R _)
 have old:∀b o,B0.heap.get? b=some o ->B2.get? b=some o:=fun b o e=>hsb1.extBut b o (a0S (ltB b o e)) (a0C _ (hH2▸a0C _ e))
 have hacc:B2.get? D=some (set0 (ledW C.w)):=hsb1.extBut _ _ hDB (a0C _ (hH2▸hD▸a0I _ rfl))
 have hst1:St 0 B2:=W.frame _ _ _ hst fun b _ o e=>old b o e
 have kB:(compEnvC scope cl B C.env).scope.kind=.function:=by simp[compEnvC,relabel,hkind]
 have hDw:D∉wr:=fun q=>hDf (W.sub _ q)
 have hBw:B∉wr:=fun q=>hBf (W.sub _ q)
 have loop:∀B5:Shared,B5={B0 with heap:=B2,toks:=B0.toks+([]:List (Str×Value)).length} ->
   codeAny (model PR C.w) C.A (.compLoop (.SetComp elt [⟨.Name x px,iter,[],0⟩] scope pos) 0 (.ref I) (.ref D) (compEnvC scope cl B C.env)) (compPost (model PR C.w) C.A E none Q (.ref D) B) B5:=by
  rintro B5 rfl
  refine m2o (fun n s'=>∃(i:Nat) (h:Heap) (tk:Tok) (m:Str ->Option Value),i<=xs.length∧s'={B0 with heap:=h,toks:=tk}∧(∀b o,b∉wr ->B0.heap.get? b=some o ->h.get? b=some o)∧h.Ns B m∧h.get? D=some (if i=0 then set0 (ledW C.w)else set1 (ledW C.w))∧St i h∧n=xs.length+1-i) ?_ (xs.length+1)
   ⟨0,B2,_,_,a0R _,rfl,fun b o _ e=>old b o e,hns1,hacc,hst1,rfl⟩
  rintro n s' zu;refine x4a7 zu fun i h tk' m hi za hk hn hd hsti zb=>?_;clear zu;refine eq2 za zb ?_;clear za zb
  have keepS:∀ {h':Heap},(∀b o,b∉wr ->B0.heap.get? b=some o ->h'.get? b=some o) ->∀b o,s.heap.get? b=some o ->h'.get? b=some o:=fun hk b o e=>hk b o (fun q=>by rw[hw b q]at e;cases e) (gr.keep b o e)
  by_cases hlt:i<xs.length
  ·refine W.item i _ _ _ hlt hsti fun v h2 tk2 hPv hst2 hk2=>?_
   refine x1a2 (hPi _ v hPv) fun a ha hav=>?_
   have ham:=a1D ha
   have hn2:h2.Ns B m:=hn.at' fun o e=>hk2 _ o hBw e
   refine wpAny_assign_Name (env:=compEnvC scope cl B C.env) (a2M (kx B) hn2 (fun h3 hn3 hs3=>?_) (by rw[kB];rfl))
   have up3:∀b o,b≠B ->b∉wr ->h.get? b=some o ->h3.get? b=some o:=fun b o hb hbw e=>hs3.extBut b o hb (hk2 b o hbw e)
   have hs4:∀c o,c∉wr ->B0.heap.get? c=some o ->h3.get? c=some o:=fun c o hc e=>up3 c o (a0S (ltB c o e)) hc (hk c o hc e)
   have H4:=H.blk (s':={B0 with heap:=h3,toks:=tk2+1}) cap (keepS hs4) hn3 (fun c o e=>ltB c o (gr.keep c o e)) (if_pos rfl) hav (kx B)
   have hst3:St (i+1) h3:=W.frame _ _ _ hst2 fun b hb o e=>hs3.extBut b o (fun q=>hBf ((show b=B from q)▸hb)) e
   refine(helt a ham B _).run _ _ _ H4 fun y s5 g5 hy=>?_
   obtain rfl:=hy
   obtain⟨k5,h5,t5,rfl⟩:=g5
   have hD5:=k5 _ _ (up3 D _ hDB hDw hd)
   have fin:∀h6 tk,Heap.SameBut D h5 h6 ->h6.get? D=some (set1 (ledW C.w)) ->∃m,m<xs.length+1-i∧∃(i:Nat) (h:Heap) (tk':Tok) (m_1:Str ->Option Value),i<=xs.length∧({B0 with heap:=h6,toks:=tk}:Shared)={B0 with heap:=h,toks:=tk'}∧(∀b o,b∉wr ->B0.heap.get? b=some o ->h.get? b=some o)∧h.Ns B m_1∧h.get? D=some (if i=0 then set0 (ledW C.w)else set1 (ledW C.w))∧St i h∧m=xs.length+1-i:=fun h6 tk hs6 hd6=>
    ⟨xs.length+1-(i+1),by exact om3 hlt,i+1,h6,tk,_,hlt,rfl,fun c o hc e=>hs6.extBut c o (a0S (lt2 c o e)) (k5 c o (hs4 c o hc e)),(hn3.keeps k5).sameBut hs6 (Ne.symm hDB),by rw[if_neg (Nat.succ_ne_zero i)];exact hd6,W.frame _ _ _ hst3 fun c hc o e=>hs6.extBut c o (fun q=>hDf (q▸hc)) (k5 c o e),rfl⟩
   by_cases h0:i=0
   ·rw[if_pos h0]at hD5
    exact p0q hD5 fun h6 hs6 hd6=>fin h6 _ hs6 hd6
   ·rw[if_neg h0]at hD5
    exact p0r hD5 (fin h5 _ (Heap.SameBut.refl ..) hD5)
  ·have hin:i=xs.length:=om22 hi hlt
   subst hin
   rw[if_neg (Nat.ne_zero_of_lt hne)]at hd
   refine W.done _ _ _ hsti fun h2 tk2 hk2=>?_
   obtain⟨_,h0,t0,rfl⟩:=id gr
   refine⟨m,hn.at' fun o e=>hk2 _ o hBw e,fun h3 hs3=>?_⟩
   have kk:∀c o,s.heap.get? c=some o ->h3.get? c=some o:=fun c o e=>hs3.extBut c o (a0S (ltB c o (gr.keep c o e))) (keepS (fun c o hc e=>hk2 c o hc (hk c o hc e)) c o e)
   exact k _ (SR D) _ {s with heap:=h3,toks:=tk2} rfl (hP D) (.one (.of kk) (k0e gr.keep nD) (hs3.extBut _ _ hDB (hk2 _ _ hDw hd)) rfl)
 exact m0w (loop _ rfl) (W.self 0 _ _ _ hst1 (loop _ rfl))
theorem X1.asg1 (G:Gd C)(h:Eo C σ ld e fun sv new=>∃D,sv=SR D∧new=[(D,.obj (set1 (ledW C.w)))])(p:P .next ((y,SB true)::σ) ld)(hy:autoParam (C.env.kindOf y=some .local) aR)(hp:autoParam ((C.env.scope.kind==.class|| (C.env.scope.kind==.module&&C.env.locals !=C.env.globals))=false) aR)
  (hs:autoParam (swapsWithSole [.Tuple [.Name y py] k0 tp] e pos.line C.env=pure false) aR)(hw:autoParam (swappedStores [.Tuple [.Name y py] k0 tp] e C.env=pure none) aR):X1 C σ ld (.Assign [.Tuple [.Name y py] k0 tp] e pos) P:=.mk fun s Q E H k=>by
 refine Assign_Tuple (h.run s _ _ H fun v sv new s' hv hp' A=>?_) hs hw
 refine x1a2 hp' fun D za zb=>?_;clear hp';obtain rfl:=za;obtain rfl:=zb
 obtain rfl:=hv
 refine x1a3 (A.led _ (.head _)) fun o _ ho hi=>?_
 obtain rfl:=hi
 have H':=H.go A.g
 rw[arm_assign_Tuple]
 refine a0A (a3P ?_)
 unfold unpack
 show wpAny _ _ (holding [Value.ref D] (unpackItems (.ref D) 1 none)>>=_) _ _ _
 refine a0A (a1O (m5t G.h ho fun h2 tk hk=>?_))
 have H2:Hold C σ ld {s' with heap:=h2,toks:=tk}:=H'.go (.of hk)
 show wpAny _ _ (assignInOrder [assign (.Name y py) C.env] [.bool true]) _ _ _
 refine assignInOrder_cons (k6t (sv:=SB true) rfl H2 hy hp fun s3 H3=>assignInOrder_nil ?_)
 exact k .next .next _ _ s3 rfl p H3
end
theorem m6l {l:List (Str×Addr)}{z x:Str}{c:Addr}(nd:(l.map (·.2)).Nodup)(h1:(z,c)∈l)(h2:(x,c)∈l):z=x:=by
 induction l with
 |nil=>cases h1
 |cons p r ih=>
  simp only[a0P,a1L]at nd
  rcases a0G.mp h1 with q1|q1
  ·rcases a0G.mp h2 with q2|q2
   ·rw[<-q1]at q2;injection q2 with q2 _;exact q2.symm
   ·exact absurd (a1N (f:=(·.2)) q2) (by rw[<-q1]at nd;exact nd.1)
  ·rcases a0G.mp h2 with q2|q2
   ·exact absurd (a1N (f:=(·.2)) q1) (by rw[<-q2]at nd;exact nd.1)
   ·exact ih nd.2 q1 q2
section
variable {prog:Program}{w:World}{m t I:Addr}{g:Value}{fp wr:List Addr}{n:Nat}{P P':Nat ->Value ->Prop}{X:String}{St:Nat ->Heap ->Prop}{K:Around ->Prop}
theorem NextAt.base {h₀:Heap}(W:NextAt prog w I fp wr n P X St K)(hw:∀b∈wr,h₀.get? b=none):NextAt prog w I (fp++List.range h₀.objs.size) wr n P X (fun i h=>St i h∧∀b o,h₀.get? b=some o ->h.get? b=some o) K where
 sub:=fun b hb=>a0N _ (W.sub b hb)
 frame:=fun i h h' st hk=>⟨W.frame i h h' st.1 fun b hb=>hk b (a0N _ hb),fun b o e=>hk b (a0L _ (a3O.mpr (a0M e))) o (st.2 b o e)⟩
 live:=fun i h st=>W.live i h st.1
 item:=fun A i s Q E hh hi st hQ=>W.item A i s Q E hh hi st.1 fun v h' tk hP st' hk=>hQ v h' tk hP ⟨st',fun b o e=>hk b o (fun q=>by rw[hw b q]at e;cases e) (st.2 b o e)⟩ hk
 last:=fun A s Q E hh st hE=>W.last A s Q E hh st.1 hE
theorem NextAt.mapK (W:NextAt prog w I fp wr n P X St)(hK:∀A,K A ->A.handled=none)(hm:m∉wr)(ht:t∉wr)
  (hg:∀(A:Around) i v (s:Shared) (Q:Value ->Shared ->Prop) (E:Value ->Shared ->Prop),K A ->i<n ->P i v ->St (i+1) s.heap ->(∀y h' tk,P' i y ->(∀b o,s.heap.get? b=some o ->h'.get? b=some o) ->Q y {s with heap:=h',toks:=tk}) ->wpAny (model prog w) A.in1 (call g [v]) Q E s):
  NextAt prog w m (m::t::fp) wr n P' X (k5u m t I g St) K where
 sub:=fun b hb=>.tail _ (.tail _ (W.sub b hb))
 frame:=fun i h h' st hk=>⟨hk m (.head _) _ st.1,hk t (.tail _ (.head _)) _ st.2.1,W.frame i h h' st.2.2 fun b hb=>hk b (.tail _ (.tail _ hb))⟩
 live:=fun i h st=>W.live i h st.2.2
 item:=fun A i s Q E hh hi st hQ=>by
  refine a1I (name:=Str.ofString "__next__") ⟨_,st.1,rfl⟩ slot_map_next (a4I (k2r ⟨_,st.1,rfl⟩ ?_))
  refine k4g (k6p (Q:=fun v s'=>Q (some v) s') (E:=E) st.1 st.2.1 ?_) (fun fin s' h=>?_) fun _ _ e=>e
  ·refine W.item A.in1 i s _ _ (hK A hh) hi st.2.2 fun v h' tk hP st' hk=>⟨v,rfl,hk m _ hm st.1,?_⟩
   refine k2y (hg A i v _ _ _ hh hi hP st' fun y h'' tk' hP' hk'=>hQ y h'' tk' hP' ⟨hk' _ _ (hk m _ hm st.1),hk' _ _ (hk t _ ht st.2.1),W.frame _ _ _ st' fun b _ o e=>hk' b o e⟩ fun b o hb e=>hk' b o (hk b o hb e))
  ·revert h;intro zq;refine x1a2 zq fun v za h=>?_;clear zq;obtain rfl:=za
   exact⟨v,rfl,h⟩
 last:=fun A s Q E hh st hE=>by
  refine a1I (name:=Str.ofString "__next__") ⟨_,st.1,rfl⟩ slot_map_next (a4I (k2r ⟨_,st.1,rfl⟩ ?_))
  refine k4g (k6p (Q:=fun v s'=>Q (some v) s') (E:=E) st.1 st.2.1 ?_) (fun fin s' h=>?_) fun _ _ e=>e
  ·exact W.last A.in1 s _ _ (hK A hh) st.2.2 hE
  ·revert h;intro zq;refine x1a2 zq fun v za h=>?_;clear zq;obtain rfl:=za
   exact⟨v,rfl,h⟩
end
section
variable {C:Cx}{σ:Loc}{ld ld':Led}{s s':Shared}{l D:Addr}{x:PySem.Str}{e a:Expr}{pos px n1 n2 n3 c1 c2:Pos}{xs:List Str}{us:List SV}{sv:SV}{R:SV ->Led ->Prop}{P:Fl ->Loc ->Led ->Prop}
theorem Ew.tupmap {f:Addr}(G:Gd C)(hl:Ev C σ ld e (SR l))(hD:Has C σ ld l (.list (xs.map .str)))(hn:xs.length<=1000)(c:∀x,Cn C.w 0 f [.str x] (fun _=>True) fun sv new=>sv=.str x∧new=[])(hA:OkA C.A.in1.in1.in1.in1 0)(hP:∀D',R (SR D') ((D',.tup (xs.map .str))::ld))
  (e3:nsIn (hd.heap_1 C.w.params) mainGlobals x=some (some (.ref f)))(k3:autoParam (C.env.kindOf x=some .globalImplicit) aR)(hd3:autoParam ((x==("__debug__":Str))=false) aE)
  (e1:autoParam (nsIn (hd.heap_1 C.w.params) mainGlobals (Str.ofString "tuple")=some none) aK)(e2:autoParam (nsIn (hd.heap_1 C.w.params) mainGlobals (Str.ofString "map")=some none) aK)
  (k1:autoParam (C.env.kindOf (Str.ofString "tuple")=some .globalImplicit) aR)(k2:autoParam (C.env.kindOf (Str.ofString "map")=some .globalImplicit) aR)
  (h1:autoParam (eval (.Call (N "tuple" n1) [.Call (N "map" n2) [.Name x n3,e] [] c2] [] c1) C.env=(do callWith c1 (<-eval (N "tuple" n1) C.env) [] (backTo c1 (starEach [.Call (N "map" n2) [.Name x n3,e] [] c2] C.env)) (backToKw c1 (keywordEach [] C.env)))) aR)
  (h2:autoParam (eval (.Call (N "map" n2) [.Name x n3,e] [] c2) C.env=(do callWith c2 (<-eval (N "map" n2) C.env) [] (backTo c2 (starEach [.Name x n3,e] C.env)) (backToKw c2 (keywordEach [] C.env)))) aR)
  (s1:autoParam (starEach [.Call (N "map" n2) [.Name x n3,e] [] c2] C.env=(false,eval (.Call (N "map" n2) [.Name x n3,e] [] c2) C.env)::starEach [] C.env) aR)
  (s2:autoParam (starEach [.Name x n3,e] C.env=(false,eval (.Name x n3) C.env)::starEach [e] C.env) aR)(s3:autoParam (starEach [e] C.env=(false,eval e C.env)::starEach [] C.env) aR):
  Ew C σ ld (.Call (N "tuple" n1) [.Call (N "map" n2) [.Name x n3,e] [] c2] [] c1) R:=.mk fun s Q E H k=>by
 refine Call_ (k0i G H e1 (by boot_by_name) (by decide+kernel) k1 (by decide+kernel) ?_) h1
 refine a1J (by rw[s1];rfl) (k0c s1 (a2J ?_ s1))
 refine Call_ (k0i G H e2 (by boot_by_name) (by decide+kernel) k2 (by decide+kernel) ?_) h2
 refine a1J (by rw[s2,s3];rfl) (k0c s2 (a2J ?_ s2))
 refine k5k G H e3 k3 hd3 (a2J (hl.run s _ _ H fun v s' g hv=>a4D ?_) s3)
 obtain rfl:=hv
 have H':=H.go g
 refine x1a2 (hD.isList H') fun vs hI hA'=>?_
 have hlen:xs.length=vs.length:=by have:=hA'.len;rwa[a0J]at this
 refine k5f hI fun m t I h1 a1 a2 a3 f1 f2 f3 n1 n2 lt1 kk=>a4D ?_
 have lI:l≠I:=a0S (a1C (let⟨_,ho,_⟩:=hI;a0M ho) f3)
 refine x1a2 H'.fr fun _ F _=>?_
 have hI0:∀b∈[I],C.h₀.get? b=none:=fun b hb=>by
  rw[a0B.mp hb]
  cases q:C.h₀.get? I with
  |none=>rfl
  |some o=>exact absurd (a0M (F.keep I o q)) (a6U.mpr f3)
 refine ex2 G.T fun mg mb T=>?_
 have W0:=(NextAt.list (prog:=PR) (w:=C.w) lI vs.toArray).base hI0
 have W:=NextAt.mapK (K:=fun A=>OkA A.in1 0) (m:=m) (t:=t) (g:=.ref f) (P':=fun i y=>∃x t,xs[i]?=some x∧y=.str x t) W0 (fun A h=>h.handled) (fun q=>n1 (a0B.mp q)) (fun q=>n2 (a0B.mp q)) (fun A i v s Q E hK hi hP st kq=>by
  refine x1a2 (hA'.get i v (by simpa using hP)) fun u hu hv=>?_
  rw[a0T,Option.map_eq_some_iff]at hu
  refine x1a2 hu fun y hy za=>?_;clear hu;obtain rfl:=za
  refine c y A.in1 s Q E [v] mg mb (G.X.keeps st.2) (T.keeps st.2) hK (.cons hv .nil) trivial fun r sr new s' hr hp A'=>?_
  obtain⟨rfl,rfl⟩:=hp
  obtain⟨t',rfl⟩:=hr
  obtain⟨k',h',tk,rfl⟩:=A'.g
  exact kq _ h' tk ⟨y,t',hy,rfl⟩ k')
 have hst:k5u m t I (.ref f) (fun i h=>p0v I l vs.toArray i h∧∀b o,C.h₀.get? b=some o ->h.get? b=some o) 0 h1:=⟨a1,a2,a3,fun b o e=>kk b o (F.keep b o e)⟩
 have hfp:∀b∈m::t::([I,l]++List.range C.h₀.objs.size),b<h1.objs.size:=by
  have hs:s'.heap.objs.size<=h1.objs.size:=a0H f1 (a4C lt1)
  intro b hb
  rcases a0G.mp hb with rfl|hb
  ·exact lt1
  ·rcases a0G.mp hb with rfl|hb
   ·exact a0M a2
   ·rcases a0V.mp hb with hb|hb
    ·rcases a0G.mp hb with rfl|hb
     ·exact let⟨⟨_,ho,_⟩,_⟩:=a3;a0M ho
     ·rw[a0B.mp hb]
      exact let⟨_,ho,_⟩:=a3.2;a0M ho
    ·exact a1C (a3O.mp hb) (a0H (a0H F.above (by obtain⟨o,ho⟩:=H'.loc;exact a4C (a0M ho))) hs)
 refine k8u (s:={s' with heap:=h1}) W hst hfp (by rw[a1S];simp;exact om472 hlen hn) hA fun h2 tk acc hk hsz hacc=>?_
 have e2:acc.toList.toArray=acc:=by simp
 have kk2:∀b o,s'.heap.get? b=some o ->h2.get? b=some o:=fun b o e=>hk b o (fun q=>by
  rw[a0B.mp q]at e
  exact a6U.mpr f3 (a0M e)) (kk b o e)
 refine k _ (SR _) _ _ rfl (hP _) (H'.new (s':={s' with heap:=h2.push {cls:=.type "tuple",data:=.seq acc},toks:=tk}) (k0e kk2 (k0h _)) (fun b o e=>a0C _ (kk2 b o e)) (a0I _ rfl) ⟨acc.toList,by rw[tupOf,e2],?_⟩ (C.ok _ _ _ H'.rest))
 refine Are.ofGet (by rw[a0J,Array.length_toList,hsz,hlen];simp) fun i v hv=>?_
 refine x2a2 (hacc i v (by simpa using hv)) fun y t' hy za=>?_;obtain rfl:=za
 exact⟨.str y,by rw[a0T,hy];rfl,t',rfl⟩
theorem Tst.ofT (ha:Ev C σ ld e (SR D))(hD:Has C σ ld D (.tup us))(hz:us.length<=10000)(he:autoParam (∀whole,isTrue e C.env whole=(do let v <-whole;standAt e.pos;holding [v] (truthy v))) aI):Tst C σ ld e (!us.isEmpty):=.mk fun s Q E H k=>by
 refine isTrue_plain (ha.run s _ _ H fun v s' g hv=>?_) (he _)
 obtain rfl:=hv
 refine x1a2 (hD _ (H.go g)) fun o ho zx=>x1a2 zx fun vs za hA=>?_;clear zx;obtain rfl:=za
 have hl:=hA.len
 refine truthy_tuple (items:=vs.toArray) ⟨_,ho,rfl,_,rfl⟩ (by simp;exact om251 hl hz) ?_
 have:(!vs.toArray.isEmpty)= !us.isEmpty:=by cases hA<;>simp
 rw[this]
 exact k _ _ (g.trans .tk) rfl
set_option tactic.hygienic true in
theorem X1.asgK (h:Ew C σ ld e fun sv ld'=>P .next ((x,sv)::σ) ld')(hx:autoParam (C.env.kindOf x=some .cell) aR)(hk:autoParam (C.env.scope.kind=.function) aR)
  {cx:Addr}(hc:C.env.cells.lookup x=some cx)(hs:autoParam (swapsWith e (some (.Name x px)) pos.line C.env=Pure.pure false) aR):X1 C σ ld (.Assign [.Name x px] e pos) P:=.mk fun s Q E H k=>by
 refine wpAny_Assign_Name (h.run s _ E H fun v sv ld' s' hv p H'=>?_) hs
 have hcm:=k0a hc
 refine x2a4 (H'.cel _ hcm) fun oc v0 c1 c2 c3 c4=>?_
 refine wpAny_storeName_cell hk hx hc ⟨oc,c1,c2⟩ fun B3 I5 B8=>?_
 refine x1a2 I5 fun oc2 d1 d2=>?_
 have nd:=H'.nodup
 rw[a1E]at nd
 have up:∀b o,b≠cx ->s'.heap.get? b=some o ->B3.get? b=some o:=fun b o hb e=>B8.extBut b o hb e
 refine x1a2 H'.fr fun m F r=>?_
 refine k .next .next ((x,sv)::σ) ld' {s' with heap:=B3} rfl p ⟨⟨m,⟨F.ns.at' fun o e=>up _ o (Ne.symm c3) e,fun b o e=>up b o (fun q=>?_) (F.keep b o e),F.above⟩,fun z sz ez=>?_⟩,fun p hp=>?_,fun p hp=>?_,H'.nodup,C.ok _ _ _ H'.rest⟩
 ·rw[q]at e;rw[show C.h₀.get? cx=none from c4]at e;cases e
 ·rw[a3T]at ez
  split at ez
  ·rename_i q
   injection ez with ez;subst ez
   obtain rfl:z=x:=a1T.mp q
   exact⟨v,hv,.inr ⟨.inl hx,cx,oc2,hc,d1,d2⟩⟩
  ·rename_i q
   refine x1a2 (r z sz ez) fun v' hv' q'=>?_
   refine⟨v',hv',?_⟩
   rcases q' with q'| ⟨q1,c,oc',e1,e2,e3⟩
   ·exact .inl q'
   ·refine .inr ⟨q1,c,oc',e1,up _ _ (fun hcc=>?_) e2,e3⟩
    subst hcc
    have hz:z≠x:=fun h=>by subst h;simp at q
    have hm:=k0a e1
    have:=m6l nd.1 hm hcm
    exact hz this
 ·refine x1a2 (H'.led p hp) fun o a b=>?_
  exact⟨o,up _ _ (fun q=>nd.2.2 cx (a1N hcm) p.1 (a1N hp) q.symm) a,b⟩
 ·refine x2a3 (H'.cel p hp) fun o v' a b c=>?_
  by_cases hpc:p.2=cx
  ·exact⟨oc2,some v,by rw[hpc];exact d1,d2,c⟩
  ·exact⟨o,v',up _ _ hpc a,b,c⟩
end
theorem m8w {x y z:Str}(h1:k4t y x=false)(h2:k4t z y=false):k4t z x=false:=by
 unfold k4t at*
 have h1:=List.not_lt.mp (a4K h1)
 have h2:=List.not_lt.mp (a4K h2)
 exact a2G (List.not_lt.mpr (List.le_trans h1 h2))
theorem k5n:∀a b c:List Str,ltList b a=false ->ltList c b=false ->ltList c a=false
 | [],_,[],_,_=>rfl
 | [],_,_::_,_,_=>rfl
 |_::_,[],_,h,_=>nomatch h
 |_::_,_::_,[],_,h=>nomatch h
 |x::xs,y::ys,z::zs,h1,h2=>by
  unfold ltList at h1 h2⊢
  by_cases e1:y=x
  ·subst e1
   by_cases e2:z=y
   ·subst e2
    simp only[a4Q]at h1 h2⊢
    exact k5n xs ys zs h1 h2
   ·rw[if_neg e2]at h2⊢;exact h2
  ·rw[if_neg e1]at h1
   by_cases e2:z=y
   ·subst e2;rw[if_neg e1];exact h1
   ·rw[if_neg e2]at h2
    have:=m8w h1 h2
    by_cases e3:z=x
    ·subst e3
     exact absurd (k7t h2 h1) e2
    ·rw[if_neg e3];exact this
theorem k5t (bt:Nat ->Nat ->Bool):∀n,argBest bt n<=n
 |0=>a0W _
 |n+1=>by
  unfold argBest
  split
  ·exact a0W _
  ·exact a3W (k5t bt n)
theorem k2d {bt:Nat ->Nat ->Bool}(tr:∀i j k,bt j i=false ->bt k j=false ->bt k i=false)(ir:∀i,bt i i=false)(asy:∀i j,bt i j=true ->bt j i=false):∀n j,j<=n ->bt j (argBest bt n)=false
 |0,j,h=>by rw[Nat.le_zero.mp h];exact ir 0
 |n+1,j,h=>by
  unfold argBest
  cases q:bt (n+1) (argBest bt n)with
  |true=>
   rw[if_pos rfl]
   rcases Nat.lt_or_ge n j with hj|hj
   ·rw[Nat.le_antisymm h hj];exact ir _
   ·exact tr _ _ _ (asy _ _ q) (k2d tr ir asy n j hj)
  |false=>
   rw[if_neg a2W]
   rcases Nat.lt_or_ge n j with hj|hj
   ·rw[Nat.le_antisymm h hj];exact q
   ·exact k2d tr ir asy n j hj
theorem m8y:∀a b x:List Str,ltList x a=false ->ltList b x=false ->lcp a b<=lcp a x
 | [],_,_,_,_=>a0R _
 |_::_,[],_,_,_=>a0R _
 |_::_,_::_,[],h,_=>nomatch h
 |p::a,q::b,y::x,h1,h2=>by
  unfold ltList at h1 h2
  unfold lcp
  by_cases e:p=q
  ·subst e
   by_cases e2:y=p
   ·subst e2
    simp only[a4Q]at h1 h2⊢
    have:=m8y a b x h1 h2
    exact Nat.add_le_add_right this 1
   ·rw[if_neg e2]at h1;rw[if_neg (Ne.symm e2)]at h2
    exact absurd (k7t h1 h2) e2
  ·rw[if_neg e];exact a0R _
theorem m3r:∀p a b:List Str,p<+:a ->p<+:b ->p.length<=lcp a b
 | [],_,_,_,_=>a0R _
 |_::_,[],_,h,_=>by simp at h
 |_::_,_::_,[],_,h=>by simp at h
 |x::p,y::a,z::b,h1,h2=>by
  rw[List.cons_prefix_cons]at h1 h2
  unfold lcp
  rw[if_pos (h1.1.symm.trans h2.1)]
  exact Nat.succ_le_succ (m3r p a b h1.2 h2.2)
theorem p1m {p a:List Str}{k:Nat}(h:p<+:a)(hk:p.length<=k):p<+:a.take k:=by
 rw[List.prefix_take_iff];exact⟨h,hk⟩
theorem k5z (a b:List Str):a.take (lcp a b)<+:b:=by
 rw[k1p];exact List.take_prefix _ _
theorem k3j (xss:List (List Str)):∀i,commonTo xss i<+:xss.getD 0 []∧∀j,j<i ->commonTo xss i<+:xss.getD j []
 |0=>⟨List.prefix_refl _,fun _ h=>absurd h (Nat.not_lt_zero _)⟩
 |i+1=>by
  have ih:=k3j xss i
  have h0:commonTo xss (i+1)<+:commonTo xss i:=List.take_prefix _ _
  refine⟨h0.trans ih.1,fun j hj=>?_⟩
  rcases Nat.lt_succ_iff_lt_or_eq.mp hj with hj|rfl
  ·exact h0.trans (ih.2 j hj)
  ·exact k5z _ _
theorem k5y (xss:List (List Str))(p:List Str):∀i,p<+:xss.getD 0 [] ->(∀j,j<i ->p<+:xss.getD j []) ->p<+:commonTo xss i
 |0,h,_=>h
 |i+1,h,h2=>by
  have ih:=k5y xss p i h fun j hj=>h2 j (a3V hj)
  have hi:=h2 i (a2B i)
  exact p1m ih (m3r _ _ _ ih hi)
theorem m4b (xss:List (List Str))(h0:0<xss.length):
  let i:=argBest (fun i j=>ltList (xss.getD i []) (xss.getD j [])) (xss.length-1)
  let j:=argBest (fun i j=>ltList (xss.getD j []) (xss.getD i [])) (xss.length-1)
  i<xss.length∧j<xss.length∧ltList (xss.getD j []) (xss.getD i [])=false∧(xss.getD i []).take (lcp (xss.getD i []) (xss.getD j []))=k0y xss:=by
 intro i j
 have hi:i<=xss.length-1:=k5t _ _
 have hj:j<=xss.length-1:=k5t _ _
 have mi:∀k,k<=xss.length-1 ->ltList (xss.getD k []) (xss.getD i [])=false:=
  k2d (bt:=fun i j=>ltList (xss.getD i []) (xss.getD j [])) (fun a b c=>k5n _ _ _) (fun _=>k1o _) (fun _ _=>k1e _ _) _
 have mj:∀k,k<=xss.length-1 ->ltList (xss.getD j []) (xss.getD k [])=false:=
  k2d (bt:=fun i j=>ltList (xss.getD j []) (xss.getD i [])) (fun a b c h1 h2=>k5n _ _ _ h2 h1) (fun _=>k1o _) (fun _ _=>k1e _ _) _
 refine⟨by exact om19 h0 hi,by exact om19 h0 hj,mi j hj,?_⟩
 have p1:∀k,k<=xss.length-1 ->(xss.getD i []).take (lcp (xss.getD i []) (xss.getD j []))<+:xss.getD k []:=fun k hk=>
  ((List.take_prefix_take_left (m8y _ _ _ (mi k hk) (mj k hk)))).trans (k5z _ _)
 have h1:=k5y xss _ xss.length (p1 0 (a0R _)) fun k hk=>p1 k (a6J hk)
 have h2:=(k3j xss xss.length).2
 have h3:=m3r _ _ _ (h2 i (om19 h0 hi)) (h2 j (om19 h0 hj))
 refine h1.eq_of_length (Nat.le_antisymm h1.length_le ?_)
 rw[a2F]
 exact Nat.le_min.mpr ⟨h3,(h2 i (om19 h0 hi)).length_le⟩
noncomputable def rowOf (x:Str):List Str:=(Txt.split x (Str.ofString "/")).filter fun c=>c !=Str.ofString ""&&c !=Str.ofString "."
noncomputable def cpathF (xs:List Str):Str:=Str.ofString "/"++Txt.join (Str.ofString "/") (k0y (xs.map rowOf))
theorem CapOk.one {C:Cx}{scope:Scope}{x:Str}{c:Addr}{σ:Loc}{sv:SV}(clos:autoParam (closureFor scope C.env=Pure.pure [(x,c)]) aR)(mem:(x,c)∈C.env.cells)(hσ:autoParam (σ.lookup x=some sv) aR)
  (hk:autoParam (C.env.kindOf x=some .cell) aR)(hc:autoParam (C.env.cells.lookup x=some c) aR)(hb:autoParam (∀B,(compEnvC scope [(x,c)] B C.env).kindOf x=some .cell) aI):CapOk C scope [(x,c)] σ [(x,sv)]:=by
 refine⟨clos,fun p hp=>?_,a1L.mpr ⟨a0Z,a1U⟩,fun p hp=>?_⟩
 ·rw[a0B.mp hp];exact mem
 ·rw[a0B.mp hp]
  refine⟨hσ,.inl hk,?_,fun B=>.inl (hb B)⟩
  rw[hc,a3T,beq_self_eq_true]
open Classical in
theorem m5f:∀(l:List Addr) (rs:List (List SV)),l.Nodup ->l.length=rs.length ->∃g:SV ->List SV,(l.map SR).map g=rs
 | [],[],_,_=>⟨fun _=>[],rfl⟩
 | [],_::_,_,h=>nomatch h
 |_::_,[],_,h=>nomatch h
 |a::l,r::rs,hnd,hl=>by
  rw[a1L]at hnd
  obtain⟨g,hg⟩:=m5f l rs hnd.2 (by simpa using hl)
  refine⟨fun sv=>if sv=SR a then r else g sv,?_⟩
  rw[a0P,a0P,if_pos rfl,<-hg]
  refine a3C _ (a2R fun sv h=>if_neg fun e=>?_)
  refine x1a2 (a0K.mp h) fun b hb za=>?_;obtain rfl:=za
  injection e with e
  injection e with e
  exact hnd.1 (e▸hb)
theorem LUpd.any {D:Addr}{so:SO}:∀ {ld:Led},(D,so)∈ld ->∃f:Obj ->Led,(∀o,LUpd D so (.obj o) ld (f o))∧(∀o p,p∈ld ->p∈f o∨p=(D,so))∧∀o,(D,.obj o)∈f o
 | [],h=>nomatch h
 |p::ld,h=>by
  rcases a0G.mp h with rfl|h
  ·refine⟨fun o=>(D,.obj o)::ld,fun o=>.head,fun o p hp=>?_,fun o=>.head _⟩
   rcases a0G.mp hp with rfl|hp
   ·exact .inr rfl
   ·exact .inl (.tail _ hp)
  ·refine x1a3 (LUpd.any h) fun f h1 h2 h3=>?_
   refine⟨fun o=>p::f o,fun o=>.tail (h1 o),fun o q hq=>?_,fun o=>.tail _ (h3 o)⟩
   rcases a0G.mp hq with rfl|hq
   ·exact .inl (.head _)
   ·rcases h2 o q hq with h|h
    ·exact .inl (.tail _ h)
    ·exact .inr h
theorem p2m {w:World}{a:Addr}{xs:List Str}(h0:0<xs.length)(hn:xs.length<=900)(hs:∀x∈xs,Txt.startswith x (Str.ofString "/")=true)(hl:∀x∈xs,x.length<=900):Cn w 3 199 [SR a] (fun h=>HasL h a (xs.map .str)) (fun sv new=>sv=.str (cpathF xs)∧new=[]):=by
 refine k8c (σ:=[(Str.ofString "paths",SR a)]) (binds:=fun vs=>[(Str.ofString "paths",vs.headD .none)]) (by k_is) (by k_is) (fun vs s h=>?_) (fun vs h=>?_) (by decide) (fun vs L h=>?_) (by decide+kernel) (fun h₀ sh L=>?_)
 ·replace h:=h.one;revert h;intro zq;refine x1a2 zq fun _ za h=>?_;clear zq;obtain rfl:=za
  obtain rfl:=h
  exact a1V rfl
 ·rfl
 ·replace h:=h.one;revert h;intro zq;refine x1a2 zq fun _ za h=>?_;clear zq;obtain rfl:=za
  obtain rfl:=h
  intro p hp
  rw[a0B.mp hp]
  exact⟨_,rfl,.inl ⟨rfl,rfl⟩⟩
 intro C G ha
 refine Xs.cons (X1.a0 (Ew.tupmap (f:=123) (xs:=xs) G (Ev.name rfl) ha.has (p4o hn) (fun x=>m2i) (by walk_at "okA") (fun D=>?_) (by k_is)))
 show Xs _ _ _ (_::_) _
 refine Xs.cons (X1.a1 (Tst.not (Tst.ofT (us:=xs.map .str) (Ev.name rfl) (Has.mem (.head _)) (by simp;exact p4q hn))) (fun q=>?_) (fun q=>?_))
 ·have q:xs=[]:=by simpa using q
  subst q;cases h0
 refine Xs.nil ?_
 show Xs _ _ _ (_::_) _
 obtain⟨x0,xr,rfl⟩:∃a r,xs=a::r:=by cases xs with|nil=>cases h0|cons a r=>exact⟨a,r,rfl⟩
 refine Xs.a0 1 (fun σ ld=>σ=[(Str.ofString "curdir",.str (Str.ofString ".")),(Str.ofString "sep",.str (Str.ofString "/")),(Str.ofString "paths",SR D)]∧ld=[(D,.tup ((x0::xr).map .str))]) ?_ ?_
 ·refine Xs.cons (X1.a1 (Tst.isb G (Ev.a8 (xs:=(x0::xr).map .str) (Ev.name rfl) (Has.mem (.head _)) Ev.a1 (by decide) rfl (by decide))) (fun q=>nomatch q) (fun _=>?_))
  refine Xs.cons (X1.asgK (Ew.pure Ev.a0 ?_) rfl rfl rfl)
  show Xs _ _ _ (_::_) _
  refine Xs.cons (X1.asgK (Ew.pure Ev.a0 ?_) rfl rfl rfl)
  iterate 2 refine Xs.nil ?_
  exact⟨_,_,⟨rfl,rfl⟩,⟨rfl,rfl,rfl,trivial⟩,.refl _⟩
 rintro σ ld ⟨rfl,rfl⟩
 show Xs _ _ _ [_] _
 refine Xs.cons (X1.tryOk ?_)
 have hsz:(x0::xr).length<=900:=hn
 generalize hX:x0::xr=xs at*
 refine Xs.cons (X1.asgO (cl:=[(Str.ofString "sep",L+1)]) (xs:=xs.map .str) (g:=fun sv=>match sv with| .str x=>(Txt.split x (Str.ofString "/")).map .str|_=>[]) (Src.tup G.h (Ev.name rfl) (Has.mem (.head _))) (.one (mem:=.tail _ (.head _))) (fun B=>rfl) (by simp;exact p4q hsz) (fun sv hsv B s=>?_) fun D2 l2 hl2 nd2=>?_)
 ·refine x1a2 (a0K.mp hsv) fun x hx za=>?_;obtain rfl:=za
  exact Eo.splitS (Ev.name rfl) (Ev.name rfl) (by decide+kernel) (by have:=hl x hx;exact p4q this) fun D=>⟨D,rfl,rfl⟩
 rw[a1X,show(List.map ((fun sv=>match sv with| .str x=>(Txt.split x (Str.ofString "/")).map .str|_=>[])∘SV.str) xs)=xs.map fun x=>(Txt.split x (Str.ofString "/")).map SV.str from rfl]
 rw[a0J]at hl2
 show Xs _ _ _ (_::_) _
 refine Xs.cons (X1.tryOk (Xs.cons (X1.asg1 G (Eo.setT (cl:=[(Str.ofString "sep",L+1)]) (xs:=xs.map .str) (Src.tup G.h (Ev.name rfl) (Has.mem (a0L _ (.head _)))) (.one (mem:=.tail _ (.head _))) (fun B=>rfl) (by rw[a0J];exact h0) (fun sv hsv B s=>?_) fun D=>⟨D,rfl,rfl⟩) ?_)))
 ·refine x1a2 (a0K.mp hsv) fun x hx za=>?_;obtain rfl:=za
  exact Ev.to (Ev.sm1 (Ev.name rfl) (Ev.name rfl) F.slot_str_startswith F.type_str_startswith m2p) (by rw[hs x hx])
 refine Xs.nil ?_
 show Xs _ _ _ (_::_) _
 obtain⟨g,hg⟩:=m5f l2 (xs.map fun x=>(rowOf x).map .str) nd2 (by rw[a0J,hl2])
 refine Xs.cons (X1.asgO (cl:=[(Str.ofString "curdir",L+2)]) (xs:=l2.map SR) (g:=g) (Src.list G.h (Ev.name rfl) (Has.mem (.head _))) (.one (mem:=.head _)) (fun B=>rfl) (by simp;exact om455 hl2 hsz) (fun sv hsv B s=>?_) fun D3 l3 hl3 nd3=>?_)
 ·obtain⟨i,hi⟩:=a4U hsv
  have hi2:i<l2.length:=by have:=(a1A.mp hi).1;rwa[a0J]at this
  have hi3:i<xs.length:=om15 hi2 hl2
  have hxi:xs[i]?=some xs[i]:=a0D hi3
  have hli:l2[i]?=some l2[i]:=a0D hi2
  rw[a0T,hli]at hi
  injection hi with hi
  have hgi:g sv=(rowOf xs[i]).map .str:=by
   have:=a3C (fun l=>l[i]?) hg
   simp only[a0T,hli,hxi,Option.map_some]at this
   injection this with this
   rw[<-hi];exact this
  subst hi
  have hx:=hl _ (a2T hi3)
  have hsp:=k0s xs[i] (Str.ofString "/")
  have hsl:=k0l xs[i] (Str.ofString "/")
  refine Eo.comp (cl:=[(Str.ofString "curdir",L+2)]) (xs:=(Txt.split xs[i] (Str.ofString "/")).map .str) (p:=fun sv=>match sv with| .str c=>c !=Str.ofString ""&&c !=Str.ofString "."|_=>false) (f:=fun sv=>sv) (Src.list G.h (Ev.name rfl) (Has.mem (.tail _ (a0N _ (k4v hli (by rw[a0T,hxi];rfl)))))) ⟨.one (mem:=.head _),fun B=>rfl,fun a ha=>?_,?_,fun a ha B s=>?_,fun a ha _ B s=>Ev.name rfl⟩ fun D=>⟨D,rfl,?_⟩
  ·refine x1a2 (a0K.mp ha) fun c _ za=>?_;obtain rfl:=za;rfl
  ·rw[a0J];exact om360 hsl hx
  ·refine x1a2 (a0K.mp ha) fun c hc za=>?_;obtain rfl:=za
   exact .one (Tst.and (Tst.ofS (Ev.name rfl) (by have:=hsp c hc;exact om430 hx this)) fun _=>Tst.neS (Ev.name rfl) (Ev.name rfl))
  ·rw[hgi,List.map_id',List.filter_map];rfl
 show Xs _ _ _ (_::_) _
 rw[hg]
 rw[a0J]at hl3
 have e3:xs.length=l3.length:=om400 hl2 hl3
 have cb:=m4b (xs.map rowOf) (by rw[a0J];exact h0)
 dsimp only at cb
 rw[a0J,e3]at cb
 obtain⟨k1,hk1⟩:∃k,argBest (fun i j=>ltList ((xs.map rowOf).getD i []) ((xs.map rowOf).getD j [])) (l3.length-1)=k:=⟨_,rfl⟩
 obtain⟨k2,hk2⟩:∃k,argBest (fun i j=>ltList ((xs.map rowOf).getD j []) ((xs.map rowOf).getD i [])) (l3.length-1)=k:=⟨_,rfl⟩
 rw[hk1,hk2]at cb
 refine an4 cb fun b1 b2 hlt htk=>?_
 unfold cpathF
 rw[<-htk]
 have hls:∀ {σ ld} i l,l3[i]?=some l ->Has C σ ((D3,.list (l3.map SR))::k7u l3 (xs.map fun x=>(rowOf x).map SV.str)++ld) l (.list (((xs.map rowOf).getD i []).map .str)):=by
  intro σ ld i l h
  have hi:i<xs.length:=by have:=(a1A.mp h).1;exact om0 this e3
  refine Has.mem (.tail _ (a0N _ (k4v h ?_)))
  rw[a0E,a0T,a0T,a0D hi]
  rfl
 obtain⟨p,hp⟩:∃p,l3[k1]?=some p:=⟨_,a0D b1⟩
 obtain⟨q,hq⟩:∃q,l3[k2]?=some q:=⟨_,a0D b2⟩
 have hrow:∀k,k<l3.length ->(((xs.map rowOf).getD k []).length<=1000∧AllLen 1000 ((xs.map rowOf).getD k [])):=by
  intro k hk
  have hk:k<xs.length:=om0 hk e3
  have hx:=hl _ (a2T hk)
  rw[a0E,a0T,a0D hk]
  show(rowOf xs[k]).length<=1000∧AllLen 1000 (rowOf xs[k])
  have h1:=k0l xs[k] (Str.ofString "/")
  have h2:=a4N (fun c=>c !=Str.ofString ""&&c !=Str.ofString ".") (Txt.split xs[k] (Str.ofString "/"))
  refine⟨?_,fun c hc=>?_⟩
  ·unfold rowOf;exact om236 h1 hx h2
  ·have:=k0s xs[k] (Str.ofString "/") c (a5U.mp hc).1
   exact om153 hx this
 refine Xs.cons (X1.a0 (Ew.pure (Ev.minL (ls:=l3) (xss:=xs.map rowOf) G (Ev.name rfl) (Has.mem (.head _)) (by rw[a0J];exact om129 e3) (om11 b2) hls hk1 hp (kb rfl)) ?_))
 show Xs _ _ _ (_::_) _
 refine Xs.cons (X1.a0 (Ew.pure (Ev.maxL (ls:=l3) (xss:=xs.map rowOf) G (Ev.name rfl) (Has.mem (.head _)) (by rw[a0J];exact om129 e3) (om11 b2) hls hk2 hq (kb rfl)) ?_))
 show Xs _ _ _ (_::_) _
 have hPm:(p,SO.list (((xs.map rowOf).getD k1 []).map .str))∈(D3,SO.list (l3.map SR))::k7u l3 (xs.map fun x=>(rowOf x).map SV.str)++((D2,SO.list (l2.map SR))::k7u l2 (xs.map fun x=>(Txt.split x (Str.ofString "/")).map SV.str)++[(D,SO.tup (xs.map .str))]):=by
  have hi:k1<xs.length:=om0 b1 e3
  refine .tail _ (a0N _ (k4v hp ?_))
  rw[a0E,a0T,a0T,a0D hi]
  rfl
 have hQm:(q,SO.list (((xs.map rowOf).getD k2 []).map .str))∈(D3,SO.list (l3.map SR))::k7u l3 (xs.map fun x=>(rowOf x).map SV.str)++((D2,SO.list (l2.map SR))::k7u l2 (xs.map fun x=>(Txt.split x (Str.ofString "/")).map SV.str)++[(D,SO.tup (xs.map .str))]):=by
  have hi:k2<xs.length:=om0 b2 e3
  refine .tail _ (a0N _ (k4v hq ?_))
  rw[a0E,a0T,a0T,a0D hi]
  rfl
 refine x1a3 (LUpd.any hPm) fun f f1 f2 f3=>?_
 refine Xs.a1 f1 (fun o ho=>?_)
 have hlp:=hrow k1 b1
 have hlq:=hrow k2 b2
 generalize(xs.map rowOf).getD k1 []=xp at*
 generalize(xs.map rowOf).getD k2 []=xq at*
 have hP:∀ {σ it},Has C σ (f o++it) p (.list (xp.map .str)):=Has.frz (a0N _ (f3 o)) ho
 have hQ:∀ {σ it},Has C σ (f o++it) q (.list (xq.map .str)):=by
  intro σ it
  rcases f2 o _ hQm with h|h
  ·exact Has.mem (a0N _ h)
  ·injection h with h1 h2
   rw[h1,h2];exact hP
 have f4:=f3 o
 generalize f o=ld0 at*
 have hP0:=fun {σ}=> @hP σ []
 simp only[a2O]at hP0
 refine Xs.cons (X1.a0 (Ew.pure (Ev.name rfl) ?_))
 show Xs _ _ _ (_::_) _
 refine Xs.a0 1 (fun σ ld=>∃D4,(∀σ,Has C σ ld D4 (.list ((xp.take (lcp xp xq)).map .str)))∧σ=[(Str.ofString "common",SR D4),(Str.ofString "isabs",SB true),(Str.ofString "sep",.str (Str.ofString "/"))]) ?_ ?_
 ·refine Xs.cons (X1.a3 (Fs.enum G (Ev.name rfl) hP0) (fun i σ ld=>i<=lcp xp xq∧σ=[(Str.ofString "common",SR p),(Str.ofString "s2",SR q),(Str.ofString "s1",SR p),(Str.ofString "isabs",SB true),(Str.ofString "sep",.str (Str.ofString "/"))]∧ld=ld0) (fun σ ld=>∃D4,(∀σ,Has C σ ld D4 (.list ((xp.take (lcp xp xq)).map .str)))∧σ=[(Str.ofString "common",SR D4),(Str.ofString "isabs",SB true),(Str.ofString "sep",.str (Str.ofString "/"))]) ⟨_,_,⟨a0R _,rfl,rfl⟩,⟨rfl,rfl,rfl,rfl,rfl,trivial⟩,.refl _⟩ ?_ ?_ ?_ ?_)
  ·intro b hb
   rw[a0B.mp hb]
   exact .inr ⟨o,fun i σ ld h=>h.2.2▸f4⟩
  ·rintro i σ ld it hi zu hit;refine an3 zu fun hi2 za zb=>?_;clear zu;refine eq2 za zb ?_;clear za zb
   rw[a0J]at hi
   have hx:xp[i]?=some xp[i]:=a0D hi
   have hiq:=m8z xp xq i hlt hi2 hi
   have hy:xq[i]?=some xq[i]:=a0D hiq
   rw[k3p hx]
   show Xs C ((_,_)::(_,_)::_) _ _ _
   refine Xs.cons (X1.a1 (Tst.neS (Ev.name rfl) (Ev.a7 (xs:=xq.map .str) (sv:=.str xq[i]) (Ev.name rfl) hQ (Ev.name rfl) om7 (by rw[a1W,a0T,hy];rfl) (i63 (a0H (a4C hi) (a0H hlp.1 (kb rfl)))))) (fun h=>?_) (fun h=>?_))
   ·have e:=k6r xp xq i hi2 (fun _ _=>by
     rw[a0E,hx,a0E,hy]
     exact a3U.mp h)
    refine Xs.cons (X1.a0 (Ew.a3 (xs:=xp.map .str) (Ev.name rfl) hP (Ev.name rfl) om7 (by simp;exact a0H hlp.1 (kb rfl)) fun D4=>?_))
    show Xs _ _ _ (_::_) _
    refine Xs.cons (X1.brk ?_)
    refine⟨_,[(D4,_)],⟨D4,fun _=>Has.mem (.head _),rfl⟩,⟨rfl,rfl,rfl,trivial⟩,?_⟩
    rw[a1W,<-a6C,e]
    exact .cons_cons _ (a0X _)
   ·iterate 2 refine Xs.nil ?_
    refine⟨_,_,⟨?_,rfl,rfl⟩,⟨rfl,rfl,rfl,rfl,rfl,trivial⟩,.refl _⟩
    refine k6q xp xq i hi2 hi hiq ?_
    rw[a0E,hx,a0E,hy]
    exact ne_f h
  ·rintro σ ld zu;refine an3 zu fun hi za zb=>?_;clear zu;refine eq2 za zb ?_;clear za zb
   rw[a0J]at hi
   refine Xs.nil ?_
   have:=(k3x xp xq).1
   refine⟨_,_,⟨p,?_,rfl⟩,⟨rfl,rfl,rfl,trivial⟩,.refl _⟩
   rw[a2H (om20 hi)]
   exact fun _=>hP0
  ·rintro σ ld zu;refine x1a2 zu fun D4 hD za=>?_;clear zu;obtain rfl:=za
   refine Xs.nil ?_
   exact⟨_,_,⟨D4,hD,rfl⟩,⟨rfl,rfl,rfl,trivial⟩,.refl _⟩
 rintro σ ld zu;refine x1a2 zu fun D4 hD za=>?_;clear zu;obtain rfl:=za
 show Xs _ _ _ (_::_) _
 refine Xs.cons (X1.a0 (Ew.a0 (Tst.ofB (Ev.name rfl)) (fun _=>Ew.pure (Ev.name rfl) ?_) (fun q=>nomatch q)))
 show Xs _ _ _ [_] _
 have hll:(xp.take (lcp xp xq)).length<=1000:=by rw[a2F];exact a0H (Nat.min_le_right _ _) hlp.1
 have hal:AllLen 1000 (xp.take (lcp xp xq)):=fun c hc=>hlp.2 c (a3D hc)
 refine Xs.cons (X1.ret (Ew.pure (Ev.a6 (Ev.name rfl) (Ev.a9 (ts:=xp.take (lcp xp xq)) (Ev.name rfl) (Ev.name rfl) (hD _) hal (om479 hll) (by decide+kernel)) (Opr.addS ?_)) ?_))
 ·have:=k4x hal hll (x:=Str.ofString "/") (by decide+kernel)
  have:(Str.ofString "/").length=1:=by decide+kernel
  exact om28 this (by assumption)
 ·exact⟨[],⟨rfl,rfl⟩,a0X _⟩
theorem Are.ints:∀ {xs:List Int} {vs:List Value},Are (xs.map .int) vs ->IntsAre vs xs
 | [],_,.nil=>.nil
 |x::xs,_,.cons ⟨t,e⟩ r=>by subst e;exact .cons x t r.ints
section
variable {C:Cx}{σ:Loc}{ld ld':Led}{s s':Shared}{D l m:Addr}{x y:PySem.Str}{a b e:Expr}{pos px np ap tp sp cp p1 p2 p3:Pos}{sv sa sc:SV}{xs us:List SV}{P:Fl ->Loc ->Led ->Prop}{R:SV ->Led ->Prop}{i j:Int}{ns:List Int}{elts:List Expr}{svs:List SV}{k0:Nat}
theorem Opr.modI (h:j≠0):Opr C .Mod (.int i) (.int j) (.int (i.fmod j)):=.mk<|by
 rintro v u s Q E ⟨t,rfl⟩ ⟨t',rfl⟩ k
 exact mod_int' h (k _ _ .tk ⟨_,rfl⟩)
theorem Opr.fdivI (h:j≠0)(hp:Builtin.divisionGoesByPylong i j=false):Opr C .FloorDiv (.int i) (.int j) (.int (i.fdiv j)):=.mk<|by
 rintro v u s Q E ⟨t,rfl⟩ ⟨t',rfl⟩ k
 exact floordiv_int h (k _ _ .tk ⟨_,rfl⟩) (.inl hp)
theorem Ipr.fdivI (h:j≠0)(hp:Builtin.divisionGoesByPylong i j=false):Ipr C .FloorDiv (.int i) (.int j) (.int (i.fdiv j)):=.mk<|by
 rintro v u s Q E ⟨t,rfl⟩ ⟨t',rfl⟩ k
 exact ifloordiv_int h (k _ _ .tk ⟨_,rfl⟩) (.inl hp)
theorem Opr.powI (h:0<=j)(hz:(Builtin.Int.intBits i:Int)*j<=2^27):Opr C .Pow (.int i) (.int j) (.int (i^j.toNat)):=.mk<|by
 rintro v u s Q E ⟨t,rfl⟩ ⟨t',rfl⟩ k
 exact pow_int h hz (k _ _ .tk ⟨_,rfl⟩)
theorem Ev.absI (G:Gd C)(ha:Ev C σ ld a (.int i))(e1:autoParam (nsIn (hd.heap_1 C.w.params) mainGlobals (Str.ofString "abs")=some none) aK)(hx:autoParam (C.env.kindOf (Str.ofString "abs")=some .globalImplicit) aR)
  (he:autoParam (eval (.Call (.Name (Str.ofString "abs") np) [a] [] pos) C.env=(do callWith pos (<-eval (.Name (Str.ofString "abs") np) C.env) [] (backTo pos (starEach [a] C.env)) (backToKw pos (keywordEach [] C.env)))) aR)
  (hs:autoParam (starEach [a] C.env=(false,eval a C.env)::starEach [] C.env) aR):Ev C σ ld (.Call (.Name (Str.ofString "abs") np) [a] [] pos) (.int (if i<0 then -i else i)):=
 Ev.a2 G (.cons ha .nil hs) (fun vs s Q E hvs H k=>by
  refine x1a2 hvs.one fun _ za zx=>ex1 zx fun t zb=>?_;clear zx;obtain rfl:=za;obtain rfl:=zb
  exact call_abs_int fun u tk=>k _ _ .tk ⟨_,rfl⟩) e1 (by boot_by_name) (hx:=hx) (he:=he) (hs:=hs)
theorem Ev.sumEvery {lo st:Expr}(G:Gd C)(ha:Ev C σ ld a (SR l))(hl:Has C σ ld l (.list (ns.map .int)))(hlo:Ev C σ ld lo (.int i))(hst:Ev C σ ld st (.int j))(hj:j≠0)(hz:ns.length<=10000)
  (e1:autoParam (nsIn (hd.heap_1 C.w.params) mainGlobals (Str.ofString "sum")=some none) aK)(hx:autoParam (C.env.kindOf (Str.ofString "sum")=some .globalImplicit) aR)
  (he:autoParam (eval (.Call (.Name (Str.ofString "sum") np) [.Subscript a (.Slice (some lo) none (some st) sp) p1] [] pos) C.env=(do callWith pos (<-eval (.Name (Str.ofString "sum") np) C.env) [] (backTo pos (starEach [.Subscript a (.Slice (some lo) none (some st) sp) p1] C.env)) (backToKw pos (keywordEach [] C.env)))) aR)
  (hss:autoParam (starEach [.Subscript a (.Slice (some lo) none (some st) sp) p1] C.env=(false,eval (.Subscript a (.Slice (some lo) none (some st) sp) p1) C.env)::starEach [] C.env) aR){ops:Addr ->List Value}
  (hs:autoParam (∀D,subscripted (.Slice (some lo) none (some st) sp) false (.ref l) (.ref D)=operate (ops D) (getItem (.ref l) (.ref D))) aJ)
  (ht:autoParam (∀r,letTemporaryGo a (.ref l) r=Pure.pure ()) aJ):Ev C σ ld (.Call (.Name (Str.ofString "sum") np) [.Subscript a (.Slice (some lo) none (some st) sp) p1] [] pos) (.int (pickNums ns (some i) none (some j)).sum):=.mk fun s Q E H k=>by
 refine Call_ (k0i G H e1 (by boot_by_name) (by decide+kernel) hx (by decide+kernel) (callWith_builtin1 (a2J ?_ hss) hss (by rfl))) he
 walk1
 refine ha.run s _ _ H fun v s1 g1 hv=>?_
 obtain rfl:=hv
 walk1
 refine hlo.run _ _ _ (H.go g1) fun v s2 g2 hv=>?_
 obtain⟨u,rfl⟩:=hv
 walk1
 walk1
 refine hst.run _ _ _ ((H.go g1).go g2) fun v s3 g3 hv=>?_
 obtain⟨u2,rfl⟩:=hv
 have H':=((H.go g1).go g2).go g3
 refine x1a2 (hl.isList H') fun vs hI hA=>?_
 have hi:IntsAre vs ns:=hA.ints
 refine subscriptTail_ops (Heap.IsList.typeIs (s:={s3 with heap:=s3.heap.push {cls:=.type "slice",data:=.fields #[_,_,_]}}) (hI.push _)) list_getitem_lookup
  (wpAny_getItem_list_slice (hI.push _) (Heap.IsSliceOf.new ..) (IsPart.int _ _) IsPart.none (IsPart.int _ _) (fun q=>hj (a4X q)) (a4D ?_) (by rw[a1S];have:=hA.len;rw[a0J]at this;simp;exact om8 this hz)) (hs _) ht
 have hp:=hi.pick (some i) none (some j)
 obtain⟨xs,hx⟩:=hp.allInts.items
 refine sum_intListG G.h (xs:=xs) ⟨_,a0I _ rfl,rfl,_,by rw[<-hx]⟩ fun h' tk t' hk=>?_
 have e1:pickNums ns (some i) none (some j)=xs.toList.map (·.1):=by
  rw[<-nums_intItems,<-hx]
  exact hp.numsOf.symm
 have e2:preSum (numAt xs) xs.size=(pickNums ns (some i) none (some j)).sum:=by
  rw[preSum_eq,a2H (by simp),e1]
 rw[e2]
 exact k _ {s3 with heap:=h',toks:=tk} (((g1.trans g2).trans g3).trans (.of fun b o e=>hk b o (a0C _ (a0C _ e)))) ⟨_,rfl⟩
theorem Src.tupE (hh:C.A.handled=none)(h:EvL C σ ld elts svs)(hz:svs.length<=10000):Src C σ ld (.Tuple elts k0 pos) svs:=.mk fun s Q E H k=>by
 walk1
 refine h.run _ s _ E H fun vs s' g hv=>?_
 refine a6M (SrcAt.tup hh (g.trans (.of fun b o e=>a0C _ e)) ⟨_,a0I _ rfl,rfl,_,rfl⟩ hv k) (by rw[a1S];have:=hv.len;exact om8 this hz)
theorem X1.appendE {xs:List SV}(ha:Ev C σ ld a (SR D))(hb:Ew C σ ld b fun sv ld'=>∃ld'',LUpd D (.list xs) (.list (xs++[sv])) ld' ld''∧P .next σ ld'')(hD:TyIs C σ ld (SR D) "list")(hz:xs.length<=10000){pl:Sem Bool}
  (he:autoParam (eval (.Call (.Attribute a (Str.ofString "append") ap) [b] [] cp) C.env=(do
   let ov <-eval a C.env
   standAt ap.atName
   let(f,first) <-holding [ov] (getMethod ov (Str.ofString "append") pl)
   callWith cp f first (backTo cp (starEach [b] C.env)) [])) aR)
  (hs:autoParam (starEach [b] C.env=(false,eval b C.env)::starEach [] C.env) aR) (hi:autoParam (interactive C.env=false) aR) (hw:autoParam (swapsWith (.Call (.Attribute a (Str.ofString "append") ap) [b] [] cp) none pos.line C.env=Pure.pure false) aR):X1 C σ ld (.Expr (.Call (.Attribute a (Str.ofString "append") ap) [b] [] cp) pos) P:=by
 refine X1.exprW (Ew.meth (T:="list") (id:="list.append") ha (EwL.cons (.mk fun s0 Q0 E0 H0 k0=>hb.run s0 Q0 E0 H0 fun v0 sv' ld' s' hv0 hp H'=>k0 v0 sv' ld' s' hv0 (.nil fun _ v vs s Q E hv hvs H k=>?_) H') hs) hD F.plainAttrs_list slot_list_append type_list_append he hs (by rfl)) hi hw
 refine x1a2 hp fun ld'' U p=>?_
 clear H0 k0 H' hv0
 obtain rfl:=hv
 refine x1a2 hvs.one fun _ za hv1=>?_;obtain rfl:=za
 refine x1a3 (H.led _ U.mem) fun o ho za _=>?_;obtain⟨vs,n,rfl,hA⟩:=za
 refine append_at (hsz:=by rw[a1S,a1M];have:=hA.len;exact om8 this hz) ho fun h' hs' ho'=>?_
 exact k .none SN ld'' _ rfl ⟨rfl,p⟩ (H.upd (s':={s with heap:=h'}) U (fun b o hb e=>hs'.extBut b o hb e) ho' ⟨_,n+1,by rw[List.push_toArray],hA.app (.cons hv1 .nil)⟩ (C.ok _ _ _ H.rest))
end
theorem CapOk.two {C:Cx}{scope:Scope}{x y:Str}{c d:Addr}{σ:Loc}{sv sw:SV}(hxy:autoParam (x≠y) aE)(hcd:c≠d)(clos:autoParam (closureFor scope C.env=Pure.pure [(x,c),(y,d)]) aR)(m1:(x,c)∈C.env.cells)(m2:(y,d)∈C.env.cells)(h1:autoParam (σ.lookup x=some sv) aR)(h2:autoParam (σ.lookup y=some sw) aR)
  (k1:autoParam (C.env.kindOf x=some .cell) aR)(k2:autoParam (C.env.kindOf y=some .cell) aR)(l1:autoParam (C.env.cells.lookup x=some c) aR)(l2:autoParam (C.env.cells.lookup y=some d) aR)(hb:autoParam (∀B,(compEnvC scope [(x,c),(y,d)] B C.env).kindOf x=some .cell) aI)
  (hb2:autoParam (∀B,(compEnvC scope [(x,c),(y,d)] B C.env).kindOf y=some .cell) aI):CapOk C scope [(x,c),(y,d)] σ [(x,sv),(y,sw)]:=by
 refine⟨clos,fun p hp=>?_,a1L.mpr ⟨fun q=>hcd (a0B.mp q),a1L.mpr ⟨a0Z,a1U⟩⟩,fun p hp=>?_⟩
 ·rcases a0G.mp hp with rfl|hp
  ·exact m1
  ·rw[a0B.mp hp];exact m2
 ·rcases a0G.mp hp with rfl|hp
  ·exact⟨h1,.inl k1,by rw[l1,a3T,beq_self_eq_true],fun B=>.inl (hb B)⟩
  ·rw[a0B.mp hp]
   refine⟨h2,.inl k2,?_,fun B=>.inl (hb2 B)⟩
   have:(y==x)=false:=by rw[a2Q];exact Ne.symm hxy
   rw[l2,a3T,this,a3T,beq_self_eq_true]
noncomputable def kindsL:List Str:=["SunOS","win32","unknown","SunOS","Linux","win16"].map Str.ofString
noncomputable def issuesL:List Str:=["","5",".","6","10","4","a","unknown"," ","0","9","/"].map Str.ofString
noncomputable def piecesL:List Str:=["","1",".","0","-","+"," ","a","02","unknown","..","/"].map Str.ofString
noncomputable def m5p (m:List Str)(n:Nat)(x:Str):Prop:=∃l:List Str,l.length=n∧(∀y∈l,y∈m)∧x=Txt.join (Str.ofString "") l
noncomputable def IsRec (k i n b:Str):Prop:=k∈kindsL∧m5p issuesL 3 i∧m5p piecesL 5 n∧m5p piecesL 2 b
theorem p2e {m:List Str}{i:Nat}(h:i<m.length):m.getD i Str.empty∈m:=by
 rw[a0E,a0D h]
 exact a2T h
noncomputable def cellF (ns:List Int):SV ->SV
 | .int k=>.int ((if(pickNums ns (some k) none (some 5)).sum<0 then -(pickNums ns (some k) none (some 5)).sum else(pickNums ns (some k) none (some 5)).sum).fmod (10^(12:Int).toNat))
 |_=>SN
noncomputable def p1s (m:List Str)(fs:List Int):SV ->SV
 | .int k=>.str (m.getD (fs.getD k.toNat 0).toNat Str.empty)
 |_=>SN
theorem m0p (z m:Int)(hm:0<m):0<=z.fmod m∧z.fmod m<m:=by
 rw[Int.fmod_eq_emod_of_nonneg _ (Int.le_of_lt hm)]
 exact⟨Int.emod_nonneg z (Int.ne_of_gt hm),Int.emod_lt_of_pos z hm⟩
theorem p2r (ns:List Int)(n:Nat):∃cs:List Int,(intsFrom 0 n).map (cellF ns)=cs.map .int∧cs.length=n∧∀c∈cs,0<=c∧c<1000000000000:=by
 refine⟨(List.range n).map fun k:Nat=>(if(pickNums ns (some ((0:Int)+k)) none (some 5)).sum<0 then -(pickNums ns (some ((0:Int)+k)) none (some 5)).sum else(pickNums ns (some ((0:Int)+k)) none (some 5)).sum).fmod (10^(12:Int).toNat),?_,by simp,fun c hc=>?_⟩
 ·unfold intsFrom
  rw[a1X,a1X]
  rfl
 ·refine x1a2 (a0K.mp hc) fun k _ za=>?_;obtain rfl:=za
  exact m0p _ _ (by decide+kernel)
theorem m9m {z m:Int}(h:0<=z)(hm:0<m):0<=z.fdiv m∧z.fdiv m<=z:=by
 rw[Int.fdiv_eq_ediv_of_nonneg _ (om338 hm)]
 exact⟨Int.ediv_nonneg h (om338 hm),Int.ediv_le_self _ h⟩
theorem m0b (m:List Str)(fs:List Int)(hm:m.length=12)(hf:∀f∈fs,0<=f∧f<12)(hl:fs.length=10)(ks:List Int)(hk:∀k∈ks,0<=k∧k<10):∃ts:List Str,(ks.map SV.int).map (p1s m fs)=ts.map .str∧ts.length=ks.length∧∀y∈ts,y∈m:=by
 refine⟨ks.map fun k=>m.getD (fs.getD k.toNat 0).toNat Str.empty,?_,by simp,fun y hy=>?_⟩
 ·rw[a1X,a1X];rfl
 ·refine x1a2 (a0K.mp hy) fun k hkm za=>?_;obtain rfl:=za
  have hk:=hk k hkm
  have hlt:k.toNat<fs.length:=om96 hk hl
  have:=hf _ (a2T hlt)
  refine p2e ?_
  rw[a0E,a0D hlt]
  show(fs[k.toNat]).toNat<_
  exact om85 this hm
theorem menu_ok:(∀y∈issuesL,y.length<=7)∧(∀y∈piecesL,y.length<=7)∧∀y∈kindsL,y.length<=7:=by decide+kernel
theorem m0c {fs:List Int}(hf:∀f∈fs,0<=f∧f<12)(hl:fs.length=10){k:Int}(hk:0<=k∧k<10):(fs.map SV.int)[k.toNat]?=some (.int (fs.getD k.toNat 0))∧0<=fs.getD k.toNat 0∧fs.getD k.toNat 0<12:=by
 have hlt:k.toNat<fs.length:=om96 hk hl
 rw[a0T,a0E,a0D hlt]
 exact⟨rfl,hf _ (a2T hlt)⟩
theorem m0i {m:List Str}(hm:m.length=12){f:Int}(h:0<=f∧f<12):(m.map SV.str)[f.toNat]?=some (.str (m.getD f.toNat Str.empty)):=by
 have hlt:f.toNat<m.length:=om85 h hm
 rw[a0T,a0E,a0D hlt]
 rfl
theorem LUpd.pre {D:Addr}{so so':SO}{r r':Led}(U:LUpd D so so' r r'):∀l:Led,LUpd D so so' (l++r) (l++r')
 | []=>U
 |_::l=>.tail (U.pre l)
theorem LUpd.suf {D:Addr}{so so':SO}{r r':Led}(U:LUpd D so so' r r')(z:Led):LUpd D so so' (r++z) (r'++z):=by
 induction U with
 |head=>exact .head
 |tail _ ih=>exact .tail ih
theorem m6g {w:World}{a:Addr}{ns:List Int}(hn:ns.length<=1000):Cn w 0 204 [SR a] (fun h=>HasL h a (ns.map .int)) (fun sv new=>∃(D:Addr) (ls:List Addr),sv=SR D∧(D,SO.list (ls.map SR))∈new∧1<=ls.length∧ls.length<=5∧∀l∈ls,∃k i n b,(l,SO.tup [.str k,.str i,.str n,.str b])∈new∧IsRec k i n b):=by
 refine k8c (σ:=[(Str.ofString "script",SR a)]) (binds:=fun vs=>[(Str.ofString "script",vs.headD .none)]) (by k_is) (by k_is) (fun vs s h=>?_) (fun vs h=>?_) (by decide) (fun vs L h=>?_) (by decide+kernel) (fun h₀ sh L=>?_)
 ·replace h:=h.one;revert h;intro zq;refine x1a2 zq fun _ za h=>?_;clear zq;obtain rfl:=za
  obtain rfl:=h
  exact a1V rfl
 ·rfl
 ·replace h:=h.one;revert h;intro zq;refine x1a2 zq fun _ za h=>?_;clear zq;obtain rfl:=za
  obtain rfl:=h
  intro p hp
  rw[a0B.mp hp]
  exact⟨_,rfl,.inr ⟨rfl,⟨_,rfl⟩,rfl⟩⟩
 intro C G ha
 refine Xs.cons (X1.a0 (Ew.list (EwL.pure (svs:=kindsL.map .str) (.cons Ev.a0 (.cons Ev.a0 (.cons Ev.a0 (.cons Ev.a0 (.cons Ev.a0 (.cons Ev.a0 .nil)))))) ⟨kb rfl,fun Dk=>?_⟩)))
 show Xs _ _ _ (_::_) _
 refine Xs.cons (X1.asgK (Ew.list (EwL.pure (svs:=issuesL.map .str) (.cons Ev.a0 (.cons Ev.a0 (.cons Ev.a0 (.cons Ev.a0 (.cons Ev.a0 (.cons Ev.a0 (.cons Ev.a0 (.cons Ev.a0 (.cons Ev.a0 (.cons Ev.a0 (.cons Ev.a0 (.cons Ev.a0 .nil)))))))))))) ⟨kb rfl,fun Di=>?_⟩)) rfl rfl rfl)
 show Xs _ _ _ (_::_) _
 refine Xs.cons (X1.asgK (Ew.list (EwL.pure (svs:=piecesL.map .str) (.cons Ev.a0 (.cons Ev.a0 (.cons Ev.a0 (.cons Ev.a0 (.cons Ev.a0 (.cons Ev.a0 (.cons Ev.a0 (.cons Ev.a0 (.cons Ev.a0 (.cons Ev.a0 (.cons Ev.a0 (.cons Ev.a0 .nil)))))))))))) ⟨kb rfl,fun Dp=>?_⟩)) rfl rfl rfl)
 show Xs _ _ _ (_::_) _
 have ej:((if(5:Int)<((ns.map SV.int).length:Int)then(5:Int)else((ns.map SV.int).length:Int))-0).toNat=min ns.length 5:=by rw[a0J];split<;>(first|exact om134 (by assumption)|exact om100 (by assumption))
 refine Xs.cons (X1.asgC (cl:=[(Str.ofString "script",L+1)]) (xs:=intsFrom 0 (min ns.length 5)) (p:=fun _=>true) (f:=cellF ns) (ej▸Src.range1 G (.cons (Ev.min2 G (Ev.lenL (xs:=ns.map .int) G (Ev.name rfl) ha.has (by simp;omega)) Ev.a1) .nil) (by rw[a0J];split<;>omega) (by rw[a0J];split<;>omega)) ⟨.one (mem:=.tail _ (.tail _ (.tail _ (.head _)))),fun B=>rfl,fun a ha=>?_,by rw[k1g];omega,fun a ha B s=>.nil,fun a hk _ B s=>?_⟩ fun Dc=>?_)
 ·refine x1a2 (a0K.mp ha) fun k _ za=>?_;obtain rfl:=za;rfl
 ·refine x1a2 (a0K.mp hk) fun k _ za=>?_;obtain rfl:=za
  exact Ev.a6 (Ev.absI (G.blk rfl) (Ev.sumEvery (G.blk rfl) (Ev.name rfl) ha.has (Ev.name rfl) Ev.a1 (by decide) (p4s hn))) (Ev.a6 Ev.a1 Ev.a1 (Opr.powI (by decide) (by decide+kernel))) (Opr.modI (by decide+kernel))
 rw[a3X.mpr (fun _ _=>rfl)]
 show Xs _ _ _ (_::_) _
 refine x1a3 (p2r ns (min ns.length 5)) fun cs0 hcs hcl hcb=>?_
 rw[hcs]
 clear hcs ej
 refine Xs.a0 1 (fun σ ld=>∃(Dc:Addr) (cs:List Int),1<=cs.length∧cs.length<=5∧(∀c∈cs,0<=c∧c<1000000000000)∧σ=[(Str.ofString "cells",SR Dc),(Str.ofString "pieces",SR Dp),(Str.ofString "issues",SR Di),(Str.ofString "kinds",SR Dk)]∧ld=[(Dc,.list (cs.map .int)),(Dp,.list (piecesL.map .str)),(Di,.list (issuesL.map .str)),(Dk,.list (kindsL.map .str))]) ?_ ?_
 ·refine Xs.cons (X1.a1 (Tst.not (Tst.ofL (xs:=cs0.map .int) (Ev.name rfl) (Has.mem (.head _)) (by simp;exact om318 hcl))) (fun q=>?_) (fun q=>?_))
  ·refine Xs.cons (X1.a0 (Ew.list (EwL.pure (svs:=([251446,862474254]:List Int).map .int) (.cons Ev.a1 (.cons Ev.a1 .nil)) ⟨kb rfl,fun D2=>?_⟩)))
   iterate 2 refine Xs.nil ?_
   exact⟨_,_,⟨D2,[251446,862474254],by decide,by decide,by decide,rfl,rfl⟩,⟨rfl,rfl,rfl,rfl,trivial⟩,.cons_cons _ (.cons _ (.refl _))⟩
  ·refine Xs.nil (Xs.nil ?_)
   refine⟨_,_,⟨Dc,cs0,?_,by exact om321 hcl,hcb,rfl,rfl⟩,⟨rfl,rfl,rfl,rfl,trivial⟩,.refl _⟩
   cases cs0 with
   |nil=>simp at q
   |cons c r=>simp
 clear hcl hcb cs0 Dc
 rintro σ ld zu;refine x2a5 zu fun Dc cs hc1 hc5 hcb za zb=>?_;clear zu;refine eq2 za zb ?_;clear za zb
 show Xs _ _ _ (_::_) _
 refine Xs.a1 (so:=.list (cs.map .int)) (fun o=>.head) (fun o ho=>?_)
 refine Xs.cons (X1.a0 (Ew.list (EwL.pure .nil ⟨a0R _,fun Dr=>?_⟩)))
 show Xs _ _ _ (_::_) _
 refine Xs.cons (X1.a3 (Fs.list (xs:=cs.map .int) G.h (Ev.name rfl) (Has.frz (.tail _ (.head _)) ho)) (fun i σ ld=>∃(ls:List Addr) (tl:Led),ls.length=i∧(∀l∈ls,∃k i n b,(l,SO.tup [.str k,.str i,.str n,.str b])∈tl∧IsRec k i n b)∧σ=[(Str.ofString "records",SR Dr),(Str.ofString "pieces",SR Dp),(Str.ofString "issues",SR Di),(Str.ofString "kinds",SR Dk)]∧ld=tl++[(Dr,.list (ls.map SR)),(Dc,.obj o),(Dp,.list (piecesL.map .str)),(Di,.list (issuesL.map .str)),(Dk,.list (kindsL.map .str))]) (fun _ _=>False) ⟨_,_,⟨[],[],rfl,(fun _ h=>nomatch h),rfl,rfl⟩,⟨rfl,rfl,rfl,rfl,trivial⟩,.refl _⟩ ?_ ?_ ?_ (fun _ _ h=>h.elim))
 ·intro b hb
  rw[a0B.mp hb]
  exact .inr ⟨o,fun i σ ld z=>x2a4 z fun _ _ _ _ _ e=>e▸a0L _ (.tail _ (.head _))⟩
 ·rintro i σ ld it hi zu hit;refine x2a4 zu fun ls tl hl hr za zb=>?_;clear zu;refine eq2 za zb ?_;clear za zb
  rw[a0J]at hi
  have hci:=hcb _ (a2T hi)
  rw[a0E,a0T,a0D hi]
  generalize cs[i]=c at*;revert c;refine id ?_;intros
  show Xs C ((_,.int c)::_) _ (_::_) _
  refine Xs.cons (X1.asgK (Ew.list (EwL.pure .nil ⟨a0R _,fun Df=>?_⟩)) rfl rfl rfl)
  show Xs _ _ _ (_::_) _
  refine Xs.cons (X1.a0 (Ew.pure (Ev.a6 (Ev.name rfl) Ev.a1 (Opr.fdivI (by decide) (PyProof.noPylong_of_log2 (by decide+kernel)))) ?_))
  show Xs _ _ _ (_::_) _
  have hrest:0<=c.fdiv 6:=(m9m hci.1 (by decide)).1
  refine Xs.a0 1 (fun σ ld=>∃fs:List Int,fs.length=10∧(∀f∈fs,0<=f∧f<12)∧σ=[(Str.ofString "figures",SR Df),(Str.ofString "cell",.int c),(Str.ofString "records",SR Dr),(Str.ofString "pieces",SR Dp),(Str.ofString "issues",SR Di),(Str.ofString "kinds",SR Dk)]∧ld=(Df,.list (fs.map .int))::tl++[(Dr,.list (ls.map SR)),(Dc,.obj o),(Dp,.list (piecesL.map .str)),(Di,.list (issuesL.map .str)),(Dk,.list (kindsL.map .str))]++it) ?_ ?_
  ·refine Xs.cons (X1.a3 (Fs.range1 (n:=10) G (.cons Ev.a1 .nil) (by decide)) (fun j σ ld=>∃(fs:List Int) (r:Int),fs.length=j∧0<=r∧(∀f∈fs,0<=f∧f<12)∧σ=[(Str.ofString "rest",.int r),(Str.ofString "figures",SR Df),(Str.ofString "cell",.int c),(Str.ofString "records",SR Dr),(Str.ofString "pieces",SR Dp),(Str.ofString "issues",SR Di),(Str.ofString "kinds",SR Dk)]∧ld=(Df,.list (fs.map .int))::tl++[(Dr,.list (ls.map SR)),(Dc,.obj o),(Dp,.list (piecesL.map .str)),(Di,.list (issuesL.map .str)),(Dk,.list (kindsL.map .str))]++it) (fun _ _=>False) ⟨_,_,⟨[],_,rfl,hrest,(fun _ h=>nomatch h),rfl,rfl⟩,⟨rfl,rfl,rfl,rfl,rfl,rfl,rfl,trivial⟩,.refl _⟩ (fun _ h=>nomatch h) ?_ ?_ (fun _ _ h=>h.elim))
   ·rintro j σ ld it2 hj zu hit2;refine x2a5 zu fun fs r hfl hr0 hfb za zb=>?_;clear zu;refine eq2 za zb ?_;clear za zb
    rw[a0E,k1h hj]
    show Xs C ((_,_)::_) _ (_::_) _
    have hfm:=m0p r 12 (by decide)
    refine Xs.cons (X1.append (xs:=fs.map .int) (Ev.name rfl) (Ev.a6 (Ev.name rfl) Ev.a1 (Opr.modI (by decide))) .head (by simp;exact om375 hj hfl) ?_)
    show Xs _ _ _ [_] _
    refine Xs.cons (X1.aug (by with_unfolding_all rfl) Ev.a1 (Ipr.fdivI (by decide) (PyProof.noPylong_of_log2 (by decide+kernel))) ?_)
    refine Xs.nil ?_
    refine⟨_,_,⟨fs++[r.fmod 12],_,by simp[hfl],(m9m hr0 (by decide)).1,fun f hf=>?_,rfl,rfl⟩,⟨rfl,rfl,rfl,rfl,rfl,rfl,rfl,trivial⟩,?_⟩
    ·rcases a0V.mp hf with hf|hf
     ·exact hfb f hf
     ·rw[a0B.mp hf];exact hfm
    ·rw[a0U]
     exact .refl _
   ·rintro σ ld zu;refine x2a5 zu fun fs r hfl hr0 hfb za zb=>?_;clear zu;refine eq2 za zb ?_;clear za zb
    refine Xs.nil ?_
    exact⟨_,_,⟨fs,hfl,hfb,rfl,rfl⟩,⟨rfl,rfl,rfl,rfl,rfl,rfl,trivial⟩,.refl _⟩
  rintro σ ld zu;refine x1a4 zu fun fs hfl hfb za zb=>?_;clear zu;refine eq2 za zb ?_;clear za zb
  show Xs _ _ _ (_::_) _
  refine x1a3 (m0b issuesL fs rfl hfb hfl [1,3,7] (by decide)) fun ti ei li mi=>?_
  refine Xs.cons (X1.a0 (Ew.a6 Ev.a0 (Ew.comp (cl:=[(Str.ofString "issues",L+2),(Str.ofString "figures",L+4)]) (xs:=([1,3,7]:List Int).map .int) (p:=fun _=>true) (f:=p1s issuesL fs) (Src.tupE G.h (.cons Ev.a1 (.cons Ev.a1 (.cons Ev.a1 .nil))) (kb rfl)) ⟨.two (hcd:=fun h=>absurd (Nat.add_left_cancel h) (by decide)) (m2:=.head _) (m1:=.tail _ (.tail _ (.head _))),fun B=>rfl,(fun a ha=>by refine x1a2 (a0K.mp ha) fun k _ za=>?_;obtain rfl:=za;rfl),kb rfl,(fun a ha B s=>.nil),fun a ha _ B s=>?_⟩ fun Ji=>?_) (by decide+kernel)))
  ·refine x1a2 (a0K.mp ha) fun k hk za=>?_;obtain rfl:=za
   have hk:0<=k∧k<10:=(by decide:∀k∈([1,3,7]:List Int),0<=k∧k<10) k hk
   obtain⟨g1,g2⟩:=m0c hfb hfl hk
   exact Ev.a7 (Ev.name rfl) (Has.mem ((a0N _ (a0L _ (.tail _ (.tail _ (.tail _ (.head _)))))))) (Ev.a7 (Ev.name rfl) (Has.mem (.head _)) (Ev.name rfl) hk.1 g1 (om72 hk)) g2.1 (m0i rfl g2) (om70 g2)
  rw[a3X.mpr (fun _ _=>rfl),ei]
  refine⟨Ji,ti,rfl,Has.mem (.head _),fun y hy=>?_,by rw[li];exact kb rfl,?_⟩
  ·exact a0H (menu_ok.1 y (mi y hy)) (by decide)
  show Xs _ _ _ (_::_) _
  refine x1a3 (m0b piecesL fs rfl hfb hfl [0,2,4,6,8] (by decide)) fun tn en ln mn=>?_
  refine Xs.cons (X1.a0 (Ew.a6 Ev.a0 (Ew.comp (cl:=[(Str.ofString "pieces",L+3),(Str.ofString "figures",L+4)]) (xs:=([0,2,4,6,8]:List Int).map .int) (p:=fun _=>true) (f:=p1s piecesL fs) (Src.tupE G.h (.cons Ev.a1 (.cons Ev.a1 (.cons Ev.a1 (.cons Ev.a1 (.cons Ev.a1 .nil))))) (kb rfl)) ⟨.two (hcd:=fun h=>absurd (Nat.add_left_cancel h) (by decide)) (m2:=.head _) (m1:=.tail _ (.head _)),fun B=>rfl,(fun a ha=>by refine x1a2 (a0K.mp ha) fun k _ za=>?_;obtain rfl:=za;rfl),kb rfl,(fun a ha B s=>.nil),fun a ha _ B s=>?_⟩ fun Jn=>?_) (by decide+kernel)))
  ·refine x1a2 (a0K.mp ha) fun k hk za=>?_;obtain rfl:=za
   have hk:0<=k∧k<10:=(by decide:∀k∈([0,2,4,6,8]:List Int),0<=k∧k<10) k hk
   obtain⟨g1,g2⟩:=m0c hfb hfl hk
   exact Ev.a7 (Ev.name rfl) (Has.mem ((.tail _ (a0N _ (a0L _ (.tail _ (.tail _ (.head _)))))))) (Ev.a7 (Ev.name rfl) (Has.mem (.tail _ (.head _))) (Ev.name rfl) hk.1 g1 (om72 hk)) g2.1 (m0i rfl g2) (om70 g2)
  rw[a3X.mpr (fun _ _=>rfl),en]
  refine⟨Jn,tn,rfl,Has.mem (.head _),fun y hy=>?_,by rw[ln];exact kb rfl,?_⟩
  ·exact a0H (menu_ok.2.1 y (mn y hy)) (by decide)
  show Xs _ _ _ (_::_) _
  refine x1a3 (m0b piecesL fs rfl hfb hfl [5,9] (by decide)) fun tb eb lb mb=>?_
  refine Xs.cons (X1.a0 (Ew.a6 Ev.a0 (Ew.comp (cl:=[(Str.ofString "pieces",L+3),(Str.ofString "figures",L+4)]) (xs:=([5,9]:List Int).map .int) (p:=fun _=>true) (f:=p1s piecesL fs) (Src.tupE G.h (.cons Ev.a1 (.cons Ev.a1 .nil)) (kb rfl)) ⟨.two (hcd:=fun h=>absurd (Nat.add_left_cancel h) (by decide)) (m2:=.head _) (m1:=.tail _ (.head _)),fun B=>rfl,(fun a ha=>by refine x1a2 (a0K.mp ha) fun k _ za=>?_;obtain rfl:=za;rfl),kb rfl,(fun a ha B s=>.nil),fun a ha _ B s=>?_⟩ fun Jb=>?_) (by decide+kernel)))
  ·refine x1a2 (a0K.mp ha) fun k hk za=>?_;obtain rfl:=za
   have hk:0<=k∧k<10:=(by decide:∀k∈([5,9]:List Int),0<=k∧k<10) k hk
   obtain⟨g1,g2⟩:=m0c hfb hfl hk
   exact Ev.a7 (Ev.name rfl) (Has.mem ((.tail _ (.tail _ (a0N _ (a0L _ (.tail _ (.tail _ (.head _))))))))) (Ev.a7 (Ev.name rfl) (Has.mem (.tail _ (.tail _ (.head _)))) (Ev.name rfl) hk.1 g1 (om72 hk)) g2.1 (m0i rfl g2) (om70 g2)
  rw[a3X.mpr (fun _ _=>rfl),eb]
  refine⟨Jb,tb,rfl,Has.mem (.head _),fun y hy=>?_,by rw[lb];exact kb rfl,?_⟩
  ·exact a0H (menu_ok.2.1 y (mb y hy)) (by decide)
  show Xs _ _ _ [_] _
  obtain⟨kk,hk1,hk2⟩:∃kk,(kindsL.map SV.str)[(c.fmod 6).toNat]?=some (.str kk)∧kk∈kindsL:=by
   have hm:=m0p c 6 (by decide)
   have hlt:(c.fmod 6).toNat<kindsL.length:=by show _<6;exact om239 hm
   exact⟨kindsL[(c.fmod 6).toNat],by rw[a0T,a0D hlt];rfl,a2T hlt⟩
  have hm:=m0p c 6 (by decide)
  have inK:∀ {p1 p2 p3 p4:Addr×SO},(Dk,SO.list (kindsL.map .str))∈p1::p2::p3::(p4::tl++[(Dr,SO.list (ls.map SR)),(Dc,.obj o),(Dp,.list (piecesL.map .str)),(Di,.list (issuesL.map .str)),(Dk,.list (kindsL.map .str))]++it):=.tail _ (.tail _ (.tail _ (.tail _ (a0N _ (a0L _ (.tail _ (.tail _ (.tail _ (.tail _ (.head _))))))))))
  have inR:∀ {p1 p2 p3 p4:Addr×SO},(Dr,SO.list (ls.map SR))∈p1::p2::p3::(p4::tl++[(Dr,SO.list (ls.map SR)),(Dc,.obj o),(Dp,.list (piecesL.map .str)),(Di,.list (issuesL.map .str)),(Dk,.list (kindsL.map .str))]++it):=.tail _ (.tail _ (.tail _ (.tail _ (a0N _ (a0L _ (.head _))))))
  refine Xs.cons (X1.appendE (xs:=ls.map SR) (Ev.name rfl) (Ew.tuple (EwL.pure (.cons (Ev.a7 (xs:=kindsL.map .str) (sv:=.str kk) (Ev.name rfl) (Has.mem inK) (Ev.a6 (Ev.name rfl) Ev.a1 (Opr.modI (by decide))) hm.1 hk1 (om391 hm)) (.cons (Ev.name rfl) (.cons (Ev.name rfl) (.cons (Ev.name rfl) .nil)))) ⟨kb rfl,fun T=>⟨_,.tail (.tail (.tail (.tail (.tail ((LUpd.pre .head tl).suf it))))),?_⟩⟩)) (.list (Has.mem inR)) (by simp;exact om31 hi hl hc5))
  refine Xs.nil ?_
  refine⟨_,_,⟨ls++[T],(T,.tup [.str kk,.str (Txt.join (Str.ofString "") ti),.str (Txt.join (Str.ofString "") tn),.str (Txt.join (Str.ofString "") tb)])::tl,by simp[hl],fun l hm=>?_,rfl,rfl⟩,⟨rfl,rfl,rfl,rfl,trivial⟩,?_⟩
  ·rcases a0V.mp hm with hm|hm
   ·refine x4a2 (hr l hm) fun k i n b h1 h2=>?_
    exact⟨k,i,n,b,.tail _ h1,h2⟩
   ·rw[a0B.mp hm]
    exact⟨kk,_,_,_,.head _,hk2,⟨ti,li,mi,rfl⟩,⟨tn,ln,mn,rfl⟩,⟨tb,lb,mb,rfl⟩⟩
  ·rw[a0U]
   refine .cons_cons _ (.cons _ (.cons _ (.cons _ (.cons _ ?_))))
   simp
 ·rintro σ ld zu;refine x2a4 zu fun ls tl hl hr za zb=>?_;clear zu;refine eq2 za zb ?_;clear za zb
  rw[a0J]at hl
  show Xs _ _ _ [_] _
  refine Xs.cons (X1.ret (Ew.pure (Ev.name rfl) ?_))
  refine⟨_,⟨Dr,ls,rfl,a0L _ (.head _),by exact om434 hc1 hl,by exact le_of_eq_of_le hl hc5,fun l hm=>?_⟩,.refl _⟩
  refine x4a2 (hr l hm) fun k i n b h1 h2=>?_
  exact⟨k,i,n,b,a0N _ h1,h2⟩
structure Zs where
 it:Addr
 li:Addr
 its:Array Value
noncomputable abbrev ZipTup (h:Heap)(T:Addr)(vs:Array Value):Prop:=h.get? T=some {cls:=.type "tuple",data:=.seq vs}
section
variable {prog:Program}{w:World}{A:Around}{E:Value ->Shared ->Prop}{s:Shared}
theorem p3r {T:Addr}{vs:Array Value}{x:Value}{k:Nat}{Q:Unit ->Shared ->Prop}(hT:ZipTup s.heap T vs)(hz:vs.size<=sizeLine)
  (h:∀h',ZipTup h' T (vs.setIfInBounds k x) ->Heap.SameBut T s.heap h' ->Q () {s with heap:=h'}):wpAny (model prog w) A (updateSeq T (·.setIfInBounds k x)) Q E s:=by
 refine a2X hT rfl (h _ ?_ (a5H ..)) (hz:=hz) (_hz':=by rw[a6W];exact a3W hz)
 show Heap.get? _ _=_
 rw[a1G _ hT rfl]
 simp[Obj.mapSeq]
theorem m1d {β:Type} {TO:Addr} {i:Nat} {acc:β} {body:Value×Nat ->β ->Sem (ForInStep β)} (step:∀(p:Zs) (x:Value) (k:Nat) (s:Shared) (Q:ForInStep β ->Shared ->Prop) (vs:Array Value),vs.size<=1000 ->ZipTup s.heap TO vs ->s.heap.IsListIter p.it p.li i ->s.heap.IsList p.li p.its ->p.its[i]?=some x ->p.it≠TO ->p.li≠p.it ->
   (∀h',ZipTup h' TO (vs.setIfInBounds k x) ->h'.IsListIter p.it p.li (i+1) ->h'.objs.size=s.heap.objs.size ->(∀c o,c≠TO ->c≠p.it ->s.heap.get? c=some o ->h'.get? c=some o) ->Q (.yield acc) {s with heap:=h'}) ->
   wpAny (model prog w) A (body (.ref p.it,k) acc) Q E s):
  ∀(Z:List Zs) (k:Nat) (vs:Array Value) (s:Shared) (Q:β ->Shared ->Prop),vs.size<=1000 ->ZipTup s.heap TO vs ->(Z.map (·.it)).Nodup ->(∀p∈Z,p.it≠TO∧p.li≠TO∧∀q∈Z,p.li≠q.it) ->(∀p∈Z,s.heap.IsListIter p.it p.li i∧s.heap.IsList p.li p.its∧i<p.its.size) ->
   (∀h' vs',ZipTup h' TO vs' ->vs'.size=vs.size ->(∀j,j<k ->vs'[j]?=vs[j]?) ->(∀j p,Z[j]?=some p ->k+j<vs.size ->vs'[k+j]?=p.its[i]?) ->(∀p∈Z,h'.IsListIter p.it p.li (i+1)) ->h'.objs.size=s.heap.objs.size ->(∀c o,c≠TO ->(∀p∈Z,c≠p.it) ->s.heap.get? c=some o ->h'.get? c=some o) ->Q acc {s with heap:=h'}) ->
   wpAny (model prog w) A (forIn ((Z.map fun p=>Value.ref p.it).zipIdx k) acc body) Q E s
 | [],k,vs,s,Q,hv,hT,_,_,_,h=>by
  rw[a6V,List.zipIdx_nil,List.forIn_nil]
  exact a0F (h s.heap vs hT rfl (fun _ _=>rfl) (fun j p e=>by simp at e) (fun _ h=>nomatch h) rfl fun _ _ _ _ e=>e)
 |p::Z,k,vs,s,Q,hv,hT,nd,ap,rd,h=>by
  rw[a0P,a1L]at nd
  refine an3 (ap p (.head _)) fun a1 a2 a3=>?_
  refine an3 (rd p (.head _)) fun r1 r2 r3=>?_
  have nit:∀q∈Z,q.it≠p.it:=fun q hq e=>nd.1 (a0K.mpr ⟨q,hq,e⟩)
  rw[a0P,List.zipIdx_cons,a4H]
  refine a0A (step p p.its[i] k s _ vs hv hT r1 r2 (a2Z r3) a1 (a3 p (.head _)) fun h1 t1 i1 z1 k1=>?_)
  refine m1d step Z (k+1) _ {s with heap:=h1} Q (by rw[a6W];exact hv) t1 nd.2 (fun q hq=>⟨(ap q (.tail _ hq)).1,(ap q (.tail _ hq)).2.1,fun q' hq'=>(ap q (.tail _ hq)).2.2 q' (.tail _ hq')⟩)
   (fun q hq=>?_) fun h2 vs2 t2 s2 e2 f2 i2 z2 k2=>?_
  ·refine an3 (rd q (.tail _ hq)) fun q1 q2 q3=>?_
   exact⟨q1.at fun o e=>k1 _ o (ap q (.tail _ hq)).1 (nit q hq) e,q2.at fun o e=>k1 _ o (ap q (.tail _ hq)).2.1 ((ap q (.tail _ hq)).2.2 p (.head _)) e,q3⟩
  ·have hs:vs2.size=vs.size:=by rw[s2,a6W]
   refine h h2 vs2 t2 hs (fun j hj=>?_) (fun j q hq hk=>?_) (fun q hq=>?_) (z2.trans z1) fun c o c1 c2 e=>k2 c o c1 (fun q hq=>c2 q (.tail _ hq)) (k1 c o c1 (c2 p (.head _)) e)
   ·rw[e2 j (a3V hj),Array.getElem?_setIfInBounds_ne (Nat.ne_of_lt' hj)]
   ·cases j with
    |zero=>
     simp only[List.getElem?_cons_zero,Option.some.injEq]at hq
     subst hq
     rw[Nat.add_zero,e2 k (a2B _),Array.getElem?_setIfInBounds_self_of_lt (om313 hk),a2Z r3]
    |succ j=>
     rw[a5E]at hq
     have:=f2 j q hq (by rw[a6W];exact om82 hk)
     rw[<-this];congr 1;exact om57
   ·rcases a0G.mp hq with rfl|hq
    ·exact i1.at fun o e=>k2 _ o a1 (fun q hq e=>nit q hq e.symm) e
    ·exact i2 q hq
end
structure m5o (z TI TO:Addr)(Z:List Zs):Prop where
 TIz:TI≠z
 TOz:TO≠z
 TITO:TI≠TO
 nd:(Z.map (·.it)).Nodup
 ap:∀p∈Z,p.it≠TO∧p.li≠TO∧∀q∈Z,p.li≠q.it
 iz:∀p∈Z,p.it≠z∧p.li≠z∧TI≠p.it
noncomputable def m2v (Z:List Zs):Array Value:=(Z.map fun p=>Value.ref p.it).toArray
section
variable {prog:Program}{w:World}{A:Around}{E:Value ->Shared ->Prop}{s:Shared}
theorem p0x {z TI TO:Addr}{Z:List Zs}{i:Nat}{vs:Array Value}{Q:Value ->Shared ->Prop}(D:m5o z TI TO Z)(hz:IsZip s.heap z TI TO .none)(hTI:ZipTup s.heap TI (m2v Z))(hTO:ZipTup s.heap TO vs)(hv:vs.size=Z.length)(hne:0<Z.length)(hle:Z.length<=1000)
  (rd:∀p∈Z,s.heap.IsListIter p.it p.li i∧s.heap.IsList p.li p.its∧i<p.its.size)
  (hQ:∀(h':Heap) (vs':Array Value),IsZip h' z TI TO (rawInt s.heap.objs.size) ->ZipTup h' TO vs' ->vs'.size=Z.length ->(∀(j:Nat) (p:Zs),Z[j]?=some p ->vs'[j]?=p.its[i]?) ->(∀p∈Z,h'.IsListIter p.it p.li (i+1)) ->ZipTup h' s.heap.objs.size vs' ->h'.objs.size=s.heap.objs.size+1 ->
   (∀c o,c≠z ->c≠TO ->(∀p∈Z,c≠p.it) ->s.heap.get? c=some o ->h'.get? c=some o) ->Q (.ref s.heap.objs.size) {s with heap:=h'}):
  wpAny (model prog w) A (Builtin.«zip.__next__» ⟨[.ref z],[]⟩) (fun fin s'=>∃v,fin=.done (.ret v)∧Q v s') E s:=by
 show wpAny _ _ (field (.ref z) 2>>=_) _ _ _
 refine a0A (a2K hz rfl (x:=.bool false) rfl ?_)
 show wpAny _ _ (field (.ref z) 3>>=_) _ _ _
 refine a0A (a2K hz rfl (x:=.ref TI) rfl ?_)
 refine a0A (a2P hTI rfl ?_)
 have hem:(m2v Z).isEmpty=false:=by
  cases Z with
  |nil=>exact absurd hne (a1R _)
  |cons=>rfl
 dsimp only
 rw[hem,if_neg a2W]
 show wpAny _ _ (Builtin.SmallTypes.ownedTupleIsFree (.ref z)>>=_) _ _ _
 refine a0A ?_
 unfold Builtin.SmallTypes.ownedTupleIsFree
 refine a0A (a2K hz rfl (x:=.none) rfl (a0F ?_))
 simp only[a4Q]
 refine a0A (a5Y ?_)
 refine a0A (a2K hz rfl (x:=.ref TO) rfl ?_)
 refine a0A (wpAny_setField_rec hz (by simp) fun B2 hz1 D0=>?_)
 replace hz1:IsZip B2 z TI TO .ellipsis:=hz1
 refine a0A (m1d (TO:=TO) (i:=i) ?step Z 0 vs {s with heap:=B2} _ (by rw[hv];exact hle) (D0.extBut _ _ D.TOz hTO) D.nd D.ap (fun p hp=>?rd) ?fin)
 case rd=>
  refine an3 (rd p hp) fun r1 r2 r3=>?_
  exact⟨r1.at fun o e=>D0.extBut _ _ (D.iz p hp).1 e,r2.at fun o e=>D0.extBut _ _ (D.iz p hp).2.1 e,r3⟩
 case step=>
  intro p x k s' Q' vs1 v1 t1 r1 r2 hx n1 n2 kk
  refine a0A (wpAny_onRaise ?_)
  show wpAny _ _ (Builtin.SmallTypes.nextOf (.ref p.it)>>=_) _ _ _
  refine a0A (wpAny_nextOf_list_item r1 r2 hx fun B3 h12 B8=>a0F ?_)
  have hTO2:ZipTup B3 TO vs1:=B8.extBut _ _ (Ne.symm n1) t1
  refine a0A (a2P hTO2 rfl ?_)
  refine a0A (p3r hTO2 (a0H v1 (by decide)) fun B7 hTO3 C9=>?_)
  refine a0A (a5B (a0F (kk B7 hTO3 (h12.extBut C9.extBut n1) (by rw[C9.1,B8.1]) fun c o c1 c2 e=>C9.extBut _ _ c1 (B8.extBut _ _ c2 e))))
 intro C3 vs5 hTO5 hv5 _ sp h15 hsz hk
 refine a0A (a2P hTO5 rfl ?_)
 refine a0A (a6M ?_ (by rw[Array.length_toList,hv5,hv];exact a0H hle (by decide)))
 have hsz5:C3.objs.size=s.heap.objs.size:=by rw[hsz];exact D0.1
 have hz5:IsZip C3 z TI TO .ellipsis:=hk _ _ D.TOz.symm (fun p hp=>(D.iz p hp).1.symm) hz1
 have hk5:∀c o,c≠z ->c≠TO ->(∀p∈Z,c≠p.it) ->s.heap.get? c=some o ->C3.get? c=some o:=fun c o c1 c2 c3 e=>hk c o c2 c3 (D0.extBut _ _ c1 e)
 have hzlt:z<C3.objs.size:=a0M hz5
 show wpAny _ _ (Builtin.SmallTypes.ownedTupleHandOut (.ref z) (.ref C3.objs.size)>>=_) _ _ _
 refine a0A ?_
 unfold Builtin.SmallTypes.ownedTupleHandOut
 have hz6:IsZip (C3.push {cls:=.type "tuple",data:=.seq vs5.toList.toArray}) z TI TO .ellipsis:=a0C _ hz5
 refine a0A (wpAny_setField_rec hz6 (by simp) fun I6 hz7 hs7=>?_)
 replace hz7:IsZip I6 z TI TO (rawInt C3.objs.size):=hz7
 refine wpAny_setField_rec hz7 (by simp) fun E8 E9 hs8=>?_
 replace E9:IsZip E8 z TI TO (rawInt C3.objs.size):=E9
 have up:∀c o,c≠z ->C3.get? c=some o ->E8.get? c=some o:=fun c o c1 e=>hs8.extBut _ _ c1 (hs7.extBut _ _ c1 (a0C _ e))
 have hT8:ZipTup E8 C3.objs.size vs5:=hs8.extBut _ _ (a3E hzlt) (hs7.extBut _ _ (a3E hzlt) (a0I _ rfl))
 have hz8:E8.objs.size=C3.objs.size+1:=by rw[hs8.1,hs7.1,a1Q]
 rw[hsz5]at E9 hT8 hz8
 refine a0F ⟨_,rfl,?_⟩
 show Q (.ref C3.objs.size) _
 rw[hsz5]
 refine hQ E8 vs5 E9 (up _ _ D.TOz hTO5) (hv5.trans hv) (fun j p e=>?_) (fun p hp=>(h15 p hp).at fun o e=>up _ o (D.iz p hp).1 e) hT8 hz8 fun c o c1 c2 c3 e=>up c o c1 (hk5 c o c1 c2 c3 e)
 have hj:j<Z.length:=(a1A.mp e).1
 have:=sp j p e (by rw[hv];exact Nat.add_lt_of_lt_sub' hj)
 rwa[Nat.zero_add]at this
theorem p3s {z TI TO:Addr}{p:Zs}{Z:List Zs}{i:Nat}{vs:Array Value}{Q:Fin ->Shared ->Prop}(hh:A.handled=none)(D:m5o z TI TO (p::Z))(hz:IsZip s.heap z TI TO .none)(hTI:ZipTup s.heap TI (m2v (p::Z)))(hTO:ZipTup s.heap TO vs)
  (h1:s.heap.IsListIter p.it p.li i)(hl1:s.heap.IsList p.li p.its)(hx:p.its[i]?=none)
  (hE:∀h' e,(∀c o,c≠z ->c≠TO ->c≠p.it ->s.heap.get? c=some o ->h'.get? c=some o) ->(∃o,h'.get? e=some o∧o.cls=.type "StopIteration") ->E (.ref e) {s with heap:=h'}):
  wpAny (model prog w) A (Builtin.«zip.__next__» ⟨[.ref z],[]⟩) Q E s:=by
 show wpAny _ _ (field (.ref z) 2>>=_) _ _ _
 refine a0A (a2K hz rfl (x:=.bool false) rfl ?_)
 show wpAny _ _ (field (.ref z) 3>>=_) _ _ _
 refine a0A (a2K hz rfl (x:=.ref TI) rfl ?_)
 refine a0A (a2P hTI rfl ?_)
 dsimp only
 rw[show(m2v (p::Z)).isEmpty=false from rfl,if_neg a2W]
 show wpAny _ _ (Builtin.SmallTypes.ownedTupleIsFree (.ref z)>>=_) _ _ _
 refine a0A ?_
 unfold Builtin.SmallTypes.ownedTupleIsFree
 refine a0A (a2K hz rfl (x:=.none) rfl (a0F ?_))
 simp only[a4Q]
 refine a0A (a5Y ?_)
 refine a0A (a2K hz rfl (x:=.ref TO) rfl ?_)
 refine a0A (wpAny_setField_rec hz (by simp) fun B2 hz1 D0=>?_)
 replace hz1:IsZip B2 z TI TO .ellipsis:=hz1
 refine a0A ?_
 rw[show(m2v (p::Z)).toList=Value.ref p.it::Z.map fun p=>Value.ref p.it from rfl]
 simp only[List.zipIdx_cons,a4H]
 have q:=D.iz p (.head _)
 refine a0A (a0A (wpAny_onRaise ?_))
 show wpAny _ _ (Builtin.SmallTypes.nextOf (.ref p.it)>>=_) _ _ _
 refine a0A (wpAny_nextOf_list_end hh (h1.extBut D0.extBut q.1) (hl1.extBut D0.extBut q.2.1) hx fun B3 e B8 he=>?_)
 refine x1a2 he fun oe hoe hce=>?_
 have F8:IsZip B3 z TI TO .ellipsis:=B8 _ _ q.1.symm hz1
 have hez:e≠z:=fun x=>by subst x;rw[F8]at hoe;cases hoe;simp at hce
 refine wpAny_setField_rec F8 (by simp) fun B7 _ C9=>hE B7 e (fun c o c1 _ c3 x=>C9.extBut _ _ c1 (B8 _ _ c3 (D0.extBut _ _ c1 x))) ⟨oe,C9.extBut _ _ hez hoe,hce⟩
theorem WalksU.zips (hh:A.handled=none){z TI TO:Addr}{C2:Zs}{Z0:List Zs}{n:Nat}(D:m5o z TI TO (C2::Z0))(hle:(C2::Z0).length<=1000)(hn:∀p∈C2::Z0,p.its.size=n):
  WalksU prog w A z (z::TI::TO::((C2::Z0).map (·.it)++(C2::Z0).map (·.li))) (z::TI::TO::(C2::Z0).map (·.it)) n
   (fun i vals=>vals.size=(C2::Z0).length∧∀(j:Nat) (p:Zs),(C2::Z0)[j]?=some p ->vals[j]?=p.its[i]?)
   (fun i h=>IsZip h z TI TO .none∧ZipTup h TI (m2v (C2::Z0))∧(∃vs,ZipTup h TO vs∧vs.size=(C2::Z0).length)∧∀p∈C2::Z0,h.IsListIter p.it p.li i∧h.IsList p.li p.its)
   (fun i T h=>IsZip h z TI TO (rawInt T)∧ZipTup h TI (m2v (C2::Z0))∧(∃vs,ZipTup h TO vs∧vs.size=(C2::Z0).length)∧(∀p∈C2::Z0,h.IsListIter p.it p.li (i+1)∧h.IsList p.li p.its)∧T∉z::TI::TO::(C2::Z0).map (·.it)) where
 sub:=fun c hc=>by
  rcases a0G.mp hc with rfl|hc
  ·exact .head _
  ·rcases a0G.mp hc with rfl|hc
   ·exact .tail _ (.head _)
   ·rcases a0G.mp hc with rfl|hc
    ·exact .tail _ (.tail _ (.head _))
    ·exact .tail _ (.tail _ (.tail _ (a0N _ hc)))
 frame:=fun i h h' hst hk=>by
  refine an4 hst fun hz hTI za hp=>?_;clear hst;obtain⟨vs,hTO,hv⟩:=za
  refine⟨hk z (.head _) _ hz,hk TI (.tail _ (.head _)) _ hTI,⟨vs,hk TO (.tail _ (.tail _ (.head _))) _ hTO,hv⟩,fun p hp'=>?_⟩
  obtain⟨a,b⟩:=hp p hp'
  exact⟨a.at fun o e=>hk _ (.tail _ (.tail _ (.tail _ (a0N _ (a1N hp'))))) o e,b.at fun o e=>hk _ (.tail _ (.tail _ (.tail _ (a0L _ (a1N hp'))))) o e⟩
 item:=fun i s Q E hi hst hQ=>by
  refine an4 hst fun hz hTI za hp=>?_;clear hst;obtain⟨vs,hTO,hv⟩:=za
  have hT:s.TypeIs (.ref z) "zip":=⟨_,hz,rfl⟩
  unfold pyNext
  refine a0A (wpAny_attempt (a1I (name:=Str.ofString "__next__") hT F.slot_zip_next
   (a2E F.slot_zip_next hT F.entry_zip_next
    (p0x D hz hTI hTO hv (Nat.succ_pos _) hle (fun p hp'=>⟨(hp p hp').1,(hp p hp').2,by rw[hn p hp'];exact hi⟩) fun h' vs' a1 a2 a3 a4 a5 a6 a7 hk=>a0F ?_) (F.args_zip_next_1 _))))
  have lt:∀ {c o},s.heap.get? c=some o ->s.heap.objs.size≠c:=fun e=>a3E (a0M e)
  refine hQ s.heap.objs.size vs' h' s.toks ⟨a3,a4⟩ ⟨_,a6,rfl,_,rfl⟩ ⟨a1,hk _ _ D.TIz D.TITO (fun p hp'=>(D.iz p hp').2.2) hTI,⟨vs',a2,a3⟩,fun p hp'=>⟨a5 p hp',(hp p hp').2.at fun o e=>hk _ o (D.iz p hp').2.1 (D.ap p hp').2.1 (D.ap p hp').2.2 e⟩,fun hm=>?_⟩
   fun c o hc e=>hk c o (fun x=>hc (by rw[x];exact .head _)) (fun x=>hc (by rw[x];exact .tail _ (.tail _ (.head _)))) (fun p hp' x=>hc (by rw[x];exact .tail _ (.tail _ (.tail _ (a1N hp'))))) e
  rcases a0G.mp hm with q|hm
  ·exact lt hz q
  ·rcases a0G.mp hm with q|hm
   ·exact lt hTI q
   ·rcases a0G.mp hm with q|hm
    ·exact lt hTO q
    ·refine x1a2 (a0K.mp hm) fun p hp' q=>?_
     obtain⟨⟨o,e,_⟩,_⟩:=hp p hp'
     exact lt e q.symm
 go:=fun elts k pos i T s Q E hm hQ=>by
  refine an5 hm fun hz hTI za hp _=>?_;clear hm;obtain⟨vs,hTO,hv⟩:=za
  refine wpAny_letOwnedTupleGo_zip hz fun h' hz' hs'=>hQ h' ⟨hz',hs'.extBut _ _ D.TIz hTI,⟨vs,hs'.extBut _ _ D.TOz hTO,hv⟩,fun p hp'=>⟨(hp p hp').1.at fun o e=>hs'.extBut _ _ (D.iz p hp').1 e,(hp p hp').2.at fun o e=>hs'.extBut _ _ (D.iz p hp').2.1 e⟩⟩ fun c o hc e=>hs'.extBut _ _ (fun x=>hc (by rw[x];exact .head _)) e
 apart:=fun i T h hm=>hm.2.2.2.2
 done:=fun s Q E hst hQ=>by
  refine an4 hst fun hz hTI za hp=>?_;clear hst;obtain⟨vs,hTO,hv⟩:=za
  have hT:s.TypeIs (.ref z) "zip":=⟨_,hz,rfl⟩
  unfold pyNext
  obtain⟨h1,h2⟩:=hp C2 (.head _)
  refine a0A (wpAny_attempt (a1I (name:=Str.ofString "__next__") hT F.slot_zip_next
   (a2E F.slot_zip_next hT F.entry_zip_next (p3s hh D hz hTI hTO h1 h2 (Array.getElem?_eq_none (a4L (hn C2 (.head _)))) fun h' e hk he=>?_) (F.args_zip_next_1 _))))
  refine x1a2 he fun o ho hc=>?_
  refine a0A (wpAny_isInstance (T:="StopIteration") (b:=true) ⟨o,ho,hc⟩ isSubtype_stop ?_)
  exact a0F (hQ h' s.toks fun c o hc e=>hk c o (fun x=>hc (by rw[x];exact .head _)) (fun x=>hc (by rw[x];exact .tail _ (.tail _ (.head _)))) (fun x=>hc (by rw[x];exact .tail _ (.tail _ (.tail _ (.head _))))) e)
 self:=fun i s Q E hst hQ=>wpAny_pyIter_zip hst.1 hQ
end
noncomputable abbrev k0q (l:Addr):Obj:={cls:=.type "list_iterator",data:=.fields #[.ref l,.int 0 0]}
noncomputable abbrev zq1 (h:Heap)(a b c d:Addr):Heap:=(((h.push (k0q a)).push (k0q b)).push (k0q c)).push (k0q d)
noncomputable abbrev zq2 (h:Heap)(a b c d:Addr):Heap:=(zq1 h a b c d).push {cls:=.type "tuple",data:=.seq #[.ref h.objs.size,.ref (h.push (k0q a)).objs.size,.ref ((h.push (k0q a)).push (k0q b)).objs.size,.ref (((h.push (k0q a)).push (k0q b)).push (k0q c)).objs.size]}
noncomputable abbrev zq3 (h:Heap)(a b c d:Addr):Heap:=(zq2 h a b c d).push {cls:=.type "tuple",data:=.seq #[.none,.none,.none,.none]}
noncomputable abbrev zq4 (h:Heap)(a b c d:Addr):Heap:=(zq3 h a b c d).push {cls:=.type "zip",data:=.fields #[.none,.bool false,.bool false,.ref (zq1 h a b c d).objs.size,.ref (zq2 h a b c d).objs.size]}
theorem k8j (a b c d:Value):checkTypeCall "zip" ⟨[a,b,c,d],[]⟩=pure ():=by kernel_rfl
theorem m0g (a b c d:Value):checkBuiltinCall "zip.__new__" ⟨[.type "zip",a,b,c,d],[]⟩=pure ():=by kernel_rfl
theorem k5i (a b c d e:Value):argsOk "object.__init__" ⟨[a,b,c,d,e],[]⟩:=by
 unfold argsOk;rw[signature?_of (id:="object.__init__") (n:=['_','_','t','i','n','i','_','_']) (o:=['t','c','e','j','b','o']) (by kernel_rfl) F.owner_object];kernel_rfl
theorem k8m (a b c d:Addr)(xs ys zs ws:Array Value):
  Meets (Builtin.«zip.__new__» ⟨[.type "zip",.ref a,.ref b,.ref c,.ref d],[]⟩) (fun _ R s=>s.heap.IsList a xs∧s.heap.IsList b ys∧s.heap.IsList c zs∧s.heap.IsList d ws∧
   R (.ok (.ret (.ref (zq3 s.heap a b c d).objs.size))) {s with heap:=zq4 s.heap a b c d}):=
 .of_wp fun prog w A R s h=>by
  obtain⟨hp,g,dr,tk,os⟩:=s;revert h;intro zq;refine an5 zq fun h1 h2 h3 h4 h=>?_
  have hsub:=sub_zip
  have hL1:Heap.IsList (Shared.heap ⟨hp,g,dr,tk,os⟩) a xs:=h1
  have hL2:Heap.IsList (Shared.heap ⟨hp.push (k0q a),g,dr,tk,os⟩) b ys:=a6Q h2 _
  have hL3:Heap.IsList (Shared.heap ⟨(hp.push (k0q a)).push (k0q b),g,dr,tk,os⟩) c zs:=a6Q (a6Q h3 _) _
  have hL4:Heap.IsList (Shared.heap ⟨((hp.push (k0q a)).push (k0q b)).push (k0q c),g,dr,tk,os⟩) d ws:=a6Q (a6Q (a6Q h4 _) _) _
  wp_walk using a3J hL1,a3J hL2,a3J hL3,a3J hL4
  exact⟨_,rfl,h⟩
section
variable {prog:Program}{w:World}{A:Around}{E:Value ->Shared ->Prop}{s:Shared}
theorem m7b {a b c d:Addr}{xs ys zs ws:Array Value}{Q:Value ->Shared ->Prop}(h1:s.heap.IsList a xs)(h2:s.heap.IsList b ys)(h3:s.heap.IsList c zs)(h4:s.heap.IsList d ws)
  (h:∀h':Heap,let N:=s.heap.objs.size;IsZip h' (N+6) (N+4) (N+5) .none ->ZipTup h' (N+4) #[.ref N,.ref (N+1),.ref (N+2),.ref (N+3)] ->ZipTup h' (N+5) #[.none,.none,.none,.none] ->h'.IsListIter N a 0 ->h'.IsListIter (N+1) b 0 ->h'.IsListIter (N+2) c 0 ->h'.IsListIter (N+3) d 0 ->
   (∀c o,s.heap.get? c=some o ->h'.get? c=some o) ->Q (.ref (N+6)) {s with heap:=h'}):
  wpAny (model prog w) A (call (.type "zip") [.ref a,.ref b,.ref c,.ref d]) Q E s:=by
 refine callType_new F.called_zip (by decide) (k8j _ _ _ _) (m0g _ _ _ _) (fun obj=>k5i obj _ _ _ _) F.entry_zip_new (k8m a b c d xs ys zs ws) ⟨h1,h2,h3,h4,?_⟩
 generalize hN:s.heap.objs.size=N at h⊢
 have e1:(s.heap.push (k0q a)).objs.size=N+1:=by rw[a1Q,hN]
 have e2:((s.heap.push (k0q a)).push (k0q b)).objs.size=N+2:=by rw[a1Q,e1]
 have e3:(((s.heap.push (k0q a)).push (k0q b)).push (k0q c)).objs.size=N+3:=by rw[a1Q,e2]
 have e4:(zq1 s.heap a b c d).objs.size=N+4:=by rw[a1Q,e3]
 have e5:(zq2 s.heap a b c d).objs.size=N+5:=by rw[a1Q,e4]
 have e6:(zq3 s.heap a b c d).objs.size=N+6:=by rw[a1Q,e5]
 have up:∀ {x o},(zq1 s.heap a b c d).get? x=some o ->(zq4 s.heap a b c d).get? x=some o:=fun e=>a0C _ (a0C _ (a0C _ e))
 have g6:(zq4 s.heap a b c d).get? (zq3 s.heap a b c d).objs.size=some _:=a0I _ rfl
 have g5:(zq4 s.heap a b c d).get? (zq2 s.heap a b c d).objs.size=some _:=a0C _ (a0I _ rfl)
 have g4:(zq4 s.heap a b c d).get? (zq1 s.heap a b c d).objs.size=some _:=a0C _ (a0C _ (a0I _ rfl))
 have g3:=up (a0I (h:=((s.heap.push (k0q a)).push (k0q b)).push (k0q c)) (o:=k0q d) rfl)
 have g2:=up (a0C _ (a0I (h:=(s.heap.push (k0q a)).push (k0q b)) (o:=k0q c) rfl))
 have g1:=up (a0C _ (a0C _ (a0I (h:=s.heap.push (k0q a)) (o:=k0q b) rfl)))
 have g0:=up (a0C _ (a0C _ (a0C _ (a0I (h:=s.heap) (o:=k0q a) rfl))))
 show _∧_
 rw[e6]at g6⊢
 rw[e5]at g5 g6
 rw[e4]at g4 g6
 rw[e3]at g3 g4
 rw[e2]at g2 g4
 rw[e1]at g1 g4
 rw[hN]at g0 g4
 exact⟨⟨_,g6,rfl⟩,h _ g6 g4 g5 ⟨_,g0,rfl,rfl⟩ ⟨_,g1,rfl,rfl⟩ ⟨_,g2,rfl,rfl⟩ ⟨_,g3,rfl,rfl⟩ fun x o e=>up (a0C _ (a0C _ (a0C _ (a0C _ e))))⟩
end
section
variable {M:Model}{A:Around}{E:Value ->Shared ->Prop}{s:Shared}{env:Env}
theorem p0b {c:Code}{R:Result ->Shared ->Prop}(h:codeAny M A c R s):k5e M A c R s:=fun Γ p hc hΓ _=>h Γ p hc hΓ
theorem m5r {c:Code}{Q:Flow ->Shared ->Prop}(hc:k5e M A c (fun r s'=>match r with| .ok f=>Q f s'| .error _=>False) s):wpC M A (runOwn c env) Q E s:=by
 unfold runOwn
 refine k3z (fun Γ p hΓ hn=>?_)
 rw[Sem.wp_run]
 refine wpCode_mono (fun r s' h=>?_) (hc _ p rfl (hΓ.enter c none p (by intro x;cases x)) hn)
 cases r with
 |ok f=>exact h
 |error e=>exact h.elim
theorem p3t {target iter:Expr}{body orelse:List Stmt}{pos:Pos}{Q:Flow ->Shared ->Prop}
  (h:wpAny M A (eval iter env) (fun x B1=>wpAny M A (pyIter x) (fun it B0=>k5e M A (.forLoop target it body orelse env) (fun r s'=>match r with| .ok f=>Q f s'| .error _=>False) B0) E B1) E s)
  (hs:autoParam (∀x,foldedSetIterable iter env x=pure x) aI):wpC M A (exec (.For target iter body orelse pos) env) Q E s:=by
 rw[exec_For]
 exact k0d (a3P (k0d (a2L h (fun x B1 B2=>k0d (a5A (hs x) (k0d (a3P (k0d (a1O
  (a2L B2 (fun it B0 B3=>m5r B3) fun _ _ h'=>h'))))))) fun _ _ h'=>h')))
theorem m6y {c:Code}{R:Result ->Shared ->Prop}(hq:c.quiet=true)(I:Nat ->Shared ->Prop)
  (turn:∀n s,I n s ->wpC M (A.under c) (M.den c) (fun fin s'=>match fin with| .done f=>R (.ok f) s'| .again c'=>(c'=c∧∃m,m<n∧I m s')∨(c'.quiet=true∧k5e M A c' R s')) (fun e s'=>R (.error e) s') s)
  (n:Nat)(h:I n s):k5e M A c R s:=by
 induction n using Nat.strongRecOn generalizing s with
 |ind n ih=>
  refine k2q (k0z (turn n s h) (fun fin s' hf=>?_) fun _ _ h'=>h')
  cases fin with
  |done f=>exact hf
  |again c'=>
   rcases hf with⟨rfl,m,hm,hI⟩|hf
   ·exact⟨hq,ih m hm hI⟩
   ·exact hf
end
section
variable {prog:Program}{w:World}{A:Around}{E:Value ->Shared ->Prop}{s:Shared}
theorem p0a {R:Result ->Shared ->Prop}{target:Expr}{it:Value}{body:List Stmt}{env:Env}(I:Nat ->Shared ->Prop)
  (turn:∀n s,I n s ->wpAny (model prog w) A (pyNext it) (fun r B1=>match r with
   |none=>R (.ok .next) B1
   |some v=>wpAny (model prog w) A (letOwnedTupleGo target it v) (fun _ s1'=>
     wpAny (model prog w) A (assign target env v) (fun _ B0=>wpC (model prog w) A (execs body env) (fun f B5=>match f with
      | .next| .cont=>∃m,m<n∧I m B5
      | .brk=>R (.ok .next) B5
      | .ret v=>R (.ok (.ret v)) B5) (fun _ _=>False) B0) (fun _ _=>False) s1') (fun _ _=>False) B1) (fun _ _=>False) s)
  (n:Nat) (h:I n s):k5e (model prog w) A (.forLoop target it body [] env) R s:=by
 refine m6y rfl I (fun n s hI=>?_) n h
 show wpC _ A ((forTurn target it body [] env).onRaise (fun x=>do noteFrame x env;theTreesLotGoes x)) _ _ s
 refine k3z (k0z (E:=fun _ _=>False) ?_ (fun _ _ x=>x) fun _ _ x=>x.elim)
 simp only[forTurn]
 refine k0d (a3P (k0d (wpAny_onRaise (a2L (turn n s hI) (fun r B1 B2=>?_) fun _ _ h'=>h'.elim))))
 cases r with
 |none=>exact k1z (.inr ⟨rfl,p0b (codeAny_block (a4W B2))⟩)
 |some v=>
  refine k0d (a2L B2 (fun _ s1' h1'=>?_) fun _ _ h'=>h')
  refine k0d (a2L h1' (fun _ B0 B3=>k2a (k0z B3 (fun f B5 B7=>?_) fun _ _ h'=>h')) fun _ _ h'=>h')
  cases f with
  |next=>exact k1z (.inl ⟨rfl,B7⟩)
  |cont=>exact k1z (.inl ⟨rfl,B7⟩)
  |brk=>exact k1z B7
  |ret v=>exact k1z B7
end
noncomputable def frz (f:Addr ->Obj)(ld:Led):Led:=ld.map fun p=>(p.1,SO.obj (f p.1))
theorem k1u {f:Addr ->Obj}{ld:Led}{D:Addr}{so:SO}(h:(D,so)∈ld):(D,SO.obj (f D))∈frz f ld:=a0K.mpr ⟨(D,so),h,rfl⟩
theorem p5k {f:Addr ->Obj}{ld:Led}:(frz f ld).map (·.1)=ld.map (·.1):=by simp[frz,Function.comp_def]
section
variable {C:Cx}{σ σ0:Loc}{ld B9 l1 l2:Led}{s s':Shared}
theorem Hold.frzL (H:Hold C σ (l1++l2) s):∃f:Addr ->Obj,(∀p∈l1,p.2.is (f p.1))∧Hold C σ (frz f l1++l2) s:=by
 refine⟨fun a=>(s.heap.get? a).getD default,fun p hp=>?_,H.fr,fun p hp=>?_,H.cel,?_,H.rest⟩
 ·refine x1a3 (H.led p (a0N _ hp)) fun o e i _=>?_
  show p.2.is ((s.heap.get? p.1).getD default)
  rw[e];exact i
 ·rcases a0V.mp hp with hp|hp
  ·refine x1a2 (a0K.mp hp) fun q hq za=>?_;obtain rfl:=za
   refine x1a3 (H.led q (a0N _ hq)) fun o e _ r=>?_
   exact⟨o,e,by show o=(s.heap.get? q.1).getD default;rw[e];rfl,r⟩
  ·exact H.led p (a0L _ hp)
 ·have:=H.nodup
  rw[a0U]at this⊢
  rw[p5k];exact this
structure FsW (C:Cx)(σ:Loc)(ld:Led)(target it:Expr)(m:Nat)(R:Led ->List Addr ->Nat ->(Nat ->Loc) ->Prop):Prop where
 run:∀(s:Shared) (Q:Value ->Shared ->Prop) (E:Value ->Shared ->Prop),Hold C σ ld s ->
  (∀B9 fz n bind I fp wr Pi Md St B1 B0,R B9 fz n bind ->Hold C σ B9 B1 ->KTurns PR C.w C.A target I fp wr n Pi Md St ->(∀i h,St i h ->∀b∈wr,∃o,h.get? b=some o) ->St 0 B0.heap ->(∀b∈wr,B1.heap.get? b=none) ->wr.Nodup ->wr.length=m ->(∀b∈fp,b∈wr∨b∈fz) ->Grow B1 B0 ->
   (∀i v σ ld s (Q:Unit ->Shared ->Prop) (E:Value ->Shared ->Prop),i<n ->Pi i v s.heap ->Hold C σ ld s ->(∀s',Hold C (bind i++σ) ld s' ->Q () s') ->wpAny (model PR C.w) C.A (assign target C.env v) Q E s) ->Q (.ref I) B0) ->
  wpAny (model PR C.w) C.A (eval it C.env) (fun xv B1=>wpAny (model PR C.w) C.A (pyIter xv) Q E B1) E s
theorem forGC {target:Expr}{body:List Stmt}{I:Addr}{wr fp:List Addr}{ob:Addr ->Obj}{n:Nat}{Pi Md:Nat ->Value ->Heap ->Prop}{St:Nat ->Heap ->Prop}{P:Fl ->Loc ->Led ->Prop}{Q:Flow ->Shared ->Prop}
  (W:KTurns PR C.w C.A target I fp wr n Pi Md St)(J:Nat ->Loc ->Led ->Prop)(K:Loc ->Led ->Prop)(bind:Nat ->Loc)
  (H:Hold C σ0 (B9++its wr ob) s)(hst:St 0 s.heap)(h0:J 0 σ0 B9)(hob:∀i h,St i h ->∀b∈wr,∃o,h.get? b=some o)
  (hfp:∀b∈fp,b∈wr∨(∃o,C.h₀.get? b=some o)∨∃o,∀i σ ld,J i σ ld ->(b,SO.obj o)∈ld)
  (asg:∀i v σ ld s (Q:Unit ->Shared ->Prop) (E:Value ->Shared ->Prop),i<n ->Pi i v s.heap ->Hold C σ ld s ->(∀s',Hold C (bind i++σ) ld s' ->Q () s') ->wpAny (model PR C.w) C.A (assign target C.env v) Q E s)
  (turn:∀i σ ld it,i<n ->J i σ ld ->it.map (·.1)=wr ->XsC C (bind i++σ) (ld++it) body (forP it (J (i+1)) K P))
  (done:∀σ ld,J n σ ld ->P .next σ ld)(brk:∀σ ld,K σ ld ->P .next σ ld)
  (k:∀f fl σ' ld' s',fl.is f ->P fl σ' ld' ->Hold C σ' ld' s' ->Q f s'):
  k5e (model PR C.w) C.A (.forLoop target (.ref I) body [] C.env) (fun r s'=>match r with| .ok f=>Q f s'| .error _=>False) s:=by
 refine p0a (fun m s'=>∃i σ ld ob,Hold C σ (ld++its wr ob) s'∧St i s'.heap∧J i σ ld∧i<=n∧m=n+1-i) ?_ (n+1) ⟨0,σ0,B9,ob,H,hst,h0,a0R _,rfl⟩
 rintro m s' zu;refine x4a5 zu fun i σ ld ob H' hst' hJ hi za=>?_;clear zu;obtain rfl:=za
 by_cases hlt:i<n
 ·refine W.item i _ _ _ hlt hst' fun v B2 E4 hM C6=>?_
  refine W.go i v _ _ _ hM fun B3 hP E5 F1=>?_
  have kk:∀b o,b∉wr ->s'.heap.get? b=some o ->B3.get? b=some o:=fun b o hb e=>F1 b o hb (C6 b o hb e)
  have hob2:=hob _ _ E5
  have C8:Hold C σ (ld++its wr fun b=>(B3.get? b).getD default) {s' with heap:=B3,toks:=E4}:=H'.turn kk (fun b hb=>by
   obtain⟨o,ho⟩:=hob2 b hb
   show B3.get? b=some ((B3.get? b).getD default)
   rw[ho];rfl) (C.ok _ _ _ H'.rest)
  refine asg i v σ _ _ _ _ hlt hP C8 fun B5 C0=>?_
  have tr:∀ {σa σb:Loc} {la lb:Led} {sa sb:Shared},Hold C σa (la++its wr fun b=>(B3.get? b).getD default) sa ->Hold C σb (lb++its wr fun b=>(B3.get? b).getD default) sb ->(∃i σ,J i σ la) ->(∃i σ,J i σ lb) ->St (i+1) sa.heap ->St (i+1) sb.heap:=by
   rintro σa σb la lb sa sb Ha Hb zu zr2 hs;refine ex2 zu fun ia sia Ja=>?_;refine ex2 zr2 fun ib sib Jb=>?_;clear zr2
   refine W.frame _ _ _ hs fun b hb o e=>?_
   rcases hfp b hb with q| ⟨o',q⟩| ⟨o',q⟩
   ·have e1:=Ha.get (a0L _ (k4e q))
    rw[e]at e1;cases e1
    exact Hb.get (a0L _ (k4e q))
   ·have e1:=Ha.base q
    rw[e]at e1;cases e1
    exact Hb.base q
   ·have e1:=Ha.get (a0N _ (q _ _ _ Ja))
    rw[e]at e1;cases e1
    exact Hb.get (a0N _ (q _ _ _ Jb))
  have F5:St (i+1) B5.heap:=tr C8 C0 ⟨_,_,hJ⟩ ⟨_,_,hJ⟩ E5
  refine(turn i σ ld _ hlt hJ k5q).run B5 _ _ C0 fun f fl σ' ld' C4 hf hp C7=>?_
  have fin:(∃σ₁ ld₁,J (i+1) σ₁ ld₁∧SubL σ' σ₁∧List.Sublist (ld₁++its wr fun b=>(B3.get? b).getD default) ld') ->∃m',m'<n+1-i∧∃i σ ld ob,Hold C σ (ld++its wr ob) C4∧St i C4.heap∧J i σ ld∧i<=n∧m'=n+1-i:=by
   rintro zu;refine x2a3 zu fun σ₁ ld₁ hJ1 a b=>?_
   have H5:=C7.sub a b
   exact⟨n+1-(i+1),by exact om3 hlt,i+1,σ₁,ld₁,_,H5,tr C0 H5 ⟨_,_,hJ⟩ ⟨_,_,hJ1⟩ F5,hJ1,hlt,rfl⟩
  cases fl with
  |next=>obtain rfl:=hf;exact fin hp
  |cont=>obtain rfl:=hf;exact fin hp
  |brk=>
   obtain rfl:=hf
   refine x2a3 hp fun σ₁ ld₁ hK a b=>?_
   exact k .next .next _ _ _ rfl (brk _ _ hK) (C7.sub a b)
  |ret sv=>refine x1a2 hf fun v za hv=>?_;clear hf;obtain rfl:=za;exact k _ (.ret sv) _ _ _ ⟨v,rfl,hv⟩ hp C7
 ·obtain rfl:i=n:=om22 hi hlt
  exact W.done _ _ _ hst' fun B2 E4 C6=>k .next .next _ _ _ rfl (done _ _ hJ) (H'.off C6 (C.ok _ _ _ H'.rest))
theorem X1C.forW {P:Fl ->Loc ->Led ->Prop}{target it:Expr}{body:List Stmt}{pos:Pos}{m:Nat}{R:Led ->List Addr ->Nat ->(Nat ->Loc) ->Prop}(F:FsW C σ ld target it m R)
  (h:∀B9 fz n bind,R B9 fz n bind ->∃(J:Nat ->Loc ->Led ->Prop) (K:Loc ->Led ->Prop),Ends (J 0) σ B9∧(∀b∈fz,(∃o,C.h₀.get? b=some o)∨∃o,∀i σ ld,J i σ ld ->(b,SO.obj o)∈ld)∧
   (∀i σ ld it,i<n ->J i σ ld ->it.length=m ->XsC C (bind i++σ) (ld++it) body (forP it (J (i+1)) K P))∧(∀σ ld,J n σ ld ->P .next σ ld)∧∀σ ld,K σ ld ->P .next σ ld)
  (hs:autoParam (∀v,foldedSetIterable it C.env v=pure v) aI):X1C C σ ld (.For target it body [] pos) P:=.mk fun s Q E H k=>by
 refine p3t (F.run s _ E H ?_) hs
 intro B9 fz n bind I fp wr Pi Md St B1 B0 hR E2 W hob hst hw hn hm hfp g asg
 refine x2a5 (h _ _ _ _ hR) fun J K za hfz turn done brk=>?_;obtain⟨σ₁,ld₁,hJ,a,b⟩:=za
 have C8:=(E2.sub a b).iters hn g hw (hob 0 _ hst)
 refine forGC W J K bind C8 hst hJ hob (fun b hb=>?_) asg ?_ done brk k
 ·rcases hfp b hb with h|h
  ·exact .inl h
  ·exact .inr (hfz b h)
 ·intro i σ ld it hi hJ hit
  exact turn i σ ld it hi hJ (by have:=a3C List.length hit;rw[a0J,hm]at this;exact this)
end
section
variable {C:Cx}{σ:Loc}{ld ld':Led}{s s':Shared}{D:Addr}{x:PySem.Str}{a b e:Expr}{pos px np sp:Pos}{sv:SV}{xs svs:List SV}{so:SO}{P:Fl ->Loc ->Led ->Prop}{R:SV ->Led ->Prop}{rest:List Expr}
noncomputable def p0s (so:SO)(xs:List SV):Prop:=so=.list xs∨so=.tup xs
theorem m1j {A:Around}{E:Value ->Shared ->Prop}{Q:List Value ->Shared ->Prop}(H:Hold C σ ld s)(hD:Has C σ ld D so)(hs:p0s so xs)(hz:xs.length<=10000)(h:∀vs s',Are xs vs ->Grow s s' ->Q vs s'):StarOf (model PR C.w) A E (.ref D) Q s:=by
 refine x1a2 (hD s H) fun o ho hi=>?_
 obtain⟨T,vs,n,hT,hc,hd,hA⟩:∃T vs n,(T="list"∨T="tuple")∧o.cls=.type T∧o.data=.seq (List.toArray vs) n∧Are xs vs:=by
  rcases hs with rfl|rfl
  ·refine x2a2 hi fun vs n za hA=>?_;clear hi;obtain rfl:=za;exact⟨_,vs,n,.inl rfl,rfl,rfl,hA⟩
  ·refine x1a2 hi fun vs za hA=>?_;clear hi;obtain rfl:=za;exact⟨_,vs,_,.inr rfl,rfl,rfl,hA⟩
 have hT':s.TypeIs (.ref D) T:=⟨o,ho,hc⟩
 have z:wpAny (model PR C.w) A (collect (.ref D)) Q E s:=wpAny_collect_seq D hT ho hc hd (fun h' hk=>h vs {s with heap:=h'} hA (.of (tk:=s.toks) hk)) (by rw[a1S];have:=hA.len;simp;exact om8 this hz)
 unfold StarOf notIterableAtAll
 rcases hT with rfl|rfl
 ·exact a0A (a4B hT' PySem.F.slot_list_iter.lookup (a0F ⟨rfl,z⟩))
 ·exact a0A (a4B hT' PySem.F.slot_tuple_iter.lookup (a0F ⟨rfl,z⟩))
theorem EvL.star (ha:Ev C σ ld e (SR D))(hD:Has C σ ld D so)(hs:p0s so xs)(hz:xs.length<=10000)(t:EvL C σ ld rest svs)(he:autoParam (starEach (.Starred e sp::rest) C.env=(true,eval e C.env)::starEach rest C.env) aR):EvL C σ ld (.Starred e sp::rest) (xs++svs):=.mk fun pos s Q E H k=>by
 refine items_star (ha.run s _ _ H fun v s' g hv=>?_) he
 obtain rfl:=hv
 exact m1j (H.go g) hD hs hz fun vs s2 hA g2=>t.run pos s2 _ _ ((H.go g).go g2) fun us s3 g3 hU=>k _ s3 ((g.trans g2).trans g3) (hA.app hU)
theorem m1z {f:Value}{E:Value ->Shared ->Prop}{Q:Args ->Shared ->Prop}(H:Hold C σ ld s)(ha:Ev C σ ld e (SR D))(hD:Has C σ ld D so)(hs:p0s so xs)(hz:xs.length<=10000)(h:∀vs s',Are xs vs ->Grow s s' ->Q ⟨vs,[]⟩ s')
  (he:autoParam (starEach [.Starred e sp] C.env=[(true,eval e C.env)]) aR):wpAny (model PR C.w) C.A (evalArgs f true (backTo pos (starEach [.Starred e sp] C.env)) []) Q E s:=by
 rw[he]
 refine ks_lone (ha.run s _ _ H fun v s' g hv=>?_)
 obtain rfl:=hv
 exact m1j (H.go g) hD hs hz fun vs s2 hA g2=>h vs s2 hA (g.trans g2)
theorem Ew.callS {f:Addr}{n:Nat}{pre:Heap ->Prop}{post:SV ->Led ->Prop}(G:Gd C)(c:Cn C.w n f xs pre post)(ha:Ev C σ ld e (SR D))(hD:Has C σ ld D so)(hs:p0s so xs)(hz:xs.length<=10000)(hpre:∀s,Hold C σ ld s ->pre s.heap)(hR:∀sv new,post sv new ->R sv (new++ld))
  (hA:OkA C.A n)(e1:nsIn (hd.heap_1 C.w.params) mainGlobals x=some (some (.ref f))){o:Obj}{fd:FuncData}(hf:(hd.heap_1 C.w.params).lookup f=some o)(hfd:o.data=.func fd)(hx:autoParam (C.env.kindOf x=some .globalImplicit) aR)(hd:autoParam ((x==("__debug__":Str))=false) aE)
  (he:autoParam (eval (.Call (.Name x np) [.Starred e sp] [] pos) C.env=(do callWith pos (<-eval (.Name x np) C.env) [] (backTo pos (starEach [.Starred e sp] C.env)) (backToKw pos (keywordEach [] C.env)))) aR):Ew C σ ld (.Call (.Name x np) [.Starred e sp] [] pos) R:=.mk fun s Q E H k=>by
 refine Call_ (k5k G H e1 hx hd (callWith_function (o:=o) (fd:=fd) (m1z H ha hD hs hz fun vs s' hA' g=>?_))) he
 have H':=H.go g
 refine ex2 G.T fun mg mb T=>?_
 refine x1a2 H'.fr fun m F _=>?_
 exact⟨⟨G.X.keeps F.keep f o hf,hfd⟩,c C.A s' Q E vs mg mb (G.X.keeps F.keep) (T.keeps F.keep) hA hA' (hpre s' H') fun v sv new s'' hv hq A=>k v sv _ s'' hv (hR sv new hq) (H'.call A)⟩
theorem Ew.callV {f:Addr}{n:Nat}{pre:Heap ->Prop}{post:SV ->Led ->Prop}(G:Gd C)(c:Cn C.w n f svs pre post)(ha:EvL C σ ld (e::rest) svs)(hpre:∀s,Hold C σ ld s ->pre s.heap)(hR:∀sv new,post sv new ->R sv (new++ld))
  (hA:OkA C.A n)(e1:nsIn (hd.heap_1 C.w.params) mainGlobals x=some (some (.ref f))){o:Obj}{fd:FuncData}(hf:(hd.heap_1 C.w.params).lookup f=some o)(hfd:o.data=.func fd)(hx:autoParam (C.env.kindOf x=some .globalImplicit) aR)(hd:autoParam ((x==("__debug__":Str))=false) aE)
  (he:autoParam (eval (.Call (.Name x np) (e::rest) [] pos) C.env=(do callWith pos (<-eval (.Name x np) C.env) [] (backTo pos (starEach (e::rest) C.env)) (backToKw pos (keywordEach [] C.env)))) aR)
  (hs:autoParam (starEach (e::rest) C.env=(false,eval e C.env)::starEach rest C.env) aR):Ew C σ ld (.Call (.Name x np) (e::rest) [] pos) R:=.mk fun s Q E H k=>by
 refine Call_ (k5k G H e1 hx hd (callWith_def (o:=o) hfd (ha.run pos s _ E H fun vs s' g hvs=>?_) hs)) he
 have H':=H.go g
 refine ex2 G.T fun mg mb T=>?_
 refine x1a2 H'.fr fun m F _=>?_
 exact⟨G.X.keeps F.keep f o hf,c C.A s' Q E vs mg mb (G.X.keeps F.keep) (T.keeps F.keep) hA hvs (hpre s' H') fun v sv new s'' hv hq A=>k v sv _ s'' hv (hR sv new hq) (H'.call A)⟩
theorem p0y {α:Type}{M:Model}{A:Around}{E:Value ->Shared ->Prop}{vs:List Value}{m:Sem α}{Q:α ->Shared ->Prop}(h:wpC M A m Q E s):wpC M A (m.keep vs) Q E s:=fun Γ p hΓ hc=>by rw[Sem.wp_keep];exact h Γ p hΓ hc
theorem k5g {M:Model}{A:Around}{E:Value ->Shared ->Prop}{f:Addr}{o:Obj}{fd:FuncData}{args:List (Bool×Sem Value)}{Q:Value ->Shared ->Prop}(hst:args.any (·.1)=true)
  (h:wpAny M A (evalArgs (.ref f) true args []) (fun x B1=>(B1.heap.get? f=some o∧o.data=.func fd)∧wpC M A (call (.ref f) x.pos x.kw) Q E B1) E s):wpC M A (callWith pos (.ref f) [] args []) Q E s:=by
 unfold callWith
 refine k0d (a1O (a2L h (fun x B1 B2=>k0d (a3P ?_)) fun _ _ x=>x))
 have tail:∀ {t:Sem Value},wpC M A t Q E B1 ->wpC M A (t>>=fun r=>holding [r] point>>=fun _=>pure r) Q E B1:=
  fun ht=>k2a (k0z ht (fun r B0 hr=>k1r (a0A (a1O (wpAny_point (a0F hr))))) fun _ _ x=>x)
 simp only[hst,Bool.true_or,a2V]
 refine k0d (m:=keeperOf (.ref f)) ?_
 unfold keeperOf
 refine a0A (wpAny_load B2.1.1 ?_)
 rw[B2.1.2]
 refine a0F ?_
 exact tail (by unfold callMarked;exact p0y B2.2)
end
noncomputable def rp (v:Str)(a b:String):Str:=Txt.replace v (Str.ofString a) (Str.ofString b)
noncomputable def platR (x:Str):Str:=rp (rp (rp (rp (rp (rp (rp (rp (rp x " " "_") "/" "-") "\\" "-") ":" "-") ";" "-") "\"" "-") "(" "-") ")" "-") "unknown" ""
noncomputable def dd1 (l:List Nat):List Nat:=repl [45,45] [45] 0 l
noncomputable def ddF:Nat ->List Nat ->List Nat
 |0,l=>l
 |n+1,l=>if dd1 l=l then l else ddF n (dd1 l)
noncomputable def k3t (l:List Nat):List Nat:=(l.reverse.dropWhile (· ==45)).reverse
noncomputable def m6h (xs:List Str):Str:=S (k3t (ddF (platR (platJ xs)).cps.toList.length (platR (platJ xs)).cps.toList))
theorem p3d {v a b:Str}{n:Nat}(h:v.length<=n)(ha:autoParam (a.cps.toList≠[]) aE)(hb:autoParam (b.cps.toList.length<=a.cps.toList.length) aE):(Txt.replace v a b).length<=n:=by
 have h1:(Txt.replace v a b).length=(Txt.replace v a b).cps.toList.length:=rfl
 rw[h1,k2c ha]
 exact a0H (a0H (k5l hb _ 0) (Nat.sub_le _ _)) h
theorem dd_str (l:List Nat):Txt.replace (S l) (Str.ofString "--") (Str.ofString "-")=S (dd1 l):=by
 have h:=k2c (x:=S l) (y:=Str.ofString "--") (z:=Str.ofString "-") (by decide+kernel)
 rw[show(Str.ofString "--").cps.toList=[45,45]from by decide+kernel,show(Str.ofString "-").cps.toList=[45]from by decide+kernel]at h
 rw[<-k2k (Txt.replace _ _ _),h]
 rfl
theorem p3m (l:List Nat):dd1 l=l∨(dd1 l).length<l.length:=m3h (by decide) l
theorem p5s {n:Nat}{l:List Nat}(h:dd1 l=l):ddF n l=l:=by
 cases n with
 |zero=>rfl
 |succ n=>unfold ddF;rw[if_pos h]
theorem m9s:∀(n:Nat) (l:List Nat),(ddF n l).length<=l.length
 |0,l=>a0W _
 |n+1,l=>by
  unfold ddF
  split
  ·exact a0W _
  ·rcases p3m l with h|h
   ·exact absurd h ‹_›
   ·exact a0H (m9s n _) (a4C h)
theorem m2d {l:List Nat}{c:Nat}:Txt.item (S (l++[c])) (-1)=⟨#[c]⟩:=by
 unfold Txt.item Txt.charAt seqIndex?
 rw[k2g]
 have:(l++[c]).length=l.length+1:=by simp
 rw[this]
 have h1:(-1:Int)+((l.length+1:Nat):Int)=(l.length:Int):=om516
 simp only[show((-1:Int)<0)=True from by simp,a4Q,h1]
 rw[if_pos (by simp;exact om588)]
 simp[S]
theorem m5v (l:List Nat):k3t (l++[45])=k3t l:=by simp[k3t]
theorem m5u (l:List Nat){c:Nat}(h:c≠45):k3t (l++[c])=l++[c]:=by
 unfold k3t
 rw[List.reverse_append]
 show(List.dropWhile _ (c::l.reverse)).reverse=_
 rw[a3I,if_neg (by simpa using h)]
 simp
theorem m8i {xs:List Str}(hx:xs.length<=2)(ha:AllLen 400 xs):(full xs).length<=2∧JoinOk (Str.ofString "-") ((full xs).map Txt.strip)=true∧(platJ xs).length<=1000:=by
 have h1:(full xs).length<=2:=a0H (a4N _ _) hx
 have h2:AllLen 400 ((full xs).map Txt.strip):=fun p hp=>by
  refine x1a2 (a0K.mp hp) fun q hq za=>?_;obtain rfl:=za
  exact a0H (len_strip q) (ha q (a5U.mp hq).1)
 have h3:=k5j h2
 have h4:((full xs).map Txt.strip).length<=2:=by simpa using h1
 have h5:((full xs).map Txt.strip).length*400<=2*400:=Nat.mul_le_mul_right _ h4
 have h6:(Str.ofString "-").length=1:=by decide+kernel
 refine⟨h1,?_,?_⟩
 ·unfold JoinOk
  rw[StrLaws.joinTotal,h6]
  unfold Builtin.Str.tooLong sizeLine
  rw[a2G (om296 h5 h3)];rfl
 ·unfold platJ
  show(Builtin.Str.glued _ _).length<=_
  rw[a5S]
  have:=StrLaws.join_length_le (Str.ofString "-") ((full xs).map Txt.strip)
  rw[h6]at this
  exact om244 h5 h3 this
theorem m8h {w:World}{xs:List Str}(hx:xs.length=1∨xs.length=2)(ha:AllLen 400 xs):p0t w xs (m6h xs):=by
 have hx2:xs.length<=2:=om534 hx
 refine an3 (m8i hx2 ha) fun g1 g2 g3=>?_
 refine p5v (by k_is) (by k_is) (fun vs hvs=>?_) rfl ?_
 ·have:=k1a hvs
  rcases vs with _| ⟨a,_| ⟨b,_|_⟩⟩
  ·simp at this;exact(om80 hx this).elim
  ·rfl
  ·rfl
  ·simp at this;exact(om65 this hx2).elim
 intro h₀ sh L D mg bm ob ps C G B hC ht
 refine Xt.cons (X1.a0 (Ew.joinGen G B rfl hC rfl (.head _) (.tail _ (.head _)) ht (fun s=>Iff.rfl) (fun x hx=>a0H (ha x hx) (by decide)) (by rw[a1S];exact om560 g1) g2 (kb rfl) _ (fun ps' ld' ht' U=>?_) (fun so=>⟨_,.tail .head⟩)))
 rcases U with _|U
 rcases U with _|U
 rotate_left
 ·cases U
 show Xt C _ _ _ _
 have hb:(platJ xs).length<=1048576:=om555 g3
 iterate 9 refine Xt.rep (by with_unfolding_all rfl) (by repeat (first|exact hb|refine p3d ?_)) (by decide+kernel) (by decide+kernel) ?_
 refine Xt.weak (σ₁:=[(Str.ofString "platform",.str (platR (platJ xs)))]) ?_ ⟨by with_unfolding_all rfl,trivial⟩ (a3Y _)
 have hl:(platR (platJ xs)).cps.toList.length<=1048576:=by
  show(platR (platJ xs)).length<=_
  unfold platR rp
  repeat (first|exact hb|refine p3d ?_)
 unfold m6h
 generalize platR (platJ xs)=y0 at*;revert y0;refine id ?_;intros
 rw[show SV.str y0=.str (S y0.cps.toList)from by rw[k2k]]
 generalize y0.cps.toList=l0 at*
 generalize hT:ddF l0.length l0=T;revert l0 T;refine id ?_;intros
 have hTl:T.length<=1048576:=hT▸a0H (m9s _ _) hl
 refine Xt.while (fun n σ ld=>∃l:List Nat,l.length<=n∧l.length<=1048576∧ddF n l=T∧σ=[(Str.ofString "platform",.str (S l))]∧ld=[(D,.tup (xs.map .str)),(platP,.obj (tabObj ps'))])
  (fun σ ld=>σ=[(Str.ofString "platform",.str (S T))]∧ld=[(D,.tup (xs.map .str)),(platP,.obj (tabObj ps'))]) l0.length ⟨_,_,⟨l0,a0W _,hl,hT,rfl,rfl⟩,⟨rfl,trivial⟩,a3Y _⟩ ?_ ?_
 ·rintro n σ ld zu;refine x1a5 zu fun l h1 h2 h3 za zb=>?_;clear zu;refine eq2 za zb ?_;clear za zb
  refine⟨true,Tst.ofB Ev.cbool,fun _=>?_,fun h=>nomatch h⟩
  refine Xt.rep (by with_unfolding_all rfl) (by rw[k2g];exact h2) (by decide+kernel) (by decide+kernel) ?_
  rw[dd_str]
  refine Xt.of (Xs.cons (X1.a1 (Tst.eqS (Ev.name (by with_unfolding_all rfl)) (Ev.name (by with_unfolding_all rfl))) (fun q=>?_) (fun q=>?_)))
  ·have e:dd1 l=l:=S_inj.mp (a1T.mp q)
   refine Xs.cons (X1.brk ?_)
   refine⟨_,_,⟨rfl,rfl⟩,⟨?_,trivial⟩,a3Y _⟩
   rw[<-h3,p5s e]
   with_unfolding_all rfl
  ·have e:dd1 l≠l:=fun e=>by rw[e]at q;simp at q
   have lt:=(p3m l).resolve_left e
   refine Xs.nil ?_
   show Xs C _ _ [_] _
   refine Xs.cons (X1.a0 (Ew.pure (Ev.name (by with_unfolding_all rfl)) ?_))
   show Xs C _ _ [] _
   refine Xs.nil ?_
   refine⟨_,_,⟨n-1,by exact om204 lt h1,dd1 l,by exact om177 lt h1,by exact om372 lt h2,?_,rfl,rfl⟩,⟨by with_unfolding_all rfl,trivial⟩,a3Y _⟩
   cases n with
   |zero=>exact(om401 lt h1).elim
   |succ n=>
    rw[<-h3]
    show ddF n (dd1 l)=if dd1 l=l then l else ddF n (dd1 l)
    rw[if_neg e]
 ·rintro σ ld ⟨rfl,rfl⟩
  refine Xt.of (Xs.cons (X1.a2 (fun n σ ld=>∃l:List Nat,l.length<=n∧l.length<=1048576∧k3t l=k3t T∧σ=[(Str.ofString "platform",.str (S l))]∧ld=[(D,.tup (xs.map .str)),(platP,.obj (tabObj ps'))])
   (fun σ ld=>σ=[(Str.ofString "platform",.str (S (k3t T)))]∧ld=[(D,.tup (xs.map .str)),(platP,.obj (tabObj ps'))]) T.length ⟨_,_,⟨T,a0W _,hTl,rfl,rfl,rfl⟩,⟨rfl,trivial⟩,a3Y _⟩ ?_ ?_))
  ·rintro n σ ld zu;refine x1a5 zu fun l h1 h2 h3 za zb=>?_;clear zu;refine eq2 za zb ?_;clear za zb
   refine⟨(S l !=Str.ofString "")&& (Txt.item (S l) (-1)==Str.ofString "-"),Tst.and (Tst.ofS (Ev.name (by with_unfolding_all rfl)) (by rw[k2g];exact p4t h2)) (fun hn=>?_),fun hb=>?_,fun hb=>?_⟩
   ·have hne:1<=l.length:=by
     cases l with
     |nil=>exact absurd hn (by decide+kernel)
     |cons a r=>simp
    exact Tst.eqS (Ev.a3 (Ev.name (by with_unfolding_all rfl)) (Ev.neg Ev.a1) (by rw[k2g];exact om460 hne) (by rw[k2g];exact om332) (by rw[k2g];exact p4t h2)) Ev.a0
   ·refine Xs.cons (X1.a0 (Ew.pure (Ev.a5 (Ev.name (by with_unfolding_all rfl)) (Ev.neg Ev.a1) (by rw[k2g];exact p4t h2)) ?_))
    show Xs C _ _ [] _
    refine Xs.nil ?_
    rcases List.eq_nil_or_concat l with rfl| ⟨r,c,rfl⟩
    ·exact absurd hb (by decide+kernel)
    ·rw[a2Y,a5W,m2d,k7p]at hb
     have hc:c=45:=by simpa using hb.2
     subst hc
     simp only[a5W,a0Y,a0Q,a3F]at h1 h2 h3
     refine⟨_,_,⟨n-1,by exact Nat.sub_one_lt_of_lt h1,r,by exact a6J h1,by exact Nat.le_of_succ_le h2,by rw[<-h3,m5v],rfl,rfl⟩,⟨?_,trivial⟩,a3Y _⟩
     rw[a5W]
     show some (SV.str (Txt.slice (S (r++[45])) none (some (-1))))=_
     rw[k7e];simp
   ·refine⟨_,_,⟨rfl,rfl⟩,⟨?_,trivial⟩,a3Y _⟩
    rcases List.eq_nil_or_concat l with rfl| ⟨r,c,rfl⟩
    ·rw[<-h3];rfl
    ·rw[a5W,m2d,k7p]at hb
     have hc:c≠45:=by
      rintro rfl
      have:(S (r++[45]) !=Str.ofString "")=true:=by
       rw[<-k3m,k2g];simp;exact not_eq_of_beq_eq_false rfl
      rw[this]at hb
      exact absurd hb (by decide)
     rw[<-h3,a5W,m5u r hc]
     with_unfolding_all rfl
  ·rintro σ ld ⟨rfl,rfl⟩
   show Xs C _ _ [_] _
   refine Xs.cons (X1.ret (Ew.pure (Ev.name (by with_unfolding_all rfl)) ?_))
   exact⟨rfl,ps',ht',.tail _ (.head _)⟩
section
variable {C:Cx}{σ:Loc}{ld ld':Led}{s s':Shared}{x:PySem.Str}{a b e:Expr}{pos px np sp:Pos}{svs:List SV}{R:SV ->Led ->Prop}{rest:List Expr}
theorem Hold.slotF {B4:Obj}{h':Heap}{tk:Tok}{sl:Array (Option Value)}(H:Hold C σ ld s)(e:s.heap.get? C.env.locals=some B4)(k:∀b o,b≠C.env.locals ->s.heap.get? b=some o ->h'.get? b=some o)(e':h'.get? C.env.locals=some {B4 with slots:=sl}):Hold C σ ld {s with heap:=h',toks:=tk}:=by
 refine x1a2 H.fr fun m F r=>?_
 refine⟨⟨m,⟨?_,fun b o e=>k b o (fun q=>?_) (F.keep b o e),F.above⟩,fun x sv ex=>?_⟩,fun p hp=>?_,fun p hp=>?_,H.nodup,C.ok _ _ _ H.rest⟩
 ·refine x3a3 F.ns fun oL es ep hL hd hk=>?_
  obtain rfl:=a4X (hL.symm.trans e)
  exact⟨_,es,ep,e',hd,hk⟩
 ·rw[q]at e;exact absurd (a1C (a0M e) F.above) (a1R _)
 ·refine x1a2 (r x sv ex) fun v hv q=>?_
  refine⟨v,hv,?_⟩
  rcases q with q| ⟨q,c,oc,e1,e2,e3⟩
  ·exact .inl q
  ·refine x2a4 (H.cel _ (k0a e1)) fun _ _ _ _ h3 _=>?_
   exact .inr ⟨q,c,oc,e1,k _ _ h3 e2,e3⟩
 ·refine x1a4 (H.led p hp) fun o a b c d=>?_
  exact⟨o,k _ _ c a,b,c,d⟩
 ·refine x2a4 (H.cel p hp) fun o v a b c d=>?_
  exact⟨o,v,k _ _ c a,b,c,d⟩
theorem Hold.lawFr (G:Gd C)(H:Hold C σ ld s)(hf:C.env.frame=some C.env.locals):∃B4,LawFr C.env C.env.locals B4 s.heap:=by
 refine x1a2 H.fr fun m F _=>?_
 refine x3a3 F.ns fun oL es ep hL hd hk=>?_
 exact⟨oL,⟨(by rw[G.k];decide),hf,hL,fun vs q=>by rw[hd]at q;cases q⟩⟩
theorem Hold.hid (H:Hold C σ ld s):∀b o,C.h₀.get? b=some o ->(hideAll s.heap [C.env.locals]).get? b=some o:=fun b o e=>by
 refine x1a2 H.fr fun m F _=>?_
 refine a4R _ (F.keep b o e) fun q=>?_
 rw[a0B.mp q]at e
 exact absurd (a1C (a0M e) F.above) (a1R _)
theorem Ew.callF {f:Addr}{y:PySem.Str}(G:Gd C)(c:CnF C.w f svs y)(ha:EvL C σ ld (e::rest) svs)(hR:R (.str y) ld)
  (hA:OkA C.A 0)(hfr:C.A.frames=some [C.env])(e1:nsIn (hd.heap_1 C.w.params) mainGlobals x=some (some (.ref f))){o:Obj}{fd:FuncData}(hf:(hd.heap_1 C.w.params).lookup f=some o)(hfd:o.data=.func fd)(hx:autoParam (C.env.kindOf x=some .globalImplicit) aR)(hd:autoParam ((x==("__debug__":Str))=false) aE)(hloc:autoParam (C.env.frame=some C.env.locals) aR)
  (he:autoParam (eval (.Call (.Name x np) (e::rest) [] pos) C.env=(do callWith pos (<-eval (.Name x np) C.env) [] (backTo pos (starEach (e::rest) C.env)) (backToKw pos (keywordEach [] C.env)))) aR)
  (hs:autoParam (starEach (e::rest) C.env=(false,eval e C.env)::starEach rest C.env) aR):Ew C σ ld (.Call (.Name x np) (e::rest) [] pos) R:=.mk fun s Q E H k=>by
 refine Call_ (k5k G H e1 hx hd (callWith_def (o:=o) hfd (ha.run pos s _ E H fun vs s' g hvs=>?_) hs)) he
 have H':=H.go g
 refine ex2 G.T fun mg mb T=>?_
 refine x1a2 H'.fr fun m F _=>?_
 obtain⟨B4,L1⟩:=H'.lawFr G hloc
 exact⟨G.X.keeps F.keep f o hf,c C.A s' Q E vs mg mb C.env C.env.locals B4 (G.X.keeps H'.hid) (T.keeps H'.hid) hA hfr L1 hvs fun t h' tk sl k1 k2=>k _ (.str y) ld _ ⟨t,rfl⟩ hR (H'.slotF L1.get (fun b o hb e=>k1 b o hb e) k2)⟩
theorem Ew.callP {xs:List PySem.Str}{y:PySem.Str}{mg mb:PySem.Str ->Option Value}{bm:Addr}{ob:Obj}{ps:Array Value}{os0:OsState}(G:Gd C)(T:TopRead vw loose mg mb C.h₀)(B:BMod C.h₀ mainGlobals mg bm ob)(hrest:∀s,C.rest s↔(s.os=os0∧AllBare s.gens))(c:p0t C.w xs y)(ha:EvL C σ ld (e::rest) (xs.map .str))
  (ht:TriplesOk ps.toList){gl:Array Value ->Led}(hU:∀ps',LUpd platP (.obj (tabObj ps)) (.obj (tabObj ps')) ld (gl ps'))(hR:∀ps',TriplesOk ps'.toList ->R (.str y) (gl ps'))
  (hA:OkA C.A 0)(e1:nsIn (hd.heap_1 C.w.params) mainGlobals x=some (some (.ref 43))){o:Obj}{fd:FuncData}(hf:(hd.heap_1 C.w.params).lookup 43=some o)(hfd:o.data=.func fd)(hx:autoParam (C.env.kindOf x=some .globalImplicit) aR)(hd:autoParam ((x==("__debug__":Str))=false) aE)
  (he:autoParam (eval (.Call (.Name x np) (e::rest) [] pos) C.env=(do callWith pos (<-eval (.Name x np) C.env) [] (backTo pos (starEach (e::rest) C.env)) (backToKw pos (keywordEach [] C.env)))) aR)
  (hs:autoParam (starEach (e::rest) C.env=(false,eval e C.env)::starEach rest C.env) aR):Ew C σ ld (.Call (.Name x np) (e::rest) [] pos) R:=.mk fun s Q E H k=>by
 refine Call_ (k5k G H e1 hx hd (callWith_def (o:=o) hfd (ha.run pos s _ E H fun vs s' g hvs=>?_) hs)) he
 have H':=H.go g
 refine x1a2 H'.fr fun m F _=>?_
 obtain⟨r1,r2⟩:=(hrest s').mp H'.rest
 refine⟨G.X.keeps F.keep 43 o hf,c C.A s' Q E vs mg mb bm ob ps (G.X.keeps F.keep) (T.keeps F.keep) (B.keeps F.keep) hA hvs.strs (H'.get (hU ps).mem) ht r2 fun t s'' ps' k1 k2 t2 k3 k4=>?_⟩
 exact k _ (.str y) (gl ps') s'' ⟨t,rfl⟩ (hR ps' t2) (H'.upd (o':=tabObj ps') (hU ps') k1 k2 rfl ((hrest s'').mpr ⟨k3.trans r1,k4⟩))
end
theorem m4f {ls:List Addr}{vs:List Value}(h:Are (ls.map SR) vs):vs=ls.map Value.ref:=by
 induction ls generalizing vs with
 |nil=>obtain _|_:=h;rfl
 |cons l ls ih=>
  replace h:=h.uncons;revert h;intro zq;refine x2a3 zq fun _ _ za h t=>?_;clear zq;obtain rfl:=za
  rw[ih t]
  exact a3C (· ::_) h
section
variable {C:Cx}{σ:Loc}{ld ld':Led}{s s':Shared}{x y:PySem.Str}{a b c d e:Expr}{pos px np sp tp py apos:Pos}{D:Addr}{xs svs:List SV}{so:SO}{P:Fl ->Loc ->Led ->Prop}{k0:Nat}{it:Expr}
theorem Hold.add {B6:Shared}{o:Obj}(H0:Hold C σ ld B6)(H:Hold C σ ld s)(n:B6.heap.get? D=none)(d:s.heap.get? D=some o)(i:so.is o):Hold C σ ((D,so)::ld) s:=by
 have nL:D≠C.env.locals:=fun q=>by
  obtain⟨oL,hL⟩:=H0.loc
  rw[q,hL]at n;cases n
 have n0:C.h₀.get? D=none:=by
  refine x1a2 H0.fr fun m F _=>?_
  exact k0e F.keep n
 refine⟨H.fr,fun p hp=>?_,H.cel,?_,H.rest⟩
 ·rcases a0G.mp hp with rfl|hp
  ·exact⟨o,d,i,nL,n0⟩
  ·exact H.led p hp
 ·have nd:=H.nodup
  rw[a1E]at nd⊢
  have f1:D∉ld.map (·.1):=fun q=>by
   refine x1a2 (a0K.mp q) fun p hp e=>?_
   refine x1a2 (H0.led p hp) fun o' a _=>?_
   rw[e,n]at a;cases a
  have f2:∀p∈C.env.cells,p.2≠D:=fun p hp q=>by
   refine x2a2 (H0.cel p hp) fun o' v a _=>?_
   rw[q,n]at a;cases a
  refine⟨nd.1,by simp only[a0P,a1L];exact⟨f1,nd.2.1⟩,fun a ha b hb q=>?_⟩
  simp only[a0P,a0G]at hb
  rcases hb with hb|hb
  ·refine x1a2 (a0K.mp ha) fun p hp e=>?_
   exact f2 p hp (e.trans (q.trans hb))
  ·exact nd.2.2 a ha b hb q
theorem X1C.asgH {f:Addr}{ys:List PySem.Str}(G:Gd C)(c:CnH C.w f xs ys)(ha:Ev C σ ld e (SR D))(hD:Has C σ ld D so)(hs:p0s so xs)(hz:xs.length<=10000)(p:∀D',P .next ((y,SR D')::σ) ((D',.tup (ys.map .str))::ld))
  (hA:OkA C.A 0)(hfr:C.A.frames=some [C.env])(e1:nsIn (hd.heap_1 C.w.params) mainGlobals x=some (some (.ref f))){o:Obj}{fd:FuncData}(hf:(hd.heap_1 C.w.params).lookup f=some o)(hfd:o.data=.func fd)(hx:autoParam (C.env.kindOf x=some .globalImplicit) aR)(hd:autoParam ((x==("__debug__":Str))=false) aE)(hloc:autoParam (C.env.frame=some C.env.locals) aR)
  (hy:autoParam (C.env.kindOf y=some .local) aR)(hp:autoParam ((C.env.scope.kind==.class|| (C.env.scope.kind==.module&&C.env.locals !=C.env.globals))=false) aR)
  (he:autoParam (eval (.Call (.Name x np) [.Starred e sp] [] pos) C.env=(do callWith pos (<-eval (.Name x np) C.env) [] (backTo pos (starEach [.Starred e sp] C.env)) (backToKw pos (keywordEach [] C.env)))) aR)
  (hsw:autoParam (swapsWith (.Call (.Name x np) [.Starred e sp] [] pos) (some (.Name y py)) apos.line C.env=Pure.pure false) aR):X1C C σ ld (.Assign [.Name y py] (.Call (.Name x np) [.Starred e sp] [] pos) apos) P:=.mk fun s Q E H k=>by
 refine k2z (p3q (k5k G H e1 hx hd (k5g (o:=o) (fd:=fd) rfl (m1z H ha hD hs hz fun vs s' hA' g=>?_))) he) hsw
 have H':=H.go g
 refine ex2 G.T fun mg mb T=>?_
 refine x1a2 H'.fr fun m F _=>?_
 obtain⟨B4,L1⟩:=H'.lawFr G hloc
 refine⟨⟨G.X.keeps F.keep f o hf,hfd⟩,c C.A s' _ E vs mg mb C.env C.env.locals B4 (G.X.keeps H'.hid) (T.keeps H'.hid) hA hfr L1 hA' fun D' us h' tk sl k1 k2 n0 n1 hus=>?_⟩
 have H2:Hold C σ ld {s' with heap:=h',toks:=tk}:=H'.slotF L1.get (fun b o hb e=>k1 b o hb e) k2
 have H3:=H'.add (so:=.tup (ys.map .str)) H2 n0 n1 ⟨us,rfl,Are.ofStrs hus⟩
 refine x1a2 H3.fr fun m3 F3 r3=>?_
 exact a2M hy F3.ns (fun B3 C1 B8=>k .next .next _ _ _ rfl (p D') (H3.put F3 r3 hy (sv:=SR D') (v:=.ref D') rfl B8 C1)) hp
theorem FsW.tups {ns:List (PySem.Str×Pos)}{W:List Addr ->(Nat ->List SV) ->Prop}(G:Gd C)(h:Ew C σ ld it fun sv ld'=>∃(D:Addr) (ls:List Addr) (rows:Nat ->List SV) (new:Led),sv=SR D∧ld'=new++ld∧(D,SO.list (ls.map SR))∈new∧(∀i l,ls[i]?=some l ->(l,SO.tup (rows i))∈new∧(rows i).length=ns.length)∧W ls rows)
  (hl:autoParam (ns.map (fun n=>C.env.kindOf n.1)=ns.map (fun _=>some .local)) aR)(hp:autoParam ((C.env.scope.kind==.class|| (C.env.scope.kind==.module&&C.env.locals !=C.env.globals))=false) aR):
  FsW C σ ld (.Tuple (ns.map fun n=>Expr.Name n.1 n.2) k0 tp) it 1 (fun B9 fz n bind=>∃(ls:List Addr) (rows:Nat ->List SV) (new:Led) (f:Addr ->Obj),W ls rows∧B9=frz f new++ld∧n=ls.length∧(∀b∈fz,∃o,(b,SO.obj o)∈frz f new)∧bind=fun i=>bindAll ns (rows i) []):=.mk fun s Q E H k=>by
 refine h.run s _ E H fun v sv ld' s1 hv hp' H1=>?_
 refine x4a5 hp' fun D ls rows new za zb hD hT hW=>?_;clear hp';obtain rfl:=za;obtain rfl:=zb
 obtain rfl:=hv
 refine x1a2 H1.frzL fun f hf H2=>?_
 have oD:s1.heap.get? D=some (f D):=H2.get (a0N _ (k1u hD))
 refine x2a2 (hf _ hD) fun vs n eD hA=>?_
 have eD:f D=listOf vs.toArray n:=eD
 obtain rfl:=m4f hA
 have hI:s1.heap.IsList D (ls.map Value.ref).toArray:=IsL.isList (eD▸oD)
 have hsz:(ls.map Value.ref).toArray.size=ls.length:=by simp
 have oT:∀ {i l},ls[i]?=some l ->s1.heap.get? l=some (f l)∧∃us,f l=tupOf us∧Are (rows i) us:=fun {i l} hi=>by
  obtain⟨h1,_⟩:=hT i l hi
  exact⟨H2.get (a0N _ (k1u h1)),hf _ h1⟩
 have hTup:∀ {i l},ls[i]?=some l ->s1.heap.IsTuple l (match(f l).data with| .seq a _=>a|_=> #[]):=fun {i l} hi=>by
  refine an2 (oT hi) fun h1 zz=>x1a2 zz fun us e _=>?_
  rw[e]at h1⊢
  exact⟨_,h1,rfl,_,rfl⟩
 have lt:∀ {b o},s1.heap.get? b=some o ->b≠s1.heap.objs.size:=fun e=>a0S (a0M e)
 have gl:∀ {i},i<ls.length ->ls[i]?=some (ls.getD i 0):=fun {i} hi=>by rw[a0E,a0D hi];rfl
 have WW:=WalksU.listOfTuples (prog:=PR) (w:=C.w) (A:=C.A) G.h s1.heap.objs.size D (lt oD) (ls.map Value.ref).toArray (fun j=>ls.getD j 0) (fun j=>match(f (ls.getD j 0)).data with| .seq a _=>a|_=> #[])
  (fun j hj=>by rw[hsz]at hj;rw[List.getElem?_toArray,a0T,gl hj];rfl) (fun j hj=>lt (oT (gl (by rwa[hsz]at hj))).1)
 rw[hsz]at WW
 refine a3J hI (k (frz f new++ld) (D::(List.range ls.length).map fun j=>ls.getD j 0) ls.length (fun i=>bindAll ns (rows i) []) _ _ _ _ _ _ s1 _ ⟨ls,rows,new,f,hW,rfl,rfl,fun b hb=>?_,rfl⟩ H2 (KTurns.ofWalksU WW.bound) (fun i h st b hb=>?_) ⟨⟨_,a0I _ rfl,rfl,rfl⟩,hI.at fun o e=>a0C _ e,fun j hj=>(hTup (gl hj)).at fun o e=>a0C _ e⟩ (fun b hb=>?_) (a1L.mpr ⟨a0Z,a1U⟩) rfl (fun b hb=>?_) (.of fun b o e=>a0C _ e) fun i v σ ld s Q E hi hP H kk=>?_)
 ·rcases a0G.mp hb with rfl|hb
  ·exact⟨_,k1u hD⟩
  ·refine x1a2 (a0K.mp hb) fun j hj za=>?_;obtain rfl:=za
   exact⟨_,k1u (hT j _ (gl (a3O.mp hj))).1⟩
 ·rw[a0B.mp hb]
  obtain⟨⟨o,ho,_⟩,_⟩:=st
  exact⟨o,ho⟩
 ·rw[a0B.mp hb];exact k0h _
 ·rcases a0G.mp hb with rfl|hb
  ·exact .inl (.head _)
  ·exact .inr hb
 ·refine x2a3 hP fun T vals za zb hTu=>?_;clear hP;obtain rfl:=za;obtain⟨_,hv⟩:=zb
  refine an2 (oT (gl hi)) fun _ zz=>x1a2 zz fun us e hAu=>?_
  have hv:vals=us.toArray:=by rw[hv];show(match(f (ls.getD i 0)).data with| .seq a _=>a|_=> #[])=_;rw[e]
  subst hv
  refine k5h (ns:=ns) G.h hTu hAu (hT i _ (gl hi)).2.symm H (List.map_inj_left.mp hl) hp fun s' H'=>kk s' ?_
  rw[k2s]at H'
  exact H'
theorem p5l {vs:List Value}(h:vs.length=4):∃a b c d,vs=[a,b,c,d]:=by
 obtain _| ⟨a,_| ⟨b,_| ⟨c,_| ⟨d,_|_⟩⟩⟩⟩:=vs<;>first|exact⟨_,_,_,_,rfl⟩|simp at h
theorem FsW.zip4 {ns:List (PySem.Str×Pos)}{W:Led ->Addr ->Addr ->Addr ->Addr ->List SV ->List SV ->List SV ->List SV ->Prop}(G:Gd C)(h4:ns.length=4)
  (h:EwL C σ ld [a,b,c,d] fun svs ld'=>∃l1 l2 l3 l4 as bs cs ds,svs=[SR l1,SR l2,SR l3,SR l4]∧(l1,SO.list as)∈ld'∧(l2,SO.list bs)∈ld'∧(l3,SO.list cs)∈ld'∧(l4,SO.list ds)∈ld'∧bs.length=as.length∧cs.length=as.length∧ds.length=as.length∧W ld' l1 l2 l3 l4 as bs cs ds)
  (e1:autoParam (nsIn (hd.heap_1 C.w.params) mainGlobals (Str.ofString "zip")=some none) aK)(hx:autoParam (C.env.kindOf (Str.ofString "zip")=some .globalImplicit) aR)
  (he:autoParam (eval (.Call (.Name (Str.ofString "zip") np) [a,b,c,d] [] pos) C.env=(do callWith pos (<-eval (.Name (Str.ofString "zip") np) C.env) [] (backTo pos (starEach [a,b,c,d] C.env)) (backToKw pos (keywordEach [] C.env)))) aR)
  (hs:autoParam (starEach [a,b,c,d] C.env=(false,eval a C.env)::starEach [b,c,d] C.env) aR)(hplain:autoParam ((backTo pos (starEach [b,c,d] C.env)).any (·.1)=false) aR)
  (hl:autoParam (ns.map (fun n=>C.env.kindOf n.1)=ns.map (fun _=>some .local)) aR)(hp:autoParam ((C.env.scope.kind==.class|| (C.env.scope.kind==.module&&C.env.locals !=C.env.globals))=false) aR):
  FsW C σ ld (.Tuple (ns.map fun n=>Expr.Name n.1 n.2) k0 tp) (.Call (.Name (Str.ofString "zip") np) [a,b,c,d] [] pos) 7 (fun B9 fz n bind=>∃(ld':Led) (f:Addr ->Obj) (l1 l2 l3 l4:Addr) (as bs cs ds:List SV),W ld' l1 l2 l3 l4 as bs cs ds∧(∀p∈ld',p.2.is (f p.1))∧B9=frz f ld'∧n=as.length∧(∀b∈fz,∃o,(b,SO.obj o)∈frz f ld')∧bind=fun i=>bindAll ns [as.getD i SN,bs.getD i SN,cs.getD i SN,ds.getD i SN] []):=.mk fun s Q E H k=>by
 refine Call_ (k0i G H e1 (by boot_by_name) (by decide+kernel) hx (by decide+kernel) ?_) he
 rw[hs]
 refine a1J (by show(false|| (backTo pos (starEach [b,c,d] C.env)).any (·.1))=false;rw[hplain];rfl) ?_
 have hq:=h.run pos s (fun vs B1=>wpAny (model PR C.w) C.A (call (.type "zip") vs) (fun xv B1=>wpAny (model PR C.w) C.A (pyIter xv) Q E B1) E B1) E H fun vs svs ld' s1 hvs hp' H1=>by
  refine x8a9 hp' fun l1 l2 l3 l4 as bs cs ds za m1 m2 m3 m4 n2 n3 n4 hW=>?_;clear hp';obtain rfl:=za
  refine x4a5 hvs.four fun _ _ _ _ za q1 q2 q3 q4=>?_;obtain rfl:=za
  obtain rfl:=q1
  obtain rfl:=q2
  obtain rfl:=q3
  obtain rfl:=q4
  refine x1a2 ((Has.mem m1).isList H1) fun v1 I1 A1=>?_
  refine x1a2 ((Has.mem m2).isList H1) fun v2 I2 A2=>?_
  refine x1a2 ((Has.mem m3).isList H1) fun v3 I3 A3=>?_
  refine x1a2 ((Has.mem m4).isList H1) fun v4 I4 A4=>?_
  rw[<-a2O ld']at H1
  refine x1a2 H1.frzL fun f hf H2=>?_
  rw[a2O]at H2
  have z1:=A1.len
  have z2:=A2.len
  have z3:=A3.len
  have z4:=A4.len
  refine m7b I1 I2 I3 I4 fun h'=>?_
  intro N y6 y4 y5 i1 i2 i3 i4 kk
  have ltl:∀ {l:Addr} {vs:Array Value},s1.heap.IsList l vs -> @LT.lt Nat instLTNat l N:=fun⟨_,ho,_⟩=>a0M ho
  have t1:=ltl I1
  have t2:=ltl I2
  have t3:=ltl I3
  have t4:=ltl I4
  have up:∀ {l:Addr} {vs:Array Value},s1.heap.IsList l vs ->h'.IsList l vs:=fun hI=>hI.at fun o e=>kk _ _ e
  have D:m5o (N+6) (N+4) (N+5) [⟨N,l1,v1.toArray⟩,⟨N+1,l2,v2.toArray⟩,⟨N+2,l3,v3.toArray⟩,⟨N+3,l4,v4.toArray⟩]:=by
   refine⟨?_,?_,?_,?_,fun p hp=>?_,fun p hp=>?_⟩
   ·show @Ne Nat _ _;exact om473
   ·show @Ne Nat _ _;exact om489
   ·show @Ne Nat _ _;exact om490
   ·show([N,N+1,N+2,N+3]:List Nat).Nodup
    simp
   ·simp only[a0G,a0Z,a5C]at hp
    refine⟨?_,?_,fun q hq=>?_⟩
    ·rcases hp with rfl|rfl|rfl|rfl<;>(dsimp only;show @Ne Nat _ _;(first|exact om530|exact om481|exact om474|exact om475))
    ·rcases hp with rfl|rfl|rfl|rfl<;>(dsimp only;show @Ne Nat _ _;(first|exact om37 t1|exact om37 t2|exact om37 t3|exact om37 t4))
    ·simp only[a0G,a0Z,a5C]at hq
     have h1: @LT.lt Nat instLTNat p.li N:=by rcases hp with rfl|rfl|rfl|rfl<;>assumption
     have h2: @LE.le Nat instLENat N q.it:=by rcases hq with rfl|rfl|rfl|rfl<;>(dsimp only;show @LE.le Nat instLENat _ _;(first|exact om265|exact om187|exact om185|exact om186))
     exact a0S (a1C h1 h2)
   ·simp only[a0G,a0Z,a5C]at hp
    refine⟨?_,?_,?_⟩<;>rcases hp with rfl|rfl|rfl|rfl<;>(dsimp only;show @Ne Nat _ _;first|exact a0S (by assumption)|exact ne_lt (by assumption)|exact ne_ab (by decide)|exact a0S (a4G (kb rfl))|exact a3E (a4G (kb rfl)))
  refine wpAny_pyIter_zip (s:={s1 with heap:=h'}) y6 ?_
  have WW:=WalksU.zips (prog:=PR) (w:=C.w) (A:=C.A) (n:=as.length) G.h D (by simp) (by simp[<-z1,<-z2,<-z3,<-z4,n2,n3,n4])
  refine k (frz f ld') [l1,l2,l3,l4] as.length (fun i=>bindAll ns [as.getD i SN,bs.getD i SN,cs.getD i SN,ds.getD i SN] []) _ _ _ _ _ _ s1 _ ⟨ld',f,l1,l2,l3,l4,as,bs,cs,ds,hW,fun p hp=>hf p hp,rfl,rfl,fun b hb=>?_,rfl⟩ H2 (KTurns.ofWalksU WW.bound) (fun i h st b hb=>?_) ⟨y6,y4,⟨_,y5,rfl⟩,?_⟩ (fun b hb=>?_) ?_ rfl (fun b hb=>?_) (.of kk) fun i v σ ld s Q E hi hP H kk=>?_
  ·simp only[a0G,a0Z,a5C]at hb
   rcases hb with rfl|rfl|rfl|rfl
   ·exact⟨_,k1u m1⟩
   ·exact⟨_,k1u m2⟩
   ·exact⟨_,k1u m3⟩
   ·exact⟨_,k1u m4⟩
  ·refine an4 st fun a1 a2 za a4=>?_;clear st;obtain⟨_,a3,_⟩:=za
   simp only[a0P,a6V,a0G,a0Z,a5C]at hb
   have gi:∀p∈[Zs.mk N l1 v1.toArray,⟨N+1,l2,v2.toArray⟩,⟨N+2,l3,v3.toArray⟩,⟨N+3,l4,v4.toArray⟩],∃o,h.get? p.it=some o:=fun p hp=>let⟨⟨o,ho,_⟩,_⟩:=a4 p hp;⟨o,ho⟩
   rcases hb with rfl|rfl|rfl|rfl|rfl|rfl|rfl
   ·exact⟨_,a1⟩
   ·exact⟨_,a2⟩
   ·exact⟨_,a3⟩
   ·exact gi _ (.head _)
   ·exact gi _ (.tail _ (.head _))
   ·exact gi _ (.tail _ (.tail _ (.head _)))
   ·exact gi _ (.tail _ (.tail _ (.tail _ (.head _))))
  ·intro p hp
   simp only[a0G,a0Z,a5C]at hp
   rcases hp with rfl|rfl|rfl|rfl
   ·exact⟨i1,up I1⟩
   ·exact⟨i2,up I2⟩
   ·exact⟨i3,up I3⟩
   ·exact⟨i4,up I4⟩
  ·have: @LE.le Nat instLENat N b:=by
    simp only[a0P,a6V,a0G,a0Z,a5C]at hb
    rcases hb with rfl|rfl|rfl|rfl|rfl|rfl|rfl<;>(show @LE.le Nat instLENat _ _;first|exact a0W _|exact a4J _ _)
   cases q:s1.heap.get? b with
   |none=>rfl
   |some o=>exact absurd (a0M q) (a6U.mpr this)
  ·show([N+6,N+4,N+5,N,N+1,N+2,N+3]:List Nat).Nodup
   simp
  ·simp only[a0P,a6V,a3H,a2V,a0G,a0Z,a5C]at hb⊢
   rcases hb with rfl|rfl|rfl|rfl|rfl|rfl|rfl|rfl|rfl|rfl|rfl<;>simp
  ·refine x2a3 hP fun T vals za zb hTu=>?_;clear hP;obtain rfl:=za;obtain⟨_,hv,hj⟩:=zb
   obtain⟨vs,rfl⟩:∃vs:List Value,vals=vs.toArray:=⟨vals.toList,by simp⟩
   have g0:=hj 0 _ rfl
   have g1:=hj 1 _ rfl
   have g2:=hj 2 _ rfl
   have g3:=hj 3 _ rfl
   simp only[List.getElem?_toArray]at g0 g1 g2 g3
   refine ex4 (p5l hv) fun w0 w1 w2 w3 za=>?_;obtain rfl:=za
   have key:∀ {as:List SV} {us:List Value} {u:Value},Are as us ->i<as.length ->some u=us[i]? ->(as.getD i SN).is u:=fun hA hi hu=>by
    refine x1a2 (hA.get _ _ hu.symm) fun a ha hau=>?_
    rw[a0E,ha];exact hau
   refine k5h (ns:=ns) G.h hTu (.cons (key A1 hi g0) (.cons (key A2 (om0 (by assumption) n2) g1) (.cons (key A3 (om0 (by assumption) n3) g2) (.cons (key A4 (om0 (by assumption) n4) g3) .nil)))) h4 H (List.map_inj_left.mp hl) hp fun s' H'=>kk s' ?_
   rw[k2s]at H'
   exact H'
 rw[hs]at hq
 exact a5N hq
end
section
variable {C:Cx}{σ:Loc}{ld ld':Led}{s s':Shared}{x y:PySem.Str}{a b t e:Expr}{pos:Pos}{sv:SV}{xs:List PySem.Str}{R:SV ->Led ->Prop}{W:Bool ->Led ->Prop}{p:Bool}
theorem Ev.ifExp (ht:Tst C σ ld t p)(ha:p=true ->Ev C σ ld a sv)(hb:p=false ->Ev C σ ld b sv):Ev C σ ld (.IfExp t a b pos) sv:=.mk fun s Q E H k=>by
 walk1
 refine ht.run s _ _ H fun c s' g hc=>?_
 subst hc
 cases c with
 |true=>exact(ha rfl).run s' Q E (H.go g) fun v s'' g' hv=>k v s'' (g.trans g') hv
 |false=>exact(hb rfl).run s' Q E (H.go g) fun v s'' g' hv=>k v s'' (g.trans g') hv
theorem Ew.binS (ha:Ev C σ ld a (.str x))(hb:Ew C σ ld b fun sv ld'=>∃y,sv=.str y∧x.length+y.length<=16777216∧R (.str (x++y)) ld'):Ew C σ ld (.BinOp a .Add b pos) R:=.mk fun s Q E H k=>by
 walk1
 refine ha.run s _ _ H fun v s' g hv=>?_
 refine hb.run s' _ _ (H.go g) fun v' sv' ld' s'' hv' hp H''=>?_
 refine x1a3 hp fun y za hz r=>?_;clear hp;obtain rfl:=za
 exact(Opr.addS (C:=C) hz).run v v' s'' Q E hv hv' fun r' s3 g3 hr=>k _ (.str (x++y)) ld' s3 hr r (H''.go g3)
theorem Tw.neS (h:Ew C σ ld a fun sv ld'=>∃x,sv=.str x∧Ew C σ ld' b fun sv' ld''=>∃y,sv'=.str y∧W (x !=y) ld'')(hm:autoParam (behindInMarks .NotEq b=false) aU):Tw C σ ld (.Compare a [.NotEq] [b] pos) W:=.mk fun s Q E H k=>by
 refine a1F (h.run s _ _ H fun v sv ld' s' hv hp H'=>?_) hm
 refine x1a2 hp fun x za hb=>?_;clear hp;obtain rfl:=za
 obtain⟨t,rfl⟩:=hv
 refine hb.run s' _ _ H' fun v sv ld'' s'' hv hp H''=>?_
 refine x1a2 hp fun y za w=>?_;clear hp;obtain rfl:=za
 obtain⟨u,rfl⟩:=hv
 walk1
 walk1
 exact k _ ld'' _ w H''
theorem Tw.neT (h:Ew C σ ld a fun sv ld'=>∃l,sv=SR l∧Ew C σ ld' b fun sv' ld''=>∃l' xs,sv'=SR l'∧Has C σ ld'' l (.tup (List.map SV.str xs))∧Has C σ ld'' l' (.tup (xs.map .str))∧W false ld'')(hu:C.A.units+64<cLine)
  (hm:autoParam (behindInMarks .NotEq b=false) aU):Tw C σ ld (.Compare a [.NotEq] [b] pos) W:=.mk fun s Q E H k=>by
 refine a1F (h.run s _ _ H fun v sv ld' s' hv hp H'=>?_) hm
 refine x1a2 hp fun l za hb=>?_;clear hp;obtain rfl:=za
 obtain rfl:=hv
 refine hb.run s' _ _ H' fun v sv ld'' s'' hv hp H''=>?_
 refine x2a4 hp fun l' xs za h1 h2 w=>?_;clear hp;obtain rfl:=za
 obtain rfl:=hv
 refine x1a2 (h1 _ H'') fun o1 g1 zx=>x1a2 zx fun vs za hA=>?_;clear zx;obtain rfl:=za
 refine x1a2 (h2 _ H'') fun o2 g2 zx=>x1a2 zx fun us za hB=>?_;clear zx;obtain rfl:=za
 have l1:=hA.len
 have l2:=hB.len
 rw[a0J]at l1 l2
 have key:=SeqAt.RcNeAt.tuples (A:=C.A) (s:=s'') (e:=fun _=>true) (items:=vs.toArray) (items2:=us.toArray) ⟨_,g1,rfl,_,rfl⟩ ⟨_,g2,rfl,_,rfl⟩ (Nat.lt_of_add_right_lt hu) (fun j h1 h2=>by
  simp only[a1M]at h1 h2
  refine x1a2 (hA.get j _ (a0D h1)) fun a ha x1=>?_
  refine x1a2 (hB.get j _ (a0D h2)) fun b hb x2=>?_
  rw[ha]at hb
  injection hb with hb
  subst hb
  rw[a0T,Option.map_eq_some_iff]at ha
  refine x1a2 ha fun x _ za=>?_;clear ha;obtain rfl:=za
  obtain⟨t,x1⟩:=x1
  obtain⟨u,x2⟩:=x2
  rw[show vs.toArray[j]=Value.str x t from x1,show us.toArray[j]=Value.str x u from x2]
  have:=SeqAt.EqAt.str_str (A:=C.A.in1) (s:=s'') x t x u
  rw[beq_self_eq_true]at this
  exact this)
 refine key _ _ _ _ ?_
 rw[show((List.range (min vs.toArray.size us.toArray.size)).all (fun _=>true)&&vs.toArray.size==us.toArray.size)=true by simp;exact om384 l1 l2]
 walk1
 exact k _ ld'' _ w H''
end
noncomputable def bareF (l:List Nat):Nat:=(l.takeWhile (· ==46)).length
noncomputable def cutsF (l:List Nat):List Nat:=(((List.range (l.length-bareF l)).map (bareF l+ ·)).filter fun k=>l[k]?==some 46)++[l.length]
noncomputable def k3h (p l:List Nat):List Str:=S (p.take (p.length-l.length+(cutsF l).headD 0))::((cutsF l).zip ((cutsF l).drop 1)).map fun q=>S ((l.take q.2).drop q.1)
noncomputable def m9i (l:List Nat):SV ->Bool
 | .int k=>l[k.toNat]?==some 46
 |_=>false
theorem m3z (c:Nat):((⟨#[c]⟩:Str)==Str.ofString ".")=decide (c=46):=by rw[show Str.ofString "."=⟨#[46]⟩from by decide+kernel,k6m]
theorem p5t (l:List Nat)(b:Nat):∀m:Nat,((intsFrom (b:Int) m).filter (m9i l)).map (fun sv=>sv)=((((List.range m).map (b+ ·)).filter fun k=>l[k]?==some 46)).map fun k:Nat=>SV.int (k:Int):=by
 intro m
 rw[List.map_id'',intsFrom,List.filter_map,List.filter_map,a1X]
 ·congr 1
 ·intro x;rfl
theorem p5p {w:World}{x y:Str}(hx:x.length<=1000)(hy:y.length<=x.length):Cn w 0 256 [.str x,.str y] (fun _=>True) (fun sv new=>∃D,sv=SR D∧new=[(D,.list ((k3h x.cps.toList y.cps.toList).map .str))]):=by
 refine k8c (σ:=[(Str.ofString "path",.str x),(Str.ofString "last",.str y)]) (binds:=fun vs=>[(Str.ofString "path",vs.headD .none),(Str.ofString "last",vs.getD 1 .none)]) (by k_is) (by k_is) (fun vs s h=>?_) (fun vs h=>?_) (by decide) (fun vs L h=>?_) (by decide+kernel) (fun h₀ sh L=>?_)
 ·refine x2a3 h.two fun _ _ za zb zx=>ex1 zx fun u zc=>?_;clear zx;obtain rfl:=za;obtain⟨t,rfl⟩:=zb;obtain rfl:=zc
  exact a1V rfl
 ·rfl
 ·refine x2a3 h.two fun _ _ za zb zx=>ex1 zx fun u zc=>?_;clear zx;obtain rfl:=za;obtain⟨t,rfl⟩:=zb;obtain rfl:=zc
  intro p hp
  rcases a0G.mp hp with rfl|hp
  ·exact⟨_,⟨t,rfl⟩,.inl ⟨rfl,rfl⟩⟩
  ·rw[a0B.mp hp]
   exact⟨_,⟨u,rfl⟩,.inr ⟨rfl,⟨_,rfl⟩,rfl⟩⟩
 intro C G _
 have hz:=om6 hx hy
 have hlen:y.length=y.cps.toList.length:=by simp[Str.length]
 generalize hl0:y.cps.toList=l at*
 have getl:∀i c,l[i]?=some c ->y.cps[i]?=some c:=fun i c e=>by rw[<-hl0,a5X]at e;exact e
 walk_at "xs"
 refine Xs.cons (X1.a2 (fun n σ ld=>∃i:Nat,σ=[(Str.ofString "bare",.int i),(Str.ofString "path",.str x),(Str.ofString "last",.str y)]∧ld=[]∧i<=bareF l∧n=l.length-i)
  (fun σ ld=>σ=[(Str.ofString "bare",.int (bareF l)),(Str.ofString "path",.str x),(Str.ofString "last",.str y)]∧ld=[]) l.length ⟨_,_,⟨0,rfl,rfl,a0R _,rfl⟩,⟨rfl,rfl,rfl,trivial⟩,.slnil⟩ ?_ ?_)
 ·rintro n σ ld zu;refine x1a4 zu fun i za zb hi hn=>?_;clear zu;refine eq2 za zb ?_;clear za zb
  refine⟨_,Tst.and (by walk_at "ts") (fun q=>by rw[a1B]at q;walk_at "ts"),fun q=>?_,fun q=>?_⟩
  ·rw[a2Y,a1B]at q
   have hil:i<l.length:=Nat.lt_of_lt_of_eq (Int.ofNat_lt.mp q.1) hlen
   rw[k0p (getl i _ (a0D hil)),m3z]at q
   have hs:i<bareF l:=by
    rcases a5R hi with h|h
    ·exact h
    ·have:=k9q (· ==46) l l[i] (by rw[show(l.takeWhile (· ==46)).length=i from h.symm];exact a0D hil)
     simp at this;have:=q.2;simp at this;exact(om418 this (by assumption)).elim
   walk_at "xs"
   exact⟨_,_,⟨n-1,by exact om43 hil hn,i+1,rfl,rfl,hs,by exact om13 hn⟩,⟨rfl,rfl,rfl,trivial⟩,.slnil⟩
  ·have hs:i=bareF l:=by
    rcases a5R hi with h|h
    ·refine x1a2 (m4m (· ==46) l i h) fun c hc hd=>?_
     have hil:i<l.length:=(a1A.mp hc).1
     rw[k0p (getl i _ hc),m3z]at q
     simp at q hd;exact(om178 q hil hd hlen).elim
    ·exact h
   exact⟨_,_,⟨rfl,rfl⟩,⟨hs▸rfl,rfl,rfl,trivial⟩,.slnil⟩
 rintro σ ld ⟨rfl,rfl⟩
 show Xs _ _ _ _ _
 have hb:bareF l<=l.length:=m7j _ _
 have ey:((y.length:Int)-(bareF l:Int)).toNat=l.length-bareF l:=om86 hlen
 refine Xs.cons (X1.a0 (Ew.a4 (xs:=((intsFrom (bareF l) (l.length-bareF l)).filter (m9i l)).map fun sv=>sv) ?_))
 refine Ew.comp (cl:=C.env.cells) (xs:=intsFrom (bareF l) (l.length-bareF l)) (p:=m9i l) (f:=fun sv=>sv) (σc:=[(Str.ofString "last",.str y)]) ?src ⟨⟨rfl,fun _ h=>h,k1i _ _ _ a1U (fun _ h=>nomatch h),fun p hp=>?cap⟩,fun B=>rfl,?plain,?size,?tests,?elt⟩ ?P
 case src=>exact ey▸Src.range2 G (.cons (by walk_at "ev") (.cons (by walk_at "ev") .nil)) om49 (om331 hlen hx hy hb) om49 (om414 hx hy)
 case cap=>rw[a0B.mp hp];exact⟨rfl,.inl rfl,rfl,fun B=>.inl rfl⟩
 case plain=>intro a ha;refine x1a2 (a0K.mp ha) fun k _ za=>?_;obtain rfl:=za;rfl
 case size=>rw[k1g];exact om196 ey hx hy
 case tests=>
  intro a ha B s
  refine x1a2 (a0K.mp ha) fun k hk za=>?_;obtain rfl:=za
  have hk:=a3O.mp hk
  have hkl:bareF l+k<l.length:=om34 hk
  have e:m9i l (.int ((bareF l:Int)+(k:Int)))=(Txt.item y ((bareF l:Int)+(k:Int))==Str.ofString "."):=by
   rw[show((bareF l:Int)+(k:Int))=((bareF l+k:Nat):Int) by exact om467,k0p (getl _ _ (a0D hkl)),m3z]
   show(l[((bareF l+k:Nat):Int).toNat]?==some 46)=_
   rw[a1W,a0D hkl]
   rfl
  rw[e]
  exact .one (by walk_at "ts")
 case elt=>
  intro a ha _ B s
  exact Ev.name rfl
 case P=>
  intro D
  refine⟨D,rfl,Has.mem (.head _),Ew.list (EwL.pure (.cons (by walk_at "ev") .nil) ⟨kb rfl,fun D'=>⟨D',rfl,Has.mem (.tail _ (.head _)),_,Has.mem (.head _),?_,fun D2=>?_⟩⟩)⟩
  ·have:=a4N (m9i l) (intsFrom (bareF l) (l.length-bareF l))
   rw[k1g]at this
   simp;exact om160 ey this hx hy
  rw[p5t,show [SV.int (y.length:Int)]=[l.length].map (fun k:Nat=>SV.int (k:Int)) by simp[hlen],<-a0U]
  show Xs _ _ _ _ _
  have hc:(((List.range (l.length-bareF l)).map (bareF l+ ·)).filter fun k=>l[k]?==some 46)++[l.length]=cutsF l:=rfl
  rw[hc]
  have hcl:∀k∈cutsF l,k<=l.length:=fun k hk=>by
   rcases a0V.mp hk with hk|hk
   ·refine x1a2 (a0K.mp (a5U.mp hk).1) fun j hj za=>?_;obtain rfl:=za
    have:=a3O.mp hj
    exact om268 this
   ·rw[a0B.mp hk];exact a0W _
  have hcz:(cutsF l).length<=l.length+1:=by
   unfold cutsF
   rw[a0Y]
   have:=a4N (fun k=>l[k]?==some 46) ((List.range (l.length-bareF l)).map (bareF l+ ·))
   simp at this⊢;exact om256 this
  have hne:∃c r,cutsF l=c::r:=by
   unfold cutsF
   cases h:(((List.range (l.length-bareF l)).map (bareF l+ ·)).filter fun k=>l[k]?==some 46)with
   |nil=>exact⟨_,_,rfl⟩
   |cons c r=>exact⟨_,_,rfl⟩
  walk_at "xs"
  refine ex2 hne fun c r hcr=>?_
  have hc0:c<=l.length:=hcl c (by rw[hcr];exact .head _)
  generalize hcs:(cutsF l).map (fun k:Nat=>SV.int (k:Int))=cs
  have hcs0:cs[(0:Int).toNat]?=some (.int c):=by rw[<-hcs,hcr];rfl
  have hcsl:cs.length<=1001:=by rw[<-hcs,a0J];exact om272 hlen hcz hx hy
  refine Xs.cons (X1.ret (Ew.a4 (xs:=[.str (Txt.slice x none (some ((x.length:Int)-y.length+c)))]) (Ew.list (EwL.pure (.cons (Ev.a5 (by walk_at "ev") (Ev.a6 (by walk_at "ev") (Ev.a7 (by walk_at "ev") (Has.mem (.head _)) (by walk_at "ev") (by decide) hcs0 (by decide)) Opr.addI) (om1 hx)) .nil) ⟨kb rfl,fun D3=>⟨D3,rfl,Has.mem (.head _),?_⟩⟩))))
  refine Ew.comp2 (cl:=C.env.cells) (xs:=cs.zip (cs.drop 1)) (f:=fun p=>match p with| (.int a,.int b)=>.str (Txt.slice y (some a) (some b))|_=>SN) (σc:=[(Str.ofString "last",.str y)]) (R:=fun ld'=>∃D4,ld'=(D4,.list (cs.drop 1))::(D3,.list [.str (Txt.slice x none (some ((x.length:Int)-y.length+c)))])::_)
   (Src2.zip G (.cons (Ew.pure (by walk_at "ev") (.cons (Ew.a2 (by walk_at "ev") (Has.mem (.tail _ (.head _))) (by walk_at "ev") (by decide) (om512 hcsl) fun D4=>.nil ⟨_,D4,rfl,Has.mem (.tail _ (.tail _ (.head _))),Has.mem (.head _),D4,rfl⟩)))))
   ⟨rfl,fun _ h=>h,k1i _ _ _ a1U (fun _ h=>nomatch h),fun p hp=>?cap2⟩ (by decide+kernel) (fun B=>rfl) (fun B=>rfl) ?size2 ?elt2 G.h ?P2
  case cap2=>rw[a0B.mp hp];exact⟨rfl,.inl rfl,rfl,fun B=>.inl rfl⟩
  case size2=>rw[List.length_zip];exact om209 hcsl
  case elt2=>
   rintro ld' ⟨D4,rfl⟩ p hp B s
   obtain⟨a,b⟩:=p
   have ha:=(List.of_mem_zip hp).1
   have hb:=a2S (List.of_mem_zip hp).2
   rw[<-hcs]at ha hb
   refine x1a2 (a0K.mp ha) fun i _ za=>?_;obtain rfl:=za
   refine x1a2 (a0K.mp hb) fun j _ za=>?_;obtain rfl:=za
   exact Ev.a4 (Ev.name rfl) (Ev.name rfl) (Ev.name rfl) (om6 hx hy)
  case P2=>
   rintro ld' ⟨D4,rfl⟩ D5
   refine⟨D5,rfl,Has.mem (.tail _ (.tail _ (.head _))),_,Has.mem (.head _),?_,fun D6=>?_⟩
   ·simp;exact om280 hcsl
   have e:([SV.str (Txt.slice x none (some ((x.length:Int)-y.length+c)))]++(cs.zip (cs.drop 1)).map (fun p=>match p with| (.int a,.int b)=>.str (Txt.slice y (some a) (some b))|_=>SN))=(k3h x.cps.toList l).map .str:=by
    have ex:x=S x.cps.toList:=(k2k x).symm
    have ey:y=S l:=by rw[<-hl0]
    have hpx:x.length=x.cps.toList.length:=by simp[Str.length]
    unfold k3h
    rw[hcr,List.headD_cons,<-hcr,a0P,<-hcs,<-a6D,List.zip_map,a1X,a1X]
    refine congr (a3C List.cons (a3C SV.str ?_)) (a2R fun q _=>?_)
    ·have en:((x.length:Int)-y.length+c)=((x.cps.toList.length-l.length+c:Nat):Int):=om145 hlen hpx hy
     rw[en,<-k6n,<-ex]
    ·show SV.str (Txt.slice y (some (q.1:Int)) (some (q.2:Int)))=.str (S ((l.take q.2).drop q.1))
     rw[<-k2m,<-ey]
   rw[e]
   exact⟨_,⟨D6,rfl,rfl⟩,.cons_cons _ (a0X _)⟩
noncomputable def laidF (p0 p1:Str):Str:=[p0,p1].foldl joinStep (Str.ofString "/b")
noncomputable def k2f (p0 p1:Str):List Str:=Str.ofString "b"::[p0,p1].filter fun x=>x !=Str.ofString ""
noncomputable def k1y (p1:Str):List Str:=if p1=Str.ofString "" then [Str.ofString ""]else []
noncomputable def k4n (xs:List Str):Str:=Str.ofString "/"++Txt.join (Str.ofString "/") xs
noncomputable def k0u (low high:List Str):List Str:=List.replicate (low.length-lcp low high) (Str.ofString "..")++high.drop (lcp low high)
noncomputable def wayF (low high:List Str):Str:=if k0u low high=[]then Str.ofString "." else Txt.join (Str.ofString "/") (k0u low high)
structure GP (stk:List Str)(sp:Str):Prop where
 eq:sp=k4n stk
 len:stk.length<=3
 alen:AllLen 100 stk
 good:∀c∈stk,c≠Str.ofString ""∧c≠Str.ofString "."∧c≠Str.ofString ".."∧47∉c.cps.toList
structure GQ (sp:Str):Prop where
 root:k1m sp=Str.ofString "/"
 starts:Txt.startswith sp (Str.ofString "/")=true
 len:sp.length<=900
 nlen:(normF sp).length<=400
structure PF (p0 p1:Str):Prop where
 l0:p0.length<=100
 l1:p1.length<=100
 okn:OkS [p0,p1]
 laid:laidF p0 p1=k4n (k2f p0 p1++k1y p1)
 okc:OkS (k2f p0 p1++k1y p1)
 climb:climbTo 60 (laidF p0 p1)=k2f p0 p1++k1y p1
 peel:peelTo 30 (laidF p0 p1)=k3h (laidF p0 p1).cps.toList p1.cps.toList
 oke:OkS (k3h (laidF p0 p1).cps.toList p1.cps.toList)
 llen:(laidF p0 p1).length<=900
 lle:p1.length<=(laidF p0 p1).length
 root:k1m (laidF p0 p1)=Str.ofString "/"
 gp:GP (stackF [p0,p1]) (normF (laidF p0 p1))
structure RF (k i n b a0 a1 pl p0 p1:Str):Prop where
 okg:OkS [blankF k,blankF i,blankF n]
 lk:(blankF k).length<=100
 li:(blankF i).length<=100
 ln:(blankF n).length<=100
 lb:b.length<=100
 zr:∀p∈Txt.split (blankF i) (T "."),(reprText p).length<=sizeLine
 ir:∀p∈Txt.split (blankF i) (T "."),∀n,PySem.intText? p=some n ->(n-3).natAbs.log2<1920∧(PySem.Str.ofString (toString (n-3))).length<=1000
 al:k1w (blankF k) (blankF i) (blankF n)=[a0,a1,blankF n]
 alk:k1k (blankF k) (blankF i)=a0
 ali:k1n (blankF k) (blankF i)=a1
 zv:∀p∈verParts (blankF n) b,(reprText p).length<=sizeLine
 iv:∀p∈verParts (blankF n) b,∀n,PySem.intText? p=some n ->n.natAbs.log2<1920
 rv:∀p∈verParts (blankF n) b,readable p=true ->(reread p).length<=1000
 ver:verF (blankF n) b=pl
 nor:k0o (blankF n) b=pl
 lpl:pl.length<=100
 zw:∀p∈verParts pl (Str.ofString ""),(reprText p).length<=sizeLine
 iw:∀p∈verParts pl (Str.ofString ""),∀n,PySem.intText? p=some n ->n.natAbs.log2<1920
 rw':∀p∈verParts pl (Str.ofString ""),readable p=true ->(reread p).length<=1000
 ver1:verF pl (Str.ofString "")=k0o pl (Str.ofString "")
 la0:a0.length<=400
 la1:a1.length<=400
 asc0:Asc a0
 asc1:Asc a1
 asc2:Asc pl
 e0:m6h [a0,a1]=p0
 s0:m1r [a0,a1]=p0
 e1:m6h [pl]=p1
 s1:m1r [pl]=p1
 q:PF p0 p1
structure m1c:Prop where
 recs:∀k i n b,IsRec k i n b ->∃a0 a1 pl p0 p1,RF k i n b a0 a1 pl p0 p1
 gq:∀stk sp,GP stk sp ->GQ sp
 common:∀(stks:List (List Str)) (sps:List Str),stks.length=sps.length ->0<sps.length ->(∀j,j<sps.length ->GP (stks.getD j []) (sps.getD j Str.empty)) ->cpathF sps=k4n (k0y stks)
 rel:∀low high here there,GP low here ->GP high there ->relF there here=wayF low high
 back:∀low high here there,GP low here ->GP high there ->normF (joinStep here (wayF low high))=there∧k1m (joinStep here (wayF low high))=Str.ofString "/"∧(joinStep here (wayF low high)).length<=900∧(wayF low high).length<=1000
theorem p4e {ls:List Addr}{new:Led}(h:∀l∈ls,∃k i n b,(l,SO.tup [.str k,.str i,.str n,.str b])∈new∧IsRec k i n b):
  ∃rows:Nat ->List SV,∀(j:Nat) (l:Addr),ls[j]?=some l ->(l,SO.tup (rows j))∈new∧∃k i n b,rows j=[.str k,.str i,.str n,.str b]∧IsRec k i n b:=by
 have key:∀j:Nat,∃r:List SV,∀l:Addr,ls[j]?=some l ->(l,SO.tup r)∈new∧∃k i n b,r=[.str k,.str i,.str n,.str b]∧IsRec k i n b:=fun j=>by
  cases e:ls[j]? with
  |none=>exact⟨[],fun l h=>nomatch h⟩
  |some l=>
   refine x4a2 (h l (a1D e)) fun k i n b h1 h2=>?_
   exact⟨_,fun l' q=>by cases q;exact⟨h1,k,i,n,b,rfl,h2⟩⟩
 exact⟨fun j=>(key j).choose,fun j=>(key j).choose_spec⟩
noncomputable def neB:SV ->Bool
 | .str x=>x !=Str.ofString ""
 |_=>false
theorem p5j (p0 p1:Str):[SV.str (Str.ofString "b")]++(([p0,p1].map SV.str).filter neB).map (fun sv=>sv)=(k2f p0 p1).map .str:=by
 rw[List.map_id',List.filter_map]
 rfl
theorem p2f (p0 p1:Str):(k2f p0 p1++k1y p1).length<=4∧(k2f p0 p1).length<=3∧(k1y p1).length<=1:=by
 have h:=a4N (fun x=>x !=Str.ofString "") [p0,p1]
 have h2:(k1y p1).length<=1:=by unfold k1y;split<;>simp
 have h3:(k2f p0 p1).length<=3:=by unfold k2f;simp at h⊢;exact om551 h
 rw[a0Y]
 exact⟨by exact om390 h2 h3,h3,h2⟩
theorem m9l {p0 p1:Str}(h0:p0.length<=100)(h1:p1.length<=100):AllLen 100 (k2f p0 p1++k1y p1):=by
 refine k3s (k0k (by decide+kernel) fun x hx=>?_) fun x hx=>?_
 ·have:=(a5U.mp hx).1
  simp at this
  rcases this with rfl|rfl<;>assumption
 ·unfold k1y at hx
  split at hx
  ·rw[a0B.mp hx];decide+kernel
  ·cases hx
theorem k3f {α:Type}{l:List α}{a d:α}{j:Nat}(h:j<l.length):(l++[a]).getD j d=l.getD j d:=by
 rw[a0E,a0E,a4A h]
theorem k7y {α:Type}{l:List α}{a d:α}{j:Nat}(h:j=l.length):(l++[a]).getD j d=a:=by
 subst h
 rw[a0E,a2C (a0W _),Nat.sub_self];rfl
theorem p4f {α:Type}{l:List α}{i:Nat}(h:i<l.length):(l.drop 1++l.take 1)[i]?=l[if i+1<l.length then i+1 else 0]?:=by
 by_cases h2:i+1<l.length
 ·rw[if_pos h2,a4A (by simp;exact Nat.lt_sub_of_add_lt h2),List.getElem?_drop]
  congr 1;exact om503
 ·rw[if_neg h2,a2C (by simp;exact Nat.le_of_not_lt h2),List.getElem?_take,if_pos (by simp;exact om41 h)]
  congr 1;simp;exact om41 h
theorem p3e {α:Type}{l:List α}{g:α ->SV}{i:Nat}{d:α}(h:i<l.length):((l.map g).drop 1++(l.map g).take 1).getD i SN=g (l.getD (if i+1<l.length then i+1 else 0) d):=by
 rw[a0E,p4f (by simpa using h),a0J,a0T,a0E]
 have:(if i+1<l.length then i+1 else 0)<l.length:=by split<;>(first|exact om193 (by assumption)|exact om11 h)
 rw[a0D this];rfl
theorem k7r {α:Type}{l:List α}{g:α ->SV}{i:Nat}{d:α}(h:i<l.length):(l.map g).getD i SN=g (l.getD i d):=by
 rw[a0E,a0T,a0E,a0D h];rfl
theorem m7p {low high:List Str}(h1:low.length<=3)(h2:high.length<=3):(k0u low high).length<=6:=by
 unfold k0u;simp;exact om118 h1 h2
theorem m5x {low high:List Str}(h:AllLen 100 high):AllLen 100 (k0u low high):=by
 unfold k0u
 exact k3s (m5n (by decide+kernel)) (k8f h)
noncomputable def lawP:Fl ->Loc ->Led ->Prop
 | .ret sv,_,ld=>sv=SB true∧∃ps,(platP,SO.obj (tabObj ps))∈ld
 |_,_,_=>False
theorem m9b {w:World}{f:Addr}{svs:List SV}{pre:Heap ->Prop}{name qual:Str}{params:Arguments}{body:List Stmt}{scope:Scope}
  {dV kV doc pm cdv ct oc:Value}{an od:Option Addr}{osl:Array (Option Value)}{σ:Loc}{binds:List Value ->List (Str×Value)}
  (ho:(hd.heap_1 w.params).lookup f=some ⟨oc,od,.func (fnOf name qual params body scope dV kV doc pm an cdv ct),osl⟩)(hcd:codeIn (hd.heap_1 w.params) cdv qual=true)
  (hbind:∀vs (s:Shared),Are svs vs ->BindsTo s (fnOf name qual params body scope dV kV doc pm an cdv ct) ⟨vs,[]⟩ (binds vs))(hσ:∀vs,Are svs vs ->BindIs σ (binds vs).reverse)(hloc:∀vs,Are svs vs ->∀y∈binds vs,scope.names.lookup y.1=some .local)
  (h:∀(h₀:Heap) (sh:Shared) (L:Addr) (mg mb:Str ->Option Value) (bm:Addr) (ob:Obj),let C:Cx:=⟨w,callerA.deeper (envOf qual scope L f cdv),envOf qual scope L f cdv,h₀,restP sh,k9z sh⟩
   Gd C ->TopRead vw loose mg mb h₀ ->BMod h₀ mainGlobals mg bm ob ->pre h₀ ->XsC C σ [(platP,.obj (tabObj #[]))] body lawP)
  {s:Shared} {mg mb:Str ->Option Value} {bm:Addr} {ob:Obj} {vs:List Value} (X:(hd.heap_1 w.params).In s.heap) (T:TopRead vw loose mg mb s.heap) (B:BMod s.heap mainGlobals mg bm ob) (hP:s.heap.get? platP=some (tabObj #[])) (hg:AllBare s.gens) (hvs:Are svs vs) (hpre:pre (noTab s.heap)) {Q:Value ->Shared ->Prop} {E:Value ->Shared ->Prop}
  (hQ:∀s',(∀b o,b≠platP ->s.heap.get? b=some o ->s'.heap.get? b=some o) ->(∃ps,s'.heap.get? platP=some (tabObj ps)) ->s'.os=s.os ->AllBare s'.gens ->Q (.bool true) s')
  (hco:autoParam (scope.isCoroutine=false) aR) (hgen:autoParam (scope.isGenerator=false) aR) (hk:autoParam (scope.kind=.function) aR)
  (hcell:autoParam (∀x∈scope.names,x.2≠ .cell) aD):wpC (model PR w) callerA (call (.ref f) vs) Q E s:=by
 refine m4l (p3k X T (kb rfl) ho hcd (hbind vs s hvs) (hloc vs hvs) (fun B2 F=>?_) hco hgen hk hcell)
 have hlt:platP<s.heap.objs.size:=a0M hP
 have H:Hold ⟨w,callerA.deeper (envOf qual scope s.heap.objs.size f cdv),envOf qual scope s.heap.objs.size f cdv,noTab s.heap,restP s,k9z s⟩ σ [(platP,.obj (tabObj #[]))] {s with heap:=B2,toks:=s.toks+(binds vs).length}:=by
  refine⟨⟨_,⟨F.ns,fun b o e=>F.keep b o (a5Z _ e),a4L (hideAll_size _ _)⟩,fun x sv e=>?_⟩,fun p hp=>?_,(fun _ h=>nomatch h),a1L.mpr ⟨a0Z,a1U⟩,⟨rfl,hg⟩⟩
  ·obtain⟨v,hv,q⟩:=(hσ vs hvs).get x sv e
   exact⟨v,q,.inl ⟨hloc vs hvs _ (a4F.mp (k0a hv)),hv⟩⟩
  ·rw[a0B.mp hp]
   exact⟨_,F.keep _ _ hP,rfl,a0S hlt,hideAll_none _ (a0B.mpr rfl)⟩
 refine(h (noTab s.heap) s s.heap.objs.size mg mb bm ob ⟨m3m X,⟨mg,mb,m3n hP T⟩,rfl,rfl,hk,rfl⟩ (m3n hP T) (m8q hP B) hpre).run _ _ _ H fun fl' fl σ' ld' s' hf hp H'=>?_
 cases fl with
 |ret sv=>
  obtain⟨v,rfl,hv⟩:=hf
  obtain⟨rfl,ps,hps⟩:=hp
  obtain rfl:=hv
  obtain⟨m,F',_⟩:=H'.fr
  exact hQ s' (fun b o hb e=>F'.keep b o (a4R _ e fun q=>hb (a0B.mp q))) ⟨ps,H'.get hps⟩ H'.rest.1 H'.rest.2
 |next=>exact hp.elim
 |brk=>exact hp.elim
 |cont=>exact hp.elim
theorem p5e {w:World}(PL:m1c){a:Addr}{ns:List Int}(hn:ns.length<=63){s:Shared}{mg mb:Str ->Option Value}{bm:Addr}{ob:Obj}(X:(hd.heap_1 w.params).In s.heap)(T:TopRead vw loose mg mb s.heap)(B:BMod s.heap mainGlobals mg bm ob)(hP:s.heap.get? platP=some (tabObj #[]))(hg:AllBare s.gens)(hl:HasL (noTab s.heap) a (ns.map .int)){Q:Value ->Shared ->Prop}{E:Value ->Shared ->Prop}
  (hQ:∀s',(∀b o,b≠platP ->s.heap.get? b=some o ->s'.heap.get? b=some o) ->(∃ps,s'.heap.get? platP=some (tabObj ps)) ->s'.os=s.os ->AllBare s'.gens ->Q (.bool true) s'):wpC (model PR w) callerA (call (.ref 282) [.ref a]) Q E s:=by
 refine m9b (svs:=[SR a]) (pre:=fun h=>HasL h a (ns.map .int)) (σ:=[(Str.ofString "script",SR a)]) (binds:=fun vs=>[(Str.ofString "script",vs.headD .none)]) (by k_is) (by k_is) (fun vs s h=>?_) (fun vs h=>?_) (fun vs h=>?_) (fun h₀ sh L mg mb bm ob=>?_) X T B hP hg (.cons rfl .nil) hl hQ
 ·replace h:=h.one;revert h;intro zq;refine x1a2 zq fun _ za h=>?_;clear zq;obtain rfl:=za
  obtain rfl:=h
  exact a1V rfl
 ·replace h:=h.one;revert h;intro zq;refine x1a2 zq fun _ za h=>?_;clear zq;obtain rfl:=za
  exact .cons h .nil
 ·exact locs rfl
 intro C G T B ha
 refine XsC.cons (X1C.of (X1.a0 (Ew.list (EwL.pure .nil ⟨a0R _,fun Ds=>?_⟩))))
 show XsC _ _ _ (_::_) _
 refine XsC.cons (X1C.of (X1.a0 (Ew.list (EwL.pure .nil ⟨a0R _,fun Dp=>?_⟩))))
 show XsC _ _ _ (_::_) _
 refine XsC.cons (X1C.forW (FsW.tups (ns:=[(Str.ofString "kind",_),(Str.ofString "issue",_),(Str.ofString "numbers",_),(Str.ofString "build",_)]) (W:=fun ls rows=>1<=ls.length∧ls.length<=5∧∀j,j<ls.length ->∃k i n b,rows j=[.str k,.str i,.str n,.str b]∧IsRec k i n b) G (Ew.a1 G (m6g (a:=a) (ns:=ns) (om571 hn)) (EwL.pure (.cons (Ev.name rfl) .nil) ⟨rfl,fun s H=>ha.has.hasL H,fun sv new h=>?_⟩) (by walk_at "okA") (by k_is) (by k_is) rfl)) ?_)
 ·refine x2a5 h fun D ls za hD h1 h5 hr=>?_;clear h;obtain rfl:=za
  obtain⟨rows,hrows⟩:=p4e hr
  refine⟨D,ls,rows,new,rfl,rfl,hD,fun j l e=>⟨(hrows j l e).1,?_⟩,h1,h5,fun j hj=>?_⟩
  ·refine an2 (hrows j l e) fun _ zz=>x4a2 zz fun k i n b e _=>?_
   rw[e];rfl
  ·exact(hrows j _ (a0D hj)).2
 rintro B9 fz m bind zu;refine x4a5 zu fun ls rows new f za zb zc hfz zd=>?_;clear zu;obtain⟨h1,h5,hrows⟩:=za;refine eq2 zb zc ?_;clear zb zc;obtain rfl:=zd
 refine⟨fun i σ ld=>∃(sl:List Addr) (stks:List (List Str)) (sps:List Str) (tl:Led) (ps:Array Value),sl.length=i∧stks.length=i∧sps.length=i∧(∀(j:Nat) (a:Addr),sl[j]?=some a ->(a,SO.list ((stks.getD j []).map .str))∈tl)∧(∀j,j<i ->GP (stks.getD j []) (sps.getD j Str.empty))∧TriplesOk ps.toList∧σ=[(Str.ofString "spots",SR Dp),(Str.ofString "stacks",SR Ds)]∧ld=tl++(frz f new++[(Dp,.list (sps.map .str)),(Ds,.list (sl.map SR)),(platP,.obj (tabObj ps))]),
  fun _ _=>False,⟨_,_,⟨[],[],[],[],#[],rfl,rfl,rfl,(fun j a e=>by simp at e),(fun j h=>absurd h (Nat.not_lt_zero _)),trivial,rfl,rfl⟩,⟨rfl,rfl,trivial⟩,.refl _⟩,fun b hb=>?_,?turn,?done,fun _ _ h=>h.elim⟩
 ·obtain⟨o,ho⟩:=hfz b hb
  exact .inr ⟨o,fun i σ ld z=>x5a8 z fun _ _ _ _ _ _ _ _ _ _ _ _ e=>e▸a0L _ (a0N _ ho)⟩
 case turn=>
  intro i σ ld it hi hJ hit
  refine XsC.gen fun P' hP'=>?_
  refine x5a8 hJ fun sl stks sps tl ps e1 e2 e3 hst hgp ht za zb=>?_;clear hJ;refine eq2 za zb ?_;clear za zb
  refine x4a2 (hrows i hi) fun k y n b er hrec=>?_
  refine ex5 (PL.recs k y n b hrec) fun a0 a1 pl p0 p1 R=>?_
  dsimp only
  rw[er]
  obtain⟨Bl,hB⟩:∃Bl:Array Value ->Led,Bl=fun ps=>tl++(frz f new++[(Dp,.list (sps.map .str)),(Ds,.list (sl.map SR)),(platP,.obj (tabObj ps))])++it:=⟨_,rfl⟩
  have hBU:∀ps ps',LUpd platP (.obj (tabObj ps)) (.obj (tabObj ps')) (Bl ps) (Bl ps'):=fun ps ps'=>by
   rw[hB];exact(LUpd.pre (LUpd.pre (.tail (.tail .head)) _) _).suf it
  rw[show tl++(frz f new++[(Dp,.list (sps.map .str)),(Ds,.list (sl.map SR)),(platP,.obj (tabObj ps))])++it=Bl ps from by rw[hB]]
  show XsC C [(_,.str b),(_,.str n),(_,.str y),(_,.str k),_,_] _ (_::_) _
  refine XsC.cons (X1C.of (X1.asgC (cl:=[]) (σc:=[]) (xs:=[.str k,.str y,.str n]) (p:=fun _=>true) (f:=fun sv=>match sv with| .str x=>.str (blankF x)|_=>SN) (Src.tupE G.h (.cons (Ev.name rfl) (.cons (Ev.name rfl) (.cons (Ev.name rfl) .nil))) (kb rfl)) ⟨⟨rfl,(fun _ h=>nomatch h),a1U,(fun _ h=>nomatch h)⟩,fun B=>rfl,?plain,kb rfl,(fun a _ B s=>.nil),?elt⟩ fun Dg=>?_))
  case plain=>intro a ha;simp at ha;rcases ha with rfl|rfl|rfl<;>rfl
  case elt=>
   intro a ha _ B s
   simp at ha
   rcases ha with rfl|rfl|rfl<;>exact Ev.b0 (G.blk rfl) p2t (.cons (Ev.name rfl) .nil) (fun _ _=>trivial) (by walk_at "okA") (by k_is) (by k_is) rfl
  show XsC _ _ ((Dg,.list ([blankF k,blankF y,blankF n].map .str))::Bl ps) (_::_) _
  have hB3:∀a∈([.str k,.str y,.str n]:List SV),∃x,a=.str x:=fun a ha=>by simp at ha;rcases ha with rfl|rfl|rfl<;>exact⟨_,rfl⟩
  refine XsC.cons (X1C.of (X1.a4 (Tw.neL (Ew.pure (Ev.name rfl) ⟨Dg,[blankF k,blankF y,blankF n],rfl,R.okg,Ew.comp (cl:=[]) (σc:=[]) (xs:=[.str k,.str y,.str n]) (p:=fun _=>true) (f:=fun sv=>match sv with| .str x=>.str (blankF x)|_=>SN) (Src.tupE G.h (.cons (Ev.name rfl) (.cons (Ev.name rfl) (.cons (Ev.name rfl) .nil))) (kb rfl)) ⟨⟨rfl,(fun _ h=>nomatch h),a1U,(fun _ h=>nomatch h)⟩,fun B=>rfl,?plain2,kb rfl,(fun a _ B s=>.nil),?elt2⟩ fun D2=>⟨D2,[blankF k,blankF y,blankF n],rfl,Has.mem (.tail _ (.head _)),Has.mem (.head _),R.okg,?_⟩⟩) (kb rfl))))
  case plain2=>intro a ha;obtain⟨x,rfl⟩:=hB3 a ha;rfl
  case elt2=>
   intro a ha _ B s
   obtain⟨x,rfl⟩:=hB3 a ha
   exact Ev.ifExp (Tst.eqS (Ev.name rfl) Ev.a0) (fun q=>Ev.to Ev.a0 (by show SV.str _=SV.str (blankF x);unfold blankF;rw[if_pos (a1T.mp q)])) (fun q=>Ev.to (Ev.name rfl) (by show SV.str _=SV.str (blankF x);unfold blankF;rw[if_neg (a2Q.mp q)]))
  rw[if_neg (by simp)]
  refine Xs.nil ?_
  show XsC _ _ (_::(Dg,.list ([blankF k,blankF y,blankF n].map .str))::Bl ps) (_::_) _
  refine XsC.cons (X1C.asgH G (p2x (k:=blankF k) (r:=blankF y) (v:=blankF n) (a0H R.li (by decide)) R.zr R.ir) (Ev.name rfl) (Has.mem (.tail _ (.head _))) (.inl rfl) (kb rfl) (fun Dn=>?_) (by walk_at "okA") rfl (by k_is) (by k_is) rfl)
  rw[R.al]
  show XsC _ _ ((Dn,.tup ([a0,a1,blankF n].map .str))::_::(Dg,.list ([blankF k,blankF y,blankF n].map .str))::Bl ps) (_::_) _
  refine XsC.cons (X1C.of (X1.a4 (Tw.neT (Ew.pure (Ev.name rfl) ⟨Dn,rfl,Ew.callS (xs:=[.str (blankF k),.str (blankF y),.str (blankF n)]) G (m9e (x:=blankF k) (y:=blankF y) (z:=blankF n) R.lk R.li) (Ev.name rfl) (Has.mem (.tail _ (.tail _ (.head _)))) (.inl rfl) (kb rfl) (fun _ _=>trivial) (fun sv new h=>?_) (by walk_at "okA") (by k_is) (by k_is) rfl⟩) (kb rfl))))
  refine x1a2 h fun D3 za zb=>?_;clear h;refine eq2 za zb ?_;clear za zb
  rw[R.alk,R.ali]
  refine⟨D3,[a0,a1,blankF n],rfl,Has.mem (.tail _ (.head _)),Has.mem (.head _),?_⟩
  rw[if_neg (by decide)]
  refine Xs.nil ?_
  show XsC _ _ (_::(Dn,.tup ([a0,a1,blankF n].map .str))::_::_::Bl ps) (_::_) _
  refine XsC.cons (X1C.of (X1.a0 (Ew.callF G (ver_cn (x:=blankF n) (b:=b) (a0H R.ln (by decide)) (a0H R.lb (by decide)) R.zv R.iv R.rv) (.cons (Ev.a8 (xs:=[a0,a1,blankF n].map .str) (Ev.name rfl) (Has.mem (.tail _ (.head _))) Ev.a1 (by decide) rfl (by decide)) (.cons (Ev.name rfl) .nil)) ?_ (by walk_at "okA") rfl (by k_is) (by k_is) rfl)))
  rw[R.ver]
  show XsC _ _ (_::(Dn,.tup ([a0,a1,blankF n].map .str))::_::_::Bl ps) (_::_) _
  refine XsC.cons (X1C.of (X1.a1 (Tst.neS (Ev.name rfl) (Ev.to (sa:=.str pl) (Ev.b0 G (m1x (x:=blankF n) (y:=b) (a0H R.ln (by decide)) R.lb) (.cons (Ev.a8 (xs:=[a0,a1,blankF n].map .str) (Ev.name rfl) (Has.mem (.tail _ (.head _))) Ev.a1 (by decide) rfl (by decide)) (.cons (Ev.name rfl) .nil)) (fun _ _=>trivial) (by walk_at "okA") (by k_is) (by k_is) rfl) (by rw[R.nor]))) (fun q=>by simp at q) (fun _=>?_)))
  refine Xs.nil ?_
  show XsC _ _ _ (_::_) _
  refine XsC.cons (X1C.of (X1.a4 (Tw.neS (Ew.callF G (p3u (x:=pl) (a0H R.lpl (by decide)) R.zw R.iw R.rw') (.cons (Ev.name rfl) .nil) ⟨_,rfl,Ew.pure (Ev.b0 G (m1x (x:=pl) (y:=Str.ofString "") (a0H R.lpl (by decide)) (by decide+kernel)) (.cons (Ev.name rfl) (.cons Ev.a0 .nil)) (fun _ _=>trivial) (by walk_at "okA") (by k_is) (by k_is) rfl) ⟨_,rfl,?_⟩⟩ (by walk_at "okA") rfl (by k_is) (by k_is) rfl))))
  rw[R.ver1,if_neg (by simp)]
  refine Xs.nil ?_
  show XsC _ _ (_::(Dn,.tup ([a0,a1,blankF n].map .str))::_::_::Bl ps) (_::_) _
  refine XsC.weak (σ₁:=[(Str.ofString "plain",.str pl),(Str.ofString "named",SR Dn),(Str.ofString "spots",SR Dp),(Str.ofString "stacks",SR Ds)]) (ld₁:=(Dn,.tup ([a0,a1,blankF n].map .str))::Bl ps) ?_ ⟨rfl,rfl,rfl,rfl,trivial⟩ (.cons _ (.cons_cons _ (.cons _ (.cons _ (.refl _)))))
  have hrest:∀s,C.rest s↔(s.os=sh.os∧AllBare s.gens):=fun s=>Iff.rfl
  have hal:AllLen 400 [a0,a1]:=k0k R.la0 (k0k R.la1 k1b)
  refine XsC.cons (X1C.of (X1.a0 (Ew.list (EwL.cons (Ew.callP (xs:=[a0,a1]) (ps:=ps) (gl:=fun ps=>(Dn,.tup ([a0,a1,blankF n].map .str))::Bl ps) G T B hrest (m8h (.inr rfl) hal) (.cons (Ev.a8 (xs:=[a0,a1,blankF n].map .str) (Ev.name rfl) (Has.mem (.head _)) Ev.a1 (by decide) rfl (by decide)) (.cons (Ev.a8 (xs:=[a0,a1,blankF n].map .str) (Ev.name rfl) (Has.mem (.head _)) Ev.a1 (by decide) rfl (by decide)) .nil)) ht (fun ps'=>.tail (hBU _ _)) (fun ps1 ht1=>EwL.cons (Ew.callP (xs:=[pl]) (ps:=ps1) (gl:=fun ps=>(Dn,.tup ([a0,a1,blankF n].map .str))::Bl ps) G T B hrest (m8h (.inl rfl) (k0k (a0H R.lpl (by decide)) k1b)) (.cons (Ev.name rfl) .nil) ht1 (fun ps'=>.tail (hBU _ _)) (fun ps2 ht2=>EwL.nil ⟨kb rfl,fun Dm=>?_⟩) (by walk_at "okA") (by k_is) (by k_is) rfl)) (by walk_at "okA") (by k_is) (by k_is) rfl)))))
  rw[R.e0,R.e1]
  show XsC _ _ ((Dm,.list ([p0,p1].map .str))::(Dn,.tup ([a0,a1,blankF n].map .str))::Bl ps2) (_::_) _
  refine XsC.cons (X1C.of (X1.a4 (Tw.neL (Ew.pure (Ev.name rfl) ⟨Dm,[p0,p1],rfl,R.q.okn,Ew.list (EwL.cons (Ew.callW (f:=237) (n:=0) G (EwL.cons (Ew.list (EwL.pure (.cons (Ev.a8 (xs:=[a0,a1,blankF n].map .str) (Ev.name rfl) (Has.mem (.tail _ (.head _))) Ev.a1 (by decide) rfl (by decide)) (.cons (Ev.a8 (xs:=[a0,a1,blankF n].map .str) (Ev.name rfl) (Has.mem (.tail _ (.head _))) Ev.a1 (by decide) rfl (by decide)) .nil)) ⟨kb rfl,fun DA=>EwL.nil ⟨_,_,m8b (a:=DA) (xa:=[a0,a1]) (kb rfl) hal ?asc,fun s H=>(Has.mem (so:=.list ([a0,a1].map .str)) (.head _)).hasL H,fun sv nw h=>?_⟩⟩))) (by walk_at "okA") (by k_is) (by k_is) rfl))⟩) (kb rfl))))
  case asc=>intro x hx;simp at hx;rcases hx with rfl|rfl;exact R.asc0;exact R.asc1
  obtain⟨rfl,rfl⟩:=h
  rw[R.s0]
  refine EwL.cons (Ew.callW (f:=237) (n:=0) G (EwL.cons (Ew.list (EwL.pure (.cons (Ev.name rfl) .nil) ⟨kb rfl,fun DB=>EwL.nil ⟨_,_,m8b (a:=DB) (xa:=[pl]) (kb rfl) (k0k (a0H R.lpl (by decide)) k1b) (fun x hx=>by rw[a0B.mp hx];exact R.asc2),fun s H=>(Has.mem (so:=.list ([pl].map .str)) (.head _)).hasL H,fun sv nw h=>?_⟩⟩))) (by walk_at "okA") (by k_is) (by k_is) rfl)
  obtain⟨rfl,rfl⟩:=h
  rw[R.s1]
  refine EwL.nil ⟨kb rfl,fun DL=>⟨DL,[p0,p1],rfl,Has.mem (.tail _ (.tail _ (.tail _ (.head _)))),Has.mem (.head _),R.q.okn,?_⟩⟩
  rw[if_neg (by simp)]
  refine Xs.nil ?_
  show XsC _ _ _ (_::_) _
  refine XsC.weak (σ₁:=[(Str.ofString "names",SR Dm),(Str.ofString "spots",SR Dp),(Str.ofString "stacks",SR Ds)]) (ld₁:=(Dm,.list ([p0,p1].map .str))::Bl ps2) ?_ ⟨rfl,rfl,rfl,trivial⟩ (.cons _ (.cons _ (.cons _ (.cons_cons _ (.cons _ (.refl _))))))
  refine XsC.cons (X1C.of (X1.a0 (Ew.a4 (xs:=[.str (Str.ofString "b")]) (Ew.list (EwL.pure (.cons Ev.a0 .nil) ⟨kb rfl,fun DF1=>⟨DF1,rfl,Has.mem (.head _),Ew.comp (cl:=[]) (σc:=[]) (xs:=[p0,p1].map .str) (p:=neB) (f:=fun sv=>sv) (Src.list G.h (Ev.name rfl) (Has.mem (.tail _ (.head _)))) ⟨⟨rfl,(fun _ h=>nomatch h),a1U,(fun _ h=>nomatch h)⟩,fun B=>rfl,?plain3,kb rfl,?tests3,(fun a _ _ B s=>Ev.name rfl)⟩ fun DF2=>⟨DF2,rfl,Has.mem (.tail _ (.head _)),_,Has.mem (.head _),?len3,fun DF=>?_⟩⟩⟩)))))
  case plain3=>intro a ha;refine x1a2 (a0K.mp ha) fun x _ za=>?_;obtain rfl:=za;rfl
  case tests3=>intro a ha B s;refine x1a2 (a0K.mp ha) fun x _ za=>?_;obtain rfl:=za;exact .one (Tst.neS (Ev.name rfl) Ev.a0)
  case len3=>
   have:=a4N neB ([p0,p1].map SV.str)
   simp at this⊢;exact om445 this
  rw[p5j]
  show XsC _ _ _ (_::_) _
  have hN:([p0,p1].map SV.str)[(1:Int).toNat]?=some (.str p1):=rfl
  refine an3 (p2f p0 p1) fun fl4 fl3 fl1=>?_
  have fal:=m9l R.q.l0 R.q.l1
  refine XsC.cut 1 (fun σ ld=>∃De,σ=[(Str.ofString "ending",SR De),(Str.ofString "full",SR DF),(Str.ofString "names",SR Dm),(Str.ofString "spots",SR Dp),(Str.ofString "stacks",SR Ds)]∧ld=(De,.list ((k1y p1).map .str))::(DF,.list ((k2f p0 p1).map .str))::(Dm,.list ([p0,p1].map .str))::Bl ps2) ?_ ?_
  ·refine XsC.of (Xs.cons (X1.a0 (Ew.a0 (Tst.eqS (Ev.a7 (xs:=[p0,p1].map .str) (Ev.name rfl) (Has.mem (.tail _ (.tail _ (.tail _ (.head _))))) Ev.a1 (by decide) hN (by decide)) Ev.a0) (fun q=>Ew.list (EwL.pure (.cons Ev.a0 .nil) ⟨kb rfl,fun De=>?_⟩)) (fun q=>Ew.list (EwL.pure .nil ⟨a0R _,fun De=>?_⟩)))))
   ·refine Xs.nil ?_
    refine⟨_,_,⟨De,rfl,rfl⟩,⟨rfl,rfl,rfl,rfl,rfl,trivial⟩,?_⟩
    rw[show k1y p1=[Str.ofString ""]from if_pos (a1T.mp q)]
    exact .cons_cons _ (.cons_cons _ (.cons _ (.cons _ (.refl _))))
   ·refine Xs.nil ?_
    refine⟨_,_,⟨De,rfl,rfl⟩,⟨rfl,rfl,rfl,rfl,rfl,trivial⟩,?_⟩
    rw[show k1y p1=[]from if_neg (a2Q.mp q)]
    exact .cons_cons _ (.cons_cons _ (.cons _ (.cons _ (.refl _))))
  rintro σ ld zu;refine x1a2 zu fun De za zb=>?_;clear zu;refine eq2 za zb ?_;clear za zb
  show XsC _ _ _ (_::_) _
  refine XsC.cons (X1C.of (X1.a0 (Ew.callV G (m9g (x:=Str.ofString "/b") (ys:=[p0,p1]) (.inr rfl) (by decide+kernel) (k0k (a0H R.q.l0 (by decide)) (k0k (a0H R.q.l1 (by decide)) k1b))) (.cons Ev.a0 (EvL.star (xs:=[p0,p1].map .str) (so:=.list ([p0,p1].map .str)) (Ev.name rfl) (Has.mem (.tail _ (.tail _ (.head _)))) (.inl rfl) (kb rfl) .nil)) (fun _ _=>trivial) (fun sv nw h=>?_) (by walk_at "okA") (by k_is) (by k_is) rfl)))
  obtain⟨rfl,rfl⟩:=h
  show XsC _ ((_,.str (laidF p0 p1))::_) (_::(DF,.list ((k2f p0 p1).map .str))::_) (_::_) _
  have hJ:(Txt.join (Str.ofString "/") (k2f p0 p1++k1y p1)).length<=2000000:=k4x (k0f fal (by decide)) (om215 fl4) (by decide+kernel)
  have hs1:(Str.ofString "/").length=1:=by decide+kernel
  refine XsC.cons (X1C.of (X1.a4 (Tw.neS (Ew.pure (Ev.name rfl) ⟨_,rfl,Ew.binS Ev.a0 (Ew.a6 Ev.a0 (Ew.a4 (xs:=(k2f p0 p1).map .str) (Ew.pure (Ev.name rfl) ⟨DF,rfl,Has.mem (.tail _ (.head _)),Ew.pure (Ev.name rfl) ⟨De,rfl,Has.mem (.tail _ (.head _)),_,Has.mem (.head _),by simp;exact om115 fl1 fl3,fun DJ=>⟨DJ,k2f p0 p1++k1y p1,rfl,by rw[a0U];exact Has.mem (.head _),k0f fal (by decide),by exact om215 fl4,_,rfl,by exact om28 hs1 hJ,_,rfl,?_⟩⟩⟩)) (by decide+kernel))⟩))))
  rw[if_neg (by rw[show Str.ofString "/"++Txt.join (Str.ofString "/") (k2f p0 p1++k1y p1)=laidF p0 p1 from R.q.laid.symm];simp)]
  refine Xs.nil ?_
  show XsC _ _ (_::(De,.list ((k1y p1).map .str))::(DF,.list ((k2f p0 p1).map .str))::_) (_::_) _
  refine XsC.cons (X1C.of (X1.a4 (Tw.neL (Ew.a1 G (p2p (x:=laidF p0 p1) (a0H R.q.llen (by decide))) (EwL.pure (.cons (Ev.name rfl) .nil) ⟨rfl,fun _ _=>trivial,fun sv nw h=>?_⟩) (by walk_at "okA") (by k_is) (by k_is) rfl) (kb rfl))))
  refine x1a2 h fun DC za zb=>?_;clear h;refine eq2 za zb ?_;clear za zb
  rw[R.q.climb]
  refine⟨DC,k2f p0 p1++k1y p1,rfl,R.q.okc,Ew.a4 (xs:=(k2f p0 p1).map .str) (Ew.pure (Ev.name rfl) ⟨DF,rfl,Has.mem (.tail _ (.tail _ (.tail _ (.head _)))),Ew.pure (Ev.name rfl) ⟨De,rfl,Has.mem (.tail _ (.tail _ (.tail _ (.head _)))),(k1y p1).map .str,Has.mem (.tail _ (.tail _ (.head _))),by simp;exact om115 fl1 fl3,fun DJ2=>⟨DJ2,k2f p0 p1++k1y p1,rfl,Has.mem (.tail _ (.head _)),by rw[a0U];exact Has.mem (.head _),R.q.okc,?_⟩⟩⟩)⟩
  rw[if_neg (by simp)]
  refine Xs.nil ?_
  show XsC _ _ _ (_::_) _
  refine XsC.weak (σ₁:=[(Str.ofString "laid",.str (laidF p0 p1)),(Str.ofString "names",SR Dm),(Str.ofString "spots",SR Dp),(Str.ofString "stacks",SR Ds)]) (ld₁:=(Dm,.list ([p0,p1].map .str))::Bl ps2) ?_ ⟨rfl,rfl,rfl,rfl,trivial⟩ (.cons _ (.cons _ (.cons _ (.cons _ (.cons _ (.refl _))))))
  refine XsC.cons (X1C.of (X1.a4 (Tw.neL (Ew.a1 G (m8k (x:=laidF p0 p1) (a0H R.q.llen (by decide))) (EwL.pure (.cons (Ev.name rfl) .nil) ⟨rfl,fun _ _=>trivial,fun sv nw h=>?_⟩) (by walk_at "okA") (by k_is) (by k_is) rfl) (kb rfl))))
  refine x1a2 h fun DQ za zb=>?_;clear h;refine eq2 za zb ?_;clear za zb
  rw[R.q.peel]
  refine⟨DQ,k3h (laidF p0 p1).cps.toList p1.cps.toList,rfl,R.q.oke,Ew.a1 G (p5p (x:=laidF p0 p1) (y:=p1) (a0H R.q.llen (by decide)) R.q.lle) (EwL.pure (.cons (Ev.name rfl) (.cons (Ev.a7 (xs:=[p0,p1].map .str) (Ev.name rfl) (Has.mem (.tail _ (.head _))) Ev.a1 (by decide) hN (by decide)) .nil)) ⟨rfl,fun _ _=>trivial,fun sv nw h=>?_⟩) (by walk_at "okA") (by k_is) (by k_is) rfl⟩
  refine x1a2 h fun DR za zb=>?_;clear h;refine eq2 za zb ?_;clear za zb
  refine⟨DR,k3h (laidF p0 p1).cps.toList p1.cps.toList,rfl,Has.mem (.tail _ (.head _)),Has.mem (.head _),R.q.oke,?_⟩
  rw[if_neg (by simp)]
  refine Xs.nil ?_
  show XsC _ _ _ (_::_) _
  refine XsC.cons (X1C.of (X1.a0 (Ew.a1 G (p1c (a:=Dm) (xs:=[p0,p1]) (kb rfl)) (EwL.pure (.cons (Ev.name rfl) .nil) ⟨rfl,fun s H=>(Has.mem (so:=.list ([p0,p1].map .str)) (.tail _ (.tail _ (.head _)))).hasL H,fun sv nw h=>?_⟩) (by walk_at "okA") (by k_is) (by k_is) rfl)))
  refine x1a2 h fun DS za zb=>?_;clear h;refine eq2 za zb ?_;clear za zb
  show XsC _ _ _ (_::_) _
  refine XsC.cons (X1C.of (X1.a0 (Ew.pure (Ev.b0 G (m3k (x:=laidF p0 p1) R.q.llen R.q.root) (.cons (Ev.name rfl) .nil) (fun _ _=>trivial) (by walk_at "okA") (by k_is) (by k_is) rfl) ?_)))
  show XsC _ _ ((DS,.list ((stackF [p0,p1]).map .str))::_) (_::_) _
  have hgpi:=R.q.gp
  generalize stackF [p0,p1]=stk at*
  generalize normF (laidF p0 p1)=sp at*;revert stk sp;refine id ?_;intros
  have hJ2:(Txt.join (Str.ofString "/") stk).length<=2000000:=k4x (k0f hgpi.alen (by decide)) (by have:=hgpi.len;exact om26 this) (by decide+kernel)
  refine XsC.cons (X1C.of (X1.a4 (Tw.neS (Ew.pure (Ev.name rfl) ⟨_,rfl,Ew.binS Ev.a0 (Ew.pure (Ev.a9 (ts:=stk) Ev.a0 (Ev.name rfl) (Has.mem (.head _)) (k0f hgpi.alen (by decide)) (by have:=hgpi.len;exact om26 this) (by decide+kernel)) ⟨_,rfl,by exact om28 hs1 hJ2,_,rfl,?_⟩)⟩))))
  rw[if_neg (by rw[show Str.ofString "/"++Txt.join (Str.ofString "/") stk=sp from hgpi.eq.symm];simp)]
  refine Xs.nil ?_
  show XsC _ _ _ (_::_) _
  refine XsC.weak (σ₁:=[(Str.ofString "spot",.str sp),(Str.ofString "stack",SR DS),(Str.ofString "spots",SR Dp),(Str.ofString "stacks",SR Ds)]) (ld₁:=(DS,.list (stk.map .str))::Bl ps2) ?_ ⟨rfl,rfl,rfl,rfl,trivial⟩ (.cons_cons _ (.cons _ (.cons _ (.cons _ (.refl _)))))
  rw[hB]
  have hsl:(sl.map SR).length<=10000:=by simp;exact om31 hi e1 h5
  have hsp:(sps.map SV.str).length<=10000:=by simp;exact om31 hi e3 h5
  refine XsC.cons (X1C.of (X1.append (xs:=sl.map SR) (Ev.name rfl) (Ev.name rfl) (.tail ((LUpd.pre (LUpd.pre (.tail .head) _) tl).suf it)) hsl ?_))
  show XsC _ _ _ [_] _
  refine XsC.cons (X1C.of (X1.append (xs:=sps.map .str) (Ev.name rfl) (Ev.name rfl) (.tail ((LUpd.pre (LUpd.pre .head _) tl).suf it)) hsp ?_))
  refine XsC.of (Xs.nil ?_)
  refine hP' _ _ _ ⟨_,_,⟨sl++[DS],stks++[stk],sps++[sp],(DS,.list (stk.map .str))::tl,ps2,by simp[e1],by simp[e2],by simp[e3],fun j a ej=>?_,fun j hj=>?_,ht2,rfl,rfl⟩,⟨rfl,rfl,trivial⟩,?_⟩
  ·rcases Nat.lt_or_ge j sl.length with hj|hj
   ·rw[a4A hj]at ej
    rw[k3f (om254 hj e1 e2)]
    exact .tail _ (hst j a ej)
   ·have hjl:=(a1A.mp ej).1
    simp only[a0Y,a0Q,a3F]at hjl
    rw[a2C hj,show j-sl.length=0 by exact om110 hjl]at ej
    obtain rfl:DS=a:=by simpa using ej
    rw[k7y (om161 hjl e1 e2 hj)]
    exact .head _
  ·rcases Nat.lt_succ_iff_lt_or_eq.mp hj with hj|rfl
   ·rw[k3f (om0 hj e2),k3f (om0 hj e3)]
    exact hgp j hj
   ·rw[k7y e2.symm,k7y e3.symm]
    exact hgpi
  ·rw[a0U,a0U]
   exact .refl _
 case done=>
  rintro σ ld zu;refine x5a8 zu fun sl stks sps tl ps e1 e2 e3 hst hgp ht za zb=>?_;clear zu;refine eq2 za zb ?_;clear za zb
  have hlen:∀j,(stks.getD j []).length<=3:=fun j=>by
   by_cases h:j<ls.length
   ·exact(hgp j h).len
   ·rw[a0E,a4O (om62 e2 h)];exact a0R _
  have hgq:∀x∈sps,GQ x:=fun x hx=>by
   obtain⟨j,hj⟩:=a4U hx
   have hjl:=(a1A.mp hj).1
   have:=PL.gq _ _ (hgp j (om15 hjl e3))
   rw[a0E (l:=sps),hj]at this
   exact this
  have hcm:k0y stks<+:stks.getD 0 []:=(k3j stks _).1
  have hcl:(k0y stks).length<=3:=a0H hcm.length_le (hlen 0)
  have hca:AllLen 1000 (k0y stks):=fun c hc=>a0H ((hgp 0 (Nat.zero_lt_of_lt h1)).alen c (hcm.subset hc)) (by decide)
  have hJ:(Txt.join (Str.ofString "/") (k0y stks)).length<=2000000:=k4x hca (om26 hcl) (by decide+kernel)
  have hs1:(Str.ofString "/").length=1:=by decide+kernel
  have mS:∀ {so},(Ds,so)∈frz f new++[(Dp,.list (sps.map .str)),(Ds,so),(platP,.obj (tabObj ps))]:=a0L _ (.tail _ (.head _))
  have mP:∀ {so},(Dp,so)∈frz f new++[(Dp,so),(Ds,.list (sl.map SR)),(platP,.obj (tabObj ps))]:=a0L _ (.head _)
  show XsC _ _ _ (_::_) _
  refine XsC.cons (X1C.of (X1.a4 (Tw.neS (Ew.a1 G (p2m (a:=Dp) (xs:=sps) (om44 h1 e3) (om317 e3 h5) (fun x hx=>(hgq x hx).starts) (fun x hx=>(hgq x hx).len)) (EwL.pure (.cons (Ev.name rfl) .nil) ⟨rfl,fun s H=>(Has.mem (a0L _ mP)).hasL H,fun sv nw h=>?_⟩) (by walk_at "okA") (by k_is) (by k_is) rfl))))
  obtain⟨rfl,rfl⟩:=h
  refine⟨_,rfl,Ew.binS Ev.a0 (Ew.a6 Ev.a0 (Ew.a1 G (m9z (a:=Ds) (ls:=sl) (xss:=stks) (om373 e1 e2) (om44 h1 e1) (om306 e1 h5) (fun j=>a0H (hlen j) (by decide))) (EwL.pure (.cons (Ev.name rfl) .nil) ⟨rfl,fun s H=>⟨(Has.mem (a0L _ mS)).hasL H,fun j l e=>(Has.mem (a0N _ (hst j l e))).hasL H⟩,fun sv nw h=>?_⟩) (by walk_at "okA") (by k_is) (by k_is) rfl) (by decide+kernel))⟩
  refine x1a2 h fun DX za zb=>?_;clear h;refine eq2 za zb ?_;clear za zb
  refine⟨DX,k0y stks,rfl,Has.mem (.head _),hca,by exact om26 hcl,_,rfl,by exact om28 hs1 hJ,_,rfl,?_⟩
  rw[PL.common stks sps (om46 e2 e3) (om44 h1 e3) (fun j hj=>hgp j (om15 hj e3)),if_neg (by rw[show Str.ofString "/"++Txt.join (Str.ofString "/") (k0y stks)=k4n (k0y stks)from rfl];simp)]
  refine Xs.nil ?_
  refine XsC.weak (σ₁:=[(Str.ofString "spots",SR Dp),(Str.ofString "stacks",SR Ds)]) (ld₁:=tl++(frz f new++[(Dp,.list (sps.map .str)),(Ds,.list (sl.map SR)),(platP,.obj (tabObj ps))])) ?_ ⟨rfl,rfl,trivial⟩ (.cons _ (.refl _))
  have nS:=a0L tl (mS (so:=.list (sl.map SR)))
  have nP:=a0L tl (mP (so:=.list (sps.map .str)))
  have nT:(platP,SO.obj (tabObj ps))∈tl++(frz f new++[(Dp,.list (sps.map .str)),(Ds,.list (sl.map SR)),(platP,.obj (tabObj ps))]):=a0L _ (a0L _ (.tail _ (.tail _ (.head _))))
  have nL:∀(j:Nat) (a:Addr),sl[j]?=some a ->(a,SO.list ((stks.getD j []).map .str))∈tl++(frz f new++[(Dp,.list (sps.map .str)),(Ds,.list (sl.map SR)),(platP,.obj (tabObj ps))]):=fun j a e=>a0N _ (hst j a e)
  clear hst mS mP
  generalize tl++(frz f new++[(Dp,SO.list (sps.map .str)),(Ds,.list (sl.map SR)),(platP,.obj (tabObj ps))])=LD at*;revert LD;refine id ?_;intros
  show XsC _ _ _ (_::_) _
  refine XsC.cons (X1C.forW (FsW.zip4 (ns:=[(Str.ofString "here",_),(Str.ofString "low",_),(Str.ofString "there",_),(Str.ofString "high",_)]) (W:=fun ld' l1 l2 l3 l4 as bs cs ds=>as=sps.map .str∧bs=sl.map SR∧cs=(sps.map SV.str).drop 1++(sps.map SV.str).take 1∧ds=(sl.map SR).drop 1++(sl.map SR).take 1∧(∀p∈LD,p∈ld')) G rfl
   (EwL.cons (Ew.pure (Ev.name rfl) (EwL.cons (Ew.pure (Ev.name rfl) (EwL.cons (Ew.a4 (xs:=(sps.map SV.str).drop 1) (Ew.a2 (xs:=sps.map .str) (Ev.name rfl) (Has.mem nP) Ev.a1 (by decide) (by simp;exact om24 e3 h5) fun D1=>⟨D1,rfl,Has.mem (.head _),Ew.a3 (xs:=sps.map .str) (Ev.name rfl) (Has.mem (.tail _ nP)) Ev.a1 (by decide) (by simp;exact om24 e3 h5) fun D2=>⟨D2,rfl,Has.mem (.tail _ (.head _)),(sps.map SV.str).take 1,Has.mem (.head _),by simp;exact om32 e3 h5,fun D3=>?_⟩⟩)))))))) ?_)
  ·refine EwL.cons (Ew.a4 (xs:=(sl.map SR).drop 1) (Ew.a2 (xs:=sl.map SR) (Ev.name rfl) (Has.mem (.tail _ (.tail _ (.tail _ nS)))) Ev.a1 (by decide) (by simp;exact om24 e1 h5) fun D4=>⟨D4,rfl,Has.mem (.head _),Ew.a3 (xs:=sl.map SR) (Ev.name rfl) (Has.mem (.tail _ (.tail _ (.tail _ (.tail _ nS))))) Ev.a1 (by decide) (by simp;exact om24 e1 h5) fun D5=>⟨D5,rfl,Has.mem (.tail _ (.head _)),(sl.map SR).take 1,Has.mem (.head _),by simp;exact om32 e1 h5,fun D6=>?_⟩⟩))
   refine EwL.nil ⟨Dp,Ds,D3,D6,sps.map .str,sl.map SR,_,_,rfl,.tail _ (.tail _ (.tail _ (.tail _ (.tail _ (.tail _ nP))))),.tail _ (.tail _ (.tail _ (.tail _ (.tail _ (.tail _ nS))))),.tail _ (.tail _ (.tail _ (.head _))),.head _,by simp;exact om46 e1 e3,by simp;exact om108,by simp;exact om104 e1 e3,rfl,rfl,rfl,rfl,fun p hp=>.tail _ (.tail _ (.tail _ (.tail _ (.tail _ (.tail _ hp)))))⟩
  rintro B9 fz m bind zu;refine x10a6 zu fun ld' f2 l1 l2 l3 l4 as bs cs ds za hf2 zb zc hfz2 zd=>?_;clear zu;obtain⟨rfl,rfl,rfl,rfl,hsub⟩:=za;refine eq2 zb zc ?_;clear zb zc;obtain rfl:=zd
  refine⟨fun i σ ld=>σ=[]∧ld=frz f2 ld',fun _ _=>False,⟨_,_,⟨rfl,rfl⟩,trivial,.refl _⟩,fun b hb=>?_,?turn2,?done2,fun _ _ h=>h.elim⟩
  ·obtain⟨o,ho⟩:=hfz2 b hb
   exact .inr ⟨o,fun i σ ld ⟨_,e⟩=>e▸ho⟩
  case done2=>
   rintro σ ld ⟨rfl,rfl⟩
   refine XsC.of (Xs.cons (X1.ret (Ew.pure Ev.cbool ?_)))
   refine⟨rfl,ps,?_⟩
   have:=k1u (f:=f2) (hsub _ nT)
   rwa[show f2 platP=tabObj ps from hf2 _ (hsub _ nT)]at this
  case turn2=>
   rintro i σ ld it hi ⟨rfl,rfl⟩ hit
   refine XsC.gen fun P' hP'=>?_
   rw[a0J]at hi
   have hls:sl.length=sps.length:=om46 e1 e3
   have hj:(if i+1<sps.length then i+1 else 0)<sps.length:=by split<;>(first|exact om193 (by assumption)|exact om11 hi)
   dsimp only
   rw[k7r (d:=Str.empty) hi,k7r (l:=sl) (g:=SR) (d:=0) (om0 hi hls),p3e (d:=Str.empty) hi,p3e (l:=sl) (g:=SR) (d:=0) (om0 hi hls),hls]
   generalize(if i+1<sps.length then i+1 else 0)=j at*;revert j;refine id ?_;intros
   have g1:=hgp i (om15 hi e3)
   have g2:=hgp j (om15 hj e3)
   have m1:=hsub _ (nL i (sl.getD i 0) (by rw[a0E,a0D (om0 hi hls)];rfl))
   have m2:=hsub _ (nL j (sl.getD j 0) (by rw[a0E,a0D (om0 hj hls)];rfl))
   have q1:=PL.gq _ _ g1
   have q2:=PL.gq _ _ g2
   have rel:=PL.rel _ _ _ _ g1 g2
   refine an4 (PL.back _ _ _ _ g1 g2) fun bk bkr bkl bkw=>?_
   generalize sps.getD i Str.empty=here at*
   generalize sps.getD j Str.empty=there at*
   generalize sl.getD i 0=la at*
   generalize sl.getD j 0=lb at*
   generalize stks.getD i []=lo at*
   generalize stks.getD j []=hh at*;revert here there la lb lo hh;refine id ?_;intros
   have hLo:∀ {σ pre},Has C σ (pre++(frz f2 ld'++it)) la (.list (lo.map .str)):=Has.frz (a0L _ (a0N _ (k1u m1))) (hf2 _ m1)
   have hHi:∀ {σ pre},Has C σ (pre++(frz f2 ld'++it)) lb (.list (hh.map .str)):=Has.frz (a0L _ (a0N _ (k1u m2))) (hf2 _ m2)
   have b1:=g1.len
   have b2:=g2.len
   obtain⟨lc1,lc2⟩:=k3x lo hh
   show XsC C [(_,SR lb),(_,.str there),(_,SR la),(_,.str here)] _ (_::_) _
   refine XsC.cons (X1C.of (X1.a0 (Ew.pure (Ev.b0 (pre:=fun h=>HasL h la (lo.map .str)∧HasL h lb (hh.map .str)) G (m1o (a:=la) (b:=lb) (xa:=lo) (xb:=hh) (om26 b1) (om26 b2)) (.cons (Ev.name rfl) (.cons (Ev.name rfl) .nil)) (fun s H=>⟨(hLo (pre:=[])).hasL H,(hHi (pre:=[])).hasL H⟩) (by walk_at "okA") (by k_is) (by k_is) rfl) ?_)))
   show XsC _ _ _ (_::_) _
   have es:((lo.length:Int)-((lcp lo hh:Nat):Int)).toNat=lo.length-lcp lo hh:=om10
   refine XsC.cons (X1C.of (X1.a0 (Ew.a4 (xs:=List.replicate (lo.length-lcp lo hh) (.str (Str.ofString ".."))) (Ew.mulL (sv:=.str (Str.ofString "..")) (i:=(lo.length:Int)-((lcp lo hh:Nat):Int)) (Ew.list (EwL.pure (.cons Ev.a0 .nil) ⟨kb rfl,fun D4=>⟨D4,rfl,Has.mem (.head _),Ev.a6 (Ev.to (sa:=.int (lo.length:Int)) (Ev.lenL (xs:=lo.map .str) G (Ev.name rfl) (hLo (pre:=[_])) (by simp;exact om442 b1)) (by rw[a0J])) (Ev.name rfl) Opr.subI,by exact om175 lc1,by exact om362 b1,fun D5=>⟨D5,rfl,?_,?_⟩⟩⟩))))))
   ·rw[es];exact Has.mem (.head _)
   refine Ew.a2 (xs:=hh.map .str) (Ev.name rfl) (hHi (pre:=[_,_])) (Ev.name rfl) om7 (by simp;exact om438 b2) fun D6=>⟨D6,rfl,?_,_,Has.mem (.head _),?_,fun D7=>?_⟩
   ·rw[es];exact Has.mem (.tail _ (.head _))
   ·simp;exact om78 b1 b2
   rw[a1W,<-a6D,show List.replicate (lo.length-lcp lo hh) (SV.str (Str.ofString ".."))++(hh.drop (lcp lo hh)).map .str=(k0u lo hh).map .str from by unfold k0u;rw[a0U,List.map_replicate]]
   show XsC _ _ _ (_::_) _
   refine XsC.cons (X1C.of (X1.a0 (Ew.pure (Ev.to (sa:=.str (wayF lo hh)) (Ev.b0 G (rel_cn (x:=there) (y:=here) q2.len q1.len q2.root q2.starts q1.root q1.starts q2.nlen q1.nlen) (.cons (Ev.name rfl) (.cons (Ev.name rfl) .nil)) (fun _ _=>trivial) (by walk_at "okA") (by k_is) (by k_is) rfl) (by rw[rel])) ?_)))
   show XsC _ _ _ (_::_) _
   have sl6:=m7p b1 b2
   refine XsC.cons (X1C.of (X1.a1 (Tst.neS (Ev.name rfl) (Ev.ifExp (sv:=.str (wayF lo hh)) (Tst.ofL (xs:=(k0u lo hh).map .str) (Ev.name rfl) (Has.mem (.head _)) (by simp;exact om428 sl6)) (fun q=>Ev.to (Ev.a9 (ts:=k0u lo hh) Ev.a0 (Ev.name rfl) (Has.mem (.head _)) (k0f (m5x g2.alen) (by decide)) (om429 sl6) (by decide+kernel)) (by unfold wayF;rw[if_neg (by simpa using q)])) (fun q=>Ev.to Ev.a0 (by unfold wayF;rw[if_pos (by simpa using q)])))) (fun q=>by simp at q) (fun _=>?_)))
   refine Xs.nil ?_
   show XsC _ _ _ [_] _
   refine XsC.cons (X1C.of (X1.a1 (Tst.neS (Ev.to (sa:=.str there) (Ev.b0 G (m3k (x:=joinStep here (wayF lo hh)) bkl bkr) (.cons (Ev.b0 G (m9g (x:=here) (ys:=[wayF lo hh]) (.inl rfl) (a0H q1.len (by decide)) (k0k bkw k1b)) (.cons (Ev.name rfl) (.cons (Ev.name rfl) .nil)) (fun _ _=>trivial) (by walk_at "okA") (by k_is) (by k_is) rfl) .nil) (fun _ _=>trivial) (by walk_at "okA") (by k_is) (by k_is) rfl) (by rw[bk])) (Ev.name rfl)) (fun q=>by simp at q) (fun _=>?_)))
   refine Xs.nil ?_
   refine XsC.of (Xs.nil ?_)
   exact hP' _ _ _ ⟨[],_,⟨rfl,rfl⟩,trivial,.cons _ (.cons _ (.cons _ (.cons _ (.refl _))))⟩
theorem Are.ofInts:∀ {xs:List Int} {vs:List Value},IntsAre vs xs ->Are (xs.map .int) vs
 |_,_,.nil=>.nil
 |_,_,.cons x t r=>.cons ⟨t,rfl⟩ (Are.ofInts r)
theorem p1n {w:World}{h:Heap}{mg:Str ->Option Value}{mean:ExcName ->Option Value}{mb:Str ->Option Value}{lo:List Str}(X:(hd.heap_1 w.params).In h)(T:Top vw lo mean mg mb h):h.get? platP=some (tabObj #[]):=by
 have hr:(recsOf vw).any (fun d=>d.name==Str.ofString "_platform")=true:=by kernel_rfl
 refine x1a2 (a6P.mp hr) fun d hd1 hd2=>?_
 refine x5a6 (T.tab d hd1) fun a o fd c P h1 h2 h3 h4 _ za=>?_;obtain⟨⟨oc,vs,t1,_,t3,t4⟩,t5⟩:=za
 rw[a1T.mp hd2,mg_of X T.g (show nsIn (hd.heap_1 w.params) mainGlobals (Str.ofString "_platform")=some (some (.ref 43))from by k_is)]at h1
 cases h1
 obtain⟨oc',od,fd',osl,q1,q2⟩:∃oc od fd osl,(hd.heap_1 w.params).lookup 43=some ⟨oc,od,.func fd,osl⟩∧fd.code=.ref 42:=⟨_,_,_,_,by k_is,rfl⟩
 have q3:=X _ _ q1
 rw[h2]at q3
 cases q3
 cases h3
 rw[q2]at h4
 cases h4
 refine x9a5 (k7i X) fun o2 vs2 _ _ _ _ _ _ _ r1 _ r2 r3 _=>?_
 rw[t1]at r1
 cases r1
 rw[t3]at r2
 cases r2
 rw[t4]at r3
 cases r3
 exact t5
set_option tactic.hygienic true in
theorem m9a (PL:m1c):PySem.Challenge.rw_in0310_01.Holds:=by
 refine hd ?_
 intro w B6 B1 mg mb Gr hY a o pm cd doc dV kV ho hdat hcode hdf hmg hgens args vals as hpre hlay hreads hwell hsys
 clear hdat hcode hdf ho
 have X:(hd.heap_1 w.params).In B1.heap:=kIn_of hY
 have T0:=topRead_of Gr.T
 have hloose:∀x∈looseW vw loose,x∈loose:=by decide+kernel
 have T:TopRead vw loose mg mb B1.heap:=⟨T0.g,T0.b,T0.nolimit,T0.builtins,fun x h1 h2 h3 h4 h5=>T0.free x h1 (fun q=>h2 (hloose x q)) h3 h4 (by rw[show(clssOf vw (looseW vw loose)).map (·.name)=[]from by kernel_rfl];exact a0Z)⟩
 refine ex2 (bmod_of_top Gr.T) fun bm ob B=>?_
 have hP:=p1n X Gr.T
 rw[show mg _=_ from mg_of X T.g (show nsIn (hd.heap_1 w.params) mainGlobals (Str.ofString "law")=some (some (.ref 282))from by k_is)]at hmg
 cases hmg
 wrow_args hpre hlay hreads hwell hsys
 rename_i ns hs hlay0 hL1 hr1 hl2 as4 as3 l vs as0 hL ra w1 r0 hI hr hc1 hc2
 have hn:ns.length<=63:=om574 hc1
 clear hs hlay0 hL1 hr1 hl2 ra r0 hr hc1 hc2 hY Gr
 have hlP:l≠platP:=fun q=>by
  refine x1a3 hL fun o e hc _=>?_
  rw[q,hP]at e
  cases e
  cases hc
 have w2:Well w.params B1.heap (.ref l) (.list (ofPys (ns.map PyData.int))):=w1
 have hl:HasL (noTab B1.heap) l (ns.map .int):=by
  cases w2 with
  | @list _ vs2 _ e _=>
   refine x1a3 hL fun o e2 hc zx=>ex1 zx fun n hd'=>?_
   rw[e]at e2
   cases e2
   injection hd' with hd1 hd2
   obtain rfl:vs2=vs:=by simpa using hd1
   refine⟨_,a4R _ e fun q=>hlP (a0B.mp q),vs2,_,rfl,Are.ofInts hI⟩
 refine p5e PL hn X T B hP (by rw[hgens];intro i x;simp at x) hl fun s' k1 k2 k3 k4=>?_
 obtain⟨ps,k2⟩:=k2
 refine⟨.inl ⟨.bool true,.bool true,[],rfl,fun _=>rfl,.bool _,?_,fun _=>⟨a1U,fun _ h=>nomatch h⟩⟩,?_,k3,k4⟩
 ·wrow_post
 ·refine⟨fun b o e=>?_,fun b o e=>?_⟩
  ·by_cases hb:b=platP
   ·subst hb
    rw[hP]at e
    cases e
    refine .inr (.inl ⟨⟨p4i,?_⟩,rfl,#[],ps,rfl,?_⟩)
    ·refine x9a5 (k7i X) fun o2 vs2 _ _ _ _ _ _ _ r1 rc r2 r3 _=>?_
     exact⟨o2,vs2,r1,rc,r2,r3⟩
    ·rw[k2];simp
   ·exact .inl (k1 b o hb e)
  ·by_cases hb:b=platP
   ·exact⟨_,hb▸k2⟩
   ·exact⟨o,k1 b o hb e⟩
noncomputable def splitL (c:Nat):List Nat ->List (List Nat)
 | []=>[[]]
 |a::r=>if a=c then []::splitL c r else match splitL c r with
  |p::ps=>(a::p)::ps
  | []=>[[a]]
theorem k7d (c:Nat):∀l,splitL c l≠[]
 | []=>by simp[splitL]
 |a::r=>by
  unfold splitL
  split
  ·simp
  ·split<;>simp
theorem k4b {c a:Nat}(h:a≠c)(r:List Nat):∃p ps,splitL c r=p::ps∧splitL c (a::r)=(a::p)::ps:=by
 cases q:splitL c r with
 |nil=>exact absurd q (k7d c r)
 |cons p ps=>exact⟨p,ps,rfl,by rw[splitL,if_neg h,q]⟩
theorem k4d (c:Nat)(x:List Nat):∀(l:List Nat) (i s:Nat),x.drop i=l ->i+l.length=x.length ->s<=i ->
  ∃p ps,splitL c l=p::ps∧partsF x 1 s (k0r [c] i 0 l)=((x.drop s).take (i-s)++p)::ps
 | [],i,s,hd,hl,hs=>by
  refine⟨[],[],rfl,?_⟩
  simp only[k0r,partsF,a2O,a3F,Nat.add_zero]at hl⊢
  rw[hl]
 |a::r,i,s,hd,hl,hs=>by
  have hd':x.drop (i+1)=r:=by rw[<-List.drop_drop,hd];rfl
  simp only[a0Q]at hl
  by_cases h:a=c
  ·subst h
   refine x2a2 (k4d a x r (i+1) (i+1) hd' (om5 hl) (a0W _)) fun p ps h1 h2=>?_
   refine⟨[],splitL a r,by rw[splitL,if_pos rfl],?_⟩
   have e:k0r [a] i 0 (a::r)=i::k0r [a] (i+1) 0 r:=by simp[k0r]
   rw[e,partsF,h2,h1,Nat.sub_self,List.take_zero,a2V,a2O]
  ·refine x2a2 (k4d c x r (i+1) s hd' (om5 hl) (om97 hs)) fun p ps h1 h2=>?_
   refine⟨a::p,ps,by rw[splitL,if_neg h,h1],?_⟩
   have e:k0r [c] i 0 (a::r)=k0r [c] (i+1) 0 r:=by simp[k0r,h]
   have hxi:x[i]?=some a:=by
    have:=a3C (fun l=>l[0]?) hd
    simpa using this
   rw[e,h2]
   have:(x.drop s).take (i+1-s)=(x.drop s).take (i-s)++[a]:=by
    rw[show i+1-s=(i-s)+1 from om16 hs,a2A]
    congr 1
    rw[List.getElem?_drop,show s+(i-s)=i from om55 hs,hxi];rfl
   rw[this];simp
theorem k4j {c:Nat}:∀(l:List Nat) (i:Nat),k0r [c] i 0 l=[] ->splitL c l=[l]
 | [],_,_=>rfl
 |a::r,i,h=>by
  by_cases q:a=c
  ·subst q;simp[k0r]at h
  ·have e:k0r [c] i 0 (a::r)=k0r [c] (i+1) 0 r:=by simp[k0r,q]
   rw[e]at h
   rw[splitL,if_neg q,k4j r (i+1) h]
set_option tactic.hygienic true in
theorem m7r {c:Nat}(hc:c<256)(l:List Nat):Txt.split (S l) ⟨#[c]⟩=(splitL c l).map S:=by
 have hk:(Builtin.Str.strKind (S l)<Builtin.Str.strKind ⟨#[c]⟩)=False:=by
  have:Builtin.Str.strKind ⟨#[c]⟩=1:=by simp[Builtin.Str.strKind,hc]
  rw[this]
  have:1<=Builtin.Str.strKind (S l):=by unfold Builtin.Str.strKind;split;exact a0W _;split<;>decide
  simp;exact Nat.ne_zero_of_lt this
 have ho:Builtin.Str.occurrences (S l) ⟨#[c]⟩ 0 (S l).length ((S l).length+1)=k0r [c] 0 0 l:=by
  have:=m8n (x:=S l) (y:=⟨#[c]⟩) (by simp)
  simpa using this
 unfold Txt.split
 rw[ho]
 cases l with
 |nil=>rw[if_pos (by simp[S,Str.length])];rfl
 |cons a r=>
  rw[if_neg (by simp[hk,S,Str.length])]
  split
  ·rename_i h
   rw[k4j (a::r) 0 (List.isEmpty_iff.mp h)];rfl
  ·unfold Builtin.Str.partsBetween
   have key:=m0d (S (a::r)) 1 (k0r [c] 0 0 (a::r)) 0
   refine x2a2 (k4d c (a::r) (a::r) 0 0 rfl (by simp) (a0W _)) fun p ps h1 h2=>?_
   rw[show(S (a::r)).cps.toList=a::r from by simp,h2]at key
   simp only[Nat.sub_self,List.take_zero,a2V]at key
   rw[<-h1]at key
   rw[show(Str.length ⟨#[c]⟩)=1 from rfl]
   have inj:∀ {as bs:List Str},as.map (fun p=>p.cps.toList)=bs.map (fun p=>p.cps.toList) ->as=bs:=by
    intro as
    induction as with
    |nil=>intro bs h;cases bs with|nil=>rfl|cons=>cases h
    |cons x as ih=>
     intro bs h
     cases bs with
     |nil=>cases h
     |cons y bs=>
      injection h with h1 h2
      rw[ih h2]
      congr 1
      cases x;cases y
      rw[Str.mk.injEq]
      exact Array.toList_inj.mp h1
   refine inj (key.trans ?_)
   rw[a1X]
   conv=>lhs;rw[<-List.map_id (splitL c (a::r))]
   exact a2R fun q _=>by simp
theorem k4a (x:Str):Txt.split x (Str.ofString "/")=(splitL 47 x.cps.toList).map S:=by
 rw[show Str.ofString "/"=⟨#[47]⟩from by decide+kernel,<-m7r (by decide),k2k]
theorem k7b (x:Str):Txt.split x (Str.ofString ".")=(splitL 46 x.cps.toList).map S:=by
 rw[show Str.ofString "."=⟨#[46]⟩from by decide+kernel,<-m7r (by decide),k2k]
theorem k7c {c:Nat}:∀ {p:List Nat},c∉p ->splitL c p=[p]
 | [],_=>rfl
 |a::p,h=>by
  have h1:a≠c:=fun q=>h (q▸ .head _)
  rw[splitL,if_neg h1,k7c (fun q=>h (.tail _ q))]
theorem k9d {c:Nat}:∀ {p:List Nat} (r:List Nat),c∉p ->splitL c (p++c::r)=p::splitL c r
 | [],r,_=>by rw[a2V,splitL,if_pos rfl]
 |a::p,r,h=>by
  have h1:a≠c:=fun q=>h (q▸ .head _)
  rw[a3H,splitL,if_neg h1,k9d r (fun q=>h (.tail _ q))]
theorem k4k {c:Nat}:∀ {ps:List (List Nat)},ps≠[] ->(∀p∈ps,c∉p) ->splitL c (gl [c] ps)=ps
 | [],h,_=>absurd rfl h
 | [p],_,h=>by
  rw[show gl [c] [p]=p from a2O p]
  exact k7c (h p (.head _))
 |p::q::r,_,h=>by
  rw[k2e (by simp),a6E,List.singleton_append,k9d _ (h p (.head _)),k4k (by simp) fun z hz=>h z (.tail _ hz)]
theorem k7x (z:Str)(ts:List Str):Txt.join z ts=S (gl z.cps.toList (ts.map fun p=>p.cps.toList)):=by
 rw[<-m5c,k2k];rfl
theorem k4m:(Str.ofString "/").cps.toList=[47]:=by decide+kernel
theorem p5q:(Str.ofString ".").cps.toList=[46]:=by decide+kernel
theorem m0t:∀(l:List Nat) (ps:List Str) (cur:List Nat),(l.foldl cutStep (ps,S cur)).1++[(l.foldl cutStep (ps,S cur)).2]=ps++(match splitL 46 l with|p::qs=>S (cur++p)::qs.map S| []=>[])
 | [],ps,cur=>by simp[splitL]
 |a::r,ps,cur=>by
  rw[a1Y]
  by_cases h:a=46
  ·subst h
   rw[show cutStep (ps,S cur) 46=(ps++[S cur],S [])from rfl,m0t r,splitL,if_pos rfl]
   obtain⟨p,qs,e⟩:∃p qs,splitL 46 r=p::qs:=by
    cases q:splitL 46 r with
    |nil=>exact absurd q (k7d _ _)
    |cons p qs=>exact⟨p,qs,rfl⟩
   rw[e];simp
  ·refine x2a2 (k4b h r) fun p qs e1 e2=>?_
   rw[show cutStep (ps,S cur) a=(ps,S (cur++[a]))from by unfold cutStep;rw[if_neg h,show(⟨#[a]⟩:Str)=S [a]from rfl,m4g],m0t r,e1,e2]
   simp
theorem k1v (x:Str):cutF x=Txt.split x (Str.ofString "."):=by
 rw[k7b]
 unfold cutF cutTo
 rw[show x.cps.toList.take x.cps.size=x.cps.toList from a2H (a4L (Array.length_toList)),show Str.ofString ""=S []from by decide+kernel,m0t]
 cases q:splitL 46 x.cps.toList with
 |nil=>exact absurd q (k7d _ _)
 |cons p qs=>simp
theorem k4q {c:Nat}{pre suf:List Nat}(h:c∉suf):Txt.rfind (S (pre++c::suf)) ⟨#[c]⟩=(pre.length:Int):=by
 have at_:∀i,StrLaws.At (S (pre++c::suf)) ⟨#[c]⟩ (S (pre++c::suf)).length i↔(pre++c::suf)[i]?=some c:=fun i=>
  StrLaws.subAt_one (S (pre++c::suf)) c i
 unfold Txt.rfind
 rcases StrLaws.last_spec (S (pre++c::suf)) ⟨#[c]⟩with⟨_,h2⟩| ⟨i,e,h1,h2⟩
 ·exact absurd ((at_ pre.length).mpr (by rw[a2C (a0W _),Nat.sub_self];rfl)) (h2 _)
 ·rw[e]
  have h1:=(at_ i).mp h1
  have hi:i=pre.length:=by
   rcases Nat.lt_trichotomy i pre.length with q|q|q
   ·exact absurd ((at_ pre.length).mpr (by rw[a2C (a0W _),Nat.sub_self];rfl)) (h2 _ q)
   ·exact q
   ·rw[a2C (a4C q)]at h1
    obtain⟨k,hk⟩:∃k,i-pre.length=k+1:=⟨i-pre.length-1,by exact p4v q⟩
    rw[hk,a5E]at h1
    exact absurd (a1D h1) h
  rw[hi]
theorem m6f {c:Nat}{l:List Nat}(h:c∉l):Txt.rfind (S l) ⟨#[c]⟩= -1:=by
 unfold Txt.rfind
 rcases StrLaws.last_spec (S l) ⟨#[c]⟩with⟨e,_⟩| ⟨i,e,h1,_⟩
 ·rw[e]
 ·have:=(StrLaws.subAt_one (S l) c i).mp h1
  exact absurd (a1D (by simpa using this)) h
theorem slash_is:Str.ofString "/"=⟨#[47]⟩:=by decide+kernel
theorem dot_is:Str.ofString "."=⟨#[46]⟩:=by decide+kernel
theorem S_nil:Str.ofString ""=S []:=by decide+kernel
theorem m3a (g:Nat ->Bool)(lf rt:Bool)(l:List Nat):Txt.stripBy g lf rt (S l)=S (let m:=if lf then l.dropWhile g else l;if rt then(m.reverse.dropWhile g).reverse else m):=by
 have dw:∀(l:List Nat),l.drop (l.takeWhile g).length=l.dropWhile g:=fun l=>by
  induction l with
  |nil=>rfl
  |cons a r ih=>
   by_cases h:g a=true
   ·rw[a1P,if_pos h,a3I,if_pos h];exact ih
   ·rw[a1P,if_neg h,a3I,if_neg h];rfl
 have tw:∀(l:List Nat),l.take (l.length-(l.reverse.takeWhile g).length)=(l.reverse.dropWhile g).reverse:=fun l=>by
  rw[<-dw,List.reverse_drop]
  simp
 rw[W.stripBy_eq]
 have key:∀ {x:Str} {m:List Nat},x.cps.toList=m ->x=S m:=fun {x} {m} h=>by rw[<-h,k2k]
 refine key ?_
 unfold W.stripped
 rw[StrLaws.strSub_toList]
 have hl:(S l).cps.toList=l:=by simp
 rw[hl,k2g]
 cases lf with
 |false=>
  cases rt with
  |false=>simp
  |true=>simpa using tw l
 |true=>
  simp only[a4Q]
  rw[dw]
  have e:(l.takeWhile g).length+(l.dropWhile g).length=l.length:=by
   have:=a3C List.length (List.takeWhile_append_dropWhile (p:=g) (l:=l))
   rwa[a0Y]at this
  cases rt with
  |false=>
   simp only[a3A,if_false]
   exact a2H (om292 e)
  |true=>
   simp only[a4Q]
   rw[<-tw (l.dropWhile g)]
   congr 1
   exact om66 e
theorem m8m (c a:Nat):(⟨#[c]⟩:Str).cps.contains a=(a==c):=by simp[BEq.beq]
theorem m6n (c:Nat)(l:List Nat):Txt.lstripChars (S l) ⟨#[c]⟩=S (l.dropWhile (· ==c)):=by
 unfold Txt.lstripChars
 rw[m3a,show(⟨#[c]⟩:Str).cps.contains=(· ==c)from funext fun a=>m8m c a];rfl
theorem m6e (c:Nat)(l:List Nat):Txt.rstripChars (S l) ⟨#[c]⟩=S (l.reverse.dropWhile (· ==c)).reverse:=by
 unfold Txt.rstripChars
 rw[m3a,show(⟨#[c]⟩:Str).cps.contains=(· ==c)from funext fun a=>m8m c a];rfl
noncomputable abbrev pathL (cs:List (List Nat)):List Nat:=47::gl [47] cs
theorem m8t (cs:List (List Nat)):(cs.map S).map (fun p=>p.cps.toList)=cs:=by
 rw[a1X]
 conv=>rhs;rw[<-List.map_id cs]
 exact a2R fun q _=>by simp
theorem k9w (cs:List (List Nat)):k4n (cs.map S)=S (pathL cs):=by
 unfold k4n
 rw[k7x,k4m,m8t,show Str.ofString "/"=S [47]from slash_is,m4g];rfl
theorem m9j {cs:List (List Nat)}(t:List Nat):cs≠[] ->gl [47] (cs++[t])=gl [47] cs++47::t:=by
 induction cs with
 |nil=>intro h;exact absurd rfl h
 |cons c cs ih=>
  intro _
  cases cs with
  |nil=>simp[gl]
  |cons d ds=>
   rw[a3H,k2e (by simp),k2e (by simp),ih (by simp)]
   simp
noncomputable def m3w (cs:List (List Nat)):List Nat:=if cs=[]then []else pathL cs
set_option tactic.hygienic true in
theorem k1t (cs:List (List Nat))(t:List Nat):pathL (cs++[t])=m3w cs++47::t:=by
 unfold m3w
 split
 ·rename_i h;subst h;simp[pathL,gl]
 ·rename_i h;rw[pathL,m9j t h];rfl
theorem m9k {cs:List (List Nat)}(h:cs≠[])(hn:∀c∈cs,c≠[]∧47∉c):∃l a,gl [47] cs=l++[a]∧a≠47:=by
 obtain⟨ds,t,rfl⟩:∃ds t,cs=ds++[t]:=⟨cs.dropLast,cs.getLast h,(a3M h).symm⟩
 obtain⟨t1,t2⟩:=hn t (a0L _ (.head _))
 obtain⟨u,a,rfl⟩:∃u a,t=u++[a]:=⟨t.dropLast,t.getLast t1,(a3M t1).symm⟩
 have ha:a≠47:=fun q=>t2 (q▸a0L _ (.head _))
 by_cases hd:ds=[]
 ·subst hd;exact⟨u,a,by simp[gl],ha⟩
 ·exact⟨gl [47] ds++47::u,a,by rw[m9j _ hd];simp,ha⟩
theorem p4z (n:Int):∀c∈(Txt.mul (Str.ofString "/") n).cps.toList,c=47:=by
 intro c hc
 unfold Txt.mul at hc
 have key:∀(k:Nat) (acc:Array Nat),(∀x∈acc.toList,x=47) ->∀x∈((List.replicate k (Str.ofString "/").cps).foldl (· ++ ·) acc).toList,x=47:=by
  intro k
  induction k with
  |zero=>intro acc h;exact h
  |succ k ih=>
   intro acc h
   rw[List.replicate_succ,a1Y]
   refine ih _ fun x hx=>?_
   rw[Array.toList_append]at hx
   rcases a0V.mp hx with hx|hx
   ·exact h x hx
   ·rw[k4m]at hx;exact a0B.mp hx
 split at hc
 ·exact absurd hc (by simp[Str.empty])
 ·split at hc
  ·rw[k4m]at hc;exact a0B.mp hc
  ·exact key _ #[] (fun _ h=>by simp at h) c hc
theorem k9b {cs:List (List Nat)}{t:List Nat}(ht:47∉t)(hn:∀c∈cs,c≠[]∧47∉c):k0m (S (pathL (cs++[t])))=S (pathL cs)∧k1s (S (pathL (cs++[t])))=S t:=by
 have hr:Txt.rfind (S (pathL (cs++[t]))) (Str.ofString "/")+1=(((m3w cs).length+1:Nat):Int):=by
  rw[slash_is,k1t,k4q ht];rfl
 have hh:Txt.slice (S (pathL (cs++[t]))) none (some (Txt.rfind (S (pathL (cs++[t]))) (Str.ofString "/")+1))=S (m3w cs++[47]):=by
  rw[hr,k6n,k1t]
  congr 1
  rw[List.take_append,a2H (a6S _),Nat.add_sub_cancel_left]
  rfl
 constructor
 ·unfold k0m
  rw[hh]
  dsimp only
  unfold m3w
  by_cases h:cs=[]
  ·subst h
   rw[if_pos rfl,if_neg]
   ·rfl
   ·rintro⟨_,h2⟩
    exact h2 (by decide+kernel)
  ·rw[if_neg h]
   refine x2a2 (m9k h hn) fun l a e ha=>?_
   rw[if_pos]
   ·rw[slash_is,m6e]
    congr 1
    rw[pathL,e]
    simp[ha]
   ·refine⟨by simp[S,Str.length],fun q=>?_⟩
    have hm:∀c∈(Txt.mul (Str.ofString "/") ((S (pathL cs++[47])).length:Int)).cps.toList,c=47:=p4z _
    rw[<-q,pathL,e]at hm
    exact ha (hm a (by simp))
 ·unfold k1s
  rw[hr,k9v,k1t]
  congr 1
  rw[List.drop_append,a5P (a6S _),Nat.add_sub_cancel_left]
  rfl
theorem m2q:∀(n:Nat) (cs:List (List Nat)),cs.length<=n ->(∀c∈cs,c≠[]∧47∉c) ->climbTo n (S (pathL cs))=cs.map S
 |n,[],_,_=>by
  rw[show S (pathL [])=Str.ofString "/" from slash_is.symm]
  exact k6b n
 |0,c::cs,h,_=>absurd h (a4S _)
 |n+1,c::cs,h,hn=>by
  obtain⟨ds,t,e⟩:∃ds t,c::cs=ds++[t]:=⟨(c::cs).dropLast,(c::cs).getLast (by simp),(a3M (by simp)).symm⟩
  rw[e]at hn h⊢
  have hd:∀c∈ds,c≠[]∧47∉c:=fun c hc=>hn c (a0N _ hc)
  have ht:=hn t (a0L _ (.head _))
  obtain⟨h1,h2⟩:=k9b ht.2 hd
  rw[climbTo,if_neg,h1,h2,m2q n ds (by simp at h;exact om20 h) hd,a0U]
  ·rfl
  ·rw[slash_is]
   intro q
   have:=S_inj.mp (show S (pathL (ds++[t]))=S [47]from q)
   rw[k1t]at this
   have:=a3C List.length this
   have ht1:t.length≠0:=fun z=>ht.1 (a3G z)
   simp at this
   exact(om361 this ht1).elim
theorem m7a {n:Nat}{cs:List (List Nat)}{t:List Nat}(h:cs.length<n)(h0:cs≠[])(hn:∀c∈cs,c≠[]∧47∉c)(ht:47∉t):climbTo n (S (pathL (cs++[t])))=(cs++[t]).map S:=by
 obtain⟨m,rfl⟩:∃m,n=m+1:=⟨n-1,by exact om221 h⟩
 obtain⟨h1,h2⟩:=k9b ht hn
 rw[climbTo,if_neg,h1,h2,m2q m cs (Nat.le_of_lt_succ h) hn,a0U]
 ·rfl
 ·rw[slash_is]
  intro q
  have:=S_inj.mp (show S (pathL (cs++[t]))=S [47]from q)
  rw[k1t]at this
  have:=a3C List.length this
  unfold m3w at this
  rw[if_neg h0]at this
  simp[pathL]at this
theorem k8z (c:Nat)(b:List Nat):Txt.startswith (S b) ⟨#[c]⟩=(b.head?==some c):=by
 have h:=StrLaws.subAt_one (S b) c 0
 rw[Bool.eq_iff_iff]
 unfold Txt.startswith
 rw[a2Y,a1B,h,a1T]
 cases b<;>simp
theorem p2k (c a:Nat)(b:List Nat):Txt.endswith (S (b++[a])) ⟨#[c]⟩=(a==c):=by
 have h:=StrLaws.subAt_one (S (b++[a])) c b.length
 have hl:(S (b++[a])).length-(⟨#[c]⟩:Str).length=b.length:=by simp[S,Str.length]
 rw[Bool.eq_iff_iff]
 unfold Txt.endswith
 rw[hl,a2Y,a1B,a1T]
 have e:(S (b++[a])).cps.toList[b.length]?=some a:=by simp
 rw[e]at h
 constructor
 ·rintro⟨_,h2⟩
  have:=h.mp ⟨by simp[S,Str.length],h2⟩
  injection this
 ·rintro rfl
  exact⟨by simp[S,Str.length],(h.mpr rfl).2⟩
theorem k2t {l:List Nat}(h:l≠[]):S l≠Str.ofString "":=by
 rw[S_nil];exact fun q=>h (S_inj.mp q)
theorem k3e {q b:List Nat}{a:Nat}(hb:b.head?≠some 47):joinStep (S (q++[a])) (S b)=S (q++[a]++(if a=47 then b else 47::b)):=by
 have hs:Txt.startswith (S b) (Str.ofString "/")=false:=by
  rw[slash_is,k8z]
  exact a2Q.mpr hb
 have hn:S (q++[a])≠Str.ofString "":=k2t (by simp)
 unfold joinStep
 rw[if_neg (by rw[hs];rintro(h|h);cases h;exact hn h),slash_is,p2k]
 by_cases h:a=47
 ·rw[if_pos (a1T.mpr h),if_pos h,m4g]
 ·rw[if_neg (by simpa using h),if_neg h,show(⟨#[47]⟩:Str)=S [47]from rfl,m4g,m4g];rfl
theorem m3v {l:List Nat}(h:47∉l):l.head?≠some 47:=fun q=>by
 cases l with
 |nil=>cases q
 |cons a l=>injection q with q;exact h (q▸ .head _)
noncomputable def compsL (l0 l1:List Nat):List (List Nat):=[98]::((if l0=[]then []else [l0])++[l1])
theorem p3g {l0 l1:List Nat}(h0:47∉l0)(h1:47∉l1):laidF (S l0) (S l1)=S (pathL (compsL l0 l1)):=by
 show joinStep (joinStep (Str.ofString "/b") (S l0)) (S l1)=_
 rw[show Str.ofString "/b"=S ([47]++[98])from by decide+kernel,k3e (m3v h0),if_neg (by decide)]
 unfold compsL
 by_cases e:l0=[]
 ·subst e
  rw[show [47]++[98]++[47]=[47,98]++[47]from rfl,k3e (m3v h1),if_pos rfl]
  simp[pathL,gl]
 ·obtain⟨u,a,rfl⟩:∃u a,l0=u++[a]:=⟨l0.dropLast,l0.getLast e,(a3M e).symm⟩
  have ha:a≠47:=fun q=>h0 (q▸a0L _ (.head _))
  rw[show [47]++[98]++47::(u++[a])=(47::98::47::u)++[a] by simp,k3e (m3v h1),if_neg ha,if_neg e]
  simp[pathL,gl]
theorem b_is:Str.ofString "b"=S [98]:=by decide+kernel
theorem full_S (l0 l1:List Nat):k2f (S l0) (S l1)++k1y (S l1)=(compsL l0 l1).map S:=by
 have key:∀l:List Nat,(S l !=Str.ofString "")= !decide (l=[]):=fun l=>by
  by_cases e:l=[]
  ·subst e;decide+kernel
  ·rw[a2G e,a3U.mpr (k2t e)];rfl
 have key2:k1y (S l1)=if l1=[]then [S []]else []:=by
  unfold k1y
  by_cases e:l1=[]
  ·subst e;decide+kernel
  ·rw[if_neg (k2t e),if_neg e]
 unfold k2f compsL
 rw[b_is,key2]
 simp only[a5J,List.filter_nil,key]
 by_cases e0:l0=[]<;>by_cases e1:l1=[]<;>simp[e0,e1]
theorem k4p {cs:List (List Nat)}(h:∀c∈cs.head?,c≠[]∧47∉c):k1m (S (pathL cs))=Str.ofString "/"∧restOf (S (pathL cs))=S (gl [47] cs):=by
 have e1:Txt.slice (S (pathL cs)) none (some 1)=Str.ofString "/":=by
  have:=k6n (pathL cs) 1
  rw[show((1:Nat):Int)=1 from rfl]at this
  rw[this,slash_is];rfl
 have e2:Txt.slice (S (pathL cs)) (some 1) (some 2)≠Str.ofString "/":=by
  have:=k2m (pathL cs) 1 2
  rw[show((1:Nat):Int)=1 from rfl,show((2:Nat):Int)=2 from rfl]at this
  rw[this,slash_is]
  intro q
  have q:=S_inj.mp (show S _=S [47]from q)
  cases cs with
  |nil=>simp[pathL,gl]at q
  |cons c cs=>
   obtain⟨h1,h2⟩:=h c rfl
   cases c with
   |nil=>exact h1 rfl
   |cons a c=>
    have:(47::gl [47] ((a::c)::cs)).take 2=[47,a]:=by simp[gl]
    rw[pathL,this]at q
    have:a=47:=by simpa using q
    exact h2 (this▸ .head _)
 have e3:¬Txt.slice (S (pathL cs)) none (some 1)≠Str.ofString "/":=fun q=>q e1
 constructor
 ·unfold k1m
  rw[if_neg e3,if_pos (.inl e2)]
 unfold restOf
 rw[if_neg e3,if_pos (.inl e2)]
 have:=k9v (pathL cs) 1
 rw[show((1:Nat):Int)=1 from rfl]at this
 rw[this];rfl
theorem m6k (ts:List Str)(c:Str):normStep ts c=stackStep ts c:=by
 unfold normStep stackStep
 by_cases h1:c=Str.ofString ".."
 ·rw[if_pos h1,if_neg,if_neg (fun q=>q h1)]
  rintro(q|q)
  ·exact absurd (h1.symm.trans q) (by decide+kernel)
  ·exact absurd (h1.symm.trans q) (by decide+kernel)
 ·rw[if_neg h1]
  split
  ·rfl
  ·rfl
theorem k7k {cs:List (List Nat)}(h:∀c∈cs.head?,c≠[]∧47∉c)(hn:∀c∈cs,47∉c):normF (S (pathL cs))=k4n ((cs.map S).foldl normStep []):=by
 obtain⟨e1,e2⟩:=k4p h
 unfold normF k7l k4n
 rw[e1,e2,k4a,show(S (gl [47] cs)).cps.toList=gl [47] cs by simp]
 cases cs with
 |nil=>
  show _++Txt.join _ ([S []].foldl normStep [])=_
  rw[<-S_nil];rfl
 |cons c cs=>rw[k4k (by simp) hn]
noncomputable def GoodN (c:List Nat):Prop:=c≠[]∧47∉c
noncomputable def GoodD (c:List Nat):Prop:=S c≠Str.ofString "."∧S c≠Str.ofString ".."
theorem m6r {stk:List Str}{sp:Str}(h:GP stk sp):∃cs:List (List Nat),stk=cs.map S∧sp=S (pathL cs)∧(∀c∈cs,GoodN c)∧(∀c∈cs,GoodD c)∧cs.length<=3∧∀c∈cs,c.length<=100:=by
 have e:stk=(stk.map fun x=>x.cps.toList).map S:=by
  rw[a1X]
  conv=>lhs;rw[<-List.map_id stk]
  exact a2R fun x _=>(k2k x).symm
 refine⟨stk.map fun x=>x.cps.toList,e,?_,fun c hc=>?_,fun c hc=>?_,by rw[a0J];exact h.len,fun c hc=>?_⟩
 ·rw[h.eq,<-k9w,<-e]
 all_goals
  refine x1a2 (a0K.mp hc) fun x hx za=>?_;obtain rfl:=za
  refine an4 (h.good x hx) fun g1 g2 g3 g4=>?_
 ·refine⟨fun q=>g1 ?_,g4⟩
  rw[<-k2k x,q];exact S_nil.symm
 ·unfold GoodD;rw[k2k];exact⟨g2,g3⟩
 ·have:=h.alen x hx
  simpa[Str.length]using this
theorem k4s:∀(cs:List (List Nat)) (ts:List Str),(∀c∈cs,GoodN c) ->(∀c∈cs,GoodD c) ->(cs.map S).foldl normStep ts=ts++cs.map S
 | [],ts,_,_=>(a2O ts).symm
 |c::cs,ts,h,g=>by
  obtain⟨h1,_⟩:=h c (.head _)
  obtain⟨g1,g2⟩:=g c (.head _)
  rw[a0P,a1Y,show normStep ts (S c)=ts++[S c]from by
   unfold normStep
   rw[if_neg (by rintro(q|q);exact k2t h1 q;exact g1 q),if_pos g2],k4s cs _ (fun c hc=>h c (.tail _ hc)) fun c hc=>g c (.tail _ hc)]
  simp
theorem m1y {cs:List (List Nat)}(h:∀c∈cs,GoodN c)(g:∀c∈cs,GoodD c):normF (S (pathL cs))=S (pathL cs):=by
 rw[k7k (fun c hc=>h c (List.mem_of_mem_head? hc)) (fun c hc=>(h c hc).2),k4s cs [] h g,a2V,k9w]
theorem m2h:∀(cs:List (List Nat)),(gl [47] cs).length<=(cs.map fun c=>c.length+1).sum
 | []=>a0R _
 | [c]=>by simp[gl]
 |c::d::r=>by
  have:=m2h (d::r)
  rw[k2e (by simp),a0P,a6B,a0Y,a0Y]
  simp only[a0Q,a3F]at*
  exact Nat.add_le_add_iff_left.mpr this
theorem k6x:∀ {cs:List (List Nat)},(∀c∈cs,c.length<=100) ->(cs.map fun c=>c.length+1).sum<=cs.length*101
 | [],_=>a0W _
 |c::cs,h=>by
  have h1:=h c (.head _)
  have:=k6x (cs:=cs) fun c hc=>h c (.tail _ hc)
  simp only[a0P,a6B,a0Q];exact om252 this h1
theorem pl_gq {stk:List Str}{sp:Str}(h:GP stk sp):GQ sp:=by
 refine x1a6 (m6r h) fun cs za zb hN hD hl hc=>?_;refine eq2 za zb ?_;clear za zb
 have len:(S (pathL cs)).length<=304:=by
  have h1:=m2h cs
  have h2:=k6x hc
  rw[k2g,pathL,a0Q];exact om274 h2 hl h1
 refine⟨(k4p fun c hc=>hN c (List.mem_of_mem_head? hc)).1,?_,a0H len (by decide),?_⟩
 ·rw[slash_is,k8z];rfl
 ·rw[m1y hN hD];exact a0H len (by decide)
theorem p1i {cs:List (List Nat)}(h:∀c∈cs,GoodN c)(g:∀c∈cs,GoodD c):rowOf (S (pathL cs))=cs.map S:=by
 unfold rowOf
 rw[k4a,show(S (pathL cs)).cps.toList=47::gl [47] cs by simp,splitL,if_pos rfl,a0P,a5J,if_neg (by rw[<-S_nil];simp)]
 cases cs with
 |nil=>
  show([S []].filter _)=[]
  rw[<-S_nil];simp
 |cons c cs=>
  rw[k4k (by simp) fun c hc=>(h c hc).2,a3X]
  intro x hx
  refine x1a2 (a0K.mp hx) fun c hc za=>?_;obtain rfl:=za
  rw[a2Y,a3U,a3U]
  exact⟨k2t (h c hc).1,(g c hc).1⟩
theorem m8j (stks:List (List Str))(sps:List Str)(e:stks.length=sps.length)(h0:0<sps.length)(h:∀j,j<sps.length ->GP (stks.getD j []) (sps.getD j Str.empty)):cpathF sps=k4n (k0y stks):=by
 have:sps.map rowOf=stks:=by
  refine List.ext_getElem (by rw[a0J,e]) fun j h1 h2=>?_
  rw[a0J]at h1
  have hj:=h j h1
  rw[a0E,a0E,a0D h1,a0D h2]at hj
  rw[List.getElem_map]
  refine x1a5 (m6r hj) fun cs e1 e2 hN hD _=>?_
  show rowOf sps[j]=stks[j]
  rw[show sps[j]=_ from e2,p1i hN hD]
  exact e1.symm
 unfold cpathF
 rw[this];rfl
theorem k9f {cs:List (List Nat)}(h:∀c∈cs,GoodN c)(g:∀c∈cs,GoodD c):partsOf (tailOf (S (pathL cs)))=cs.map S:=by
 unfold partsOf tailOf
 rw[m1y h g,slash_is,m6n]
 have e:(pathL cs).dropWhile (· ==47)=gl [47] cs:=by
  rw[pathL,a3I,if_pos (by decide)]
  cases cs with
  |nil=>rfl
  |cons c cs=>
   obtain⟨h1,h2⟩:=h c (.head _)
   cases c with
   |nil=>exact absurd rfl h1
   |cons a c=>
    have ha:a≠47:=fun q=>h2 (q▸ .head _)
    show List.dropWhile _ (a::_)=a::_
    rw[a3I,if_neg (by simpa using ha)]
 rw[e,<-slash_is,k4a]
 cases cs with
 |nil=>rw[if_pos (show S (gl [47] [])=Str.ofString "" from S_nil.symm)];rfl
 |cons c cs=>
  obtain⟨h1,_⟩:=h c (.head _)
  rw[if_neg (k2t (by cases c with|nil=>exact absurd rfl h1|cons a c=>simp[gl])),show(S (gl [47] (c::cs))).cps.toList=gl [47] (c::cs) by simp,k4k (by simp) fun c hc=>(h c hc).2]
theorem pl_rel (low high:List Str)(here there:Str)(h1:GP low here)(h2:GP high there):relF there here=wayF low high:=by
 refine x1a5 (m6r h1) fun as za zb aN aD _=>?_;refine eq2 za zb ?_;clear za zb
 refine x1a5 (m6r h2) fun bs za zb bN bD _=>?_;refine eq2 za zb ?_;clear za zb
 have e:relL (S (pathL bs)) (S (pathL as))=k0u (as.map S) (bs.map S):=by
  unfold relL k0u
  rw[k9f aN aD,k9f bN bD]
 unfold relF wayF
 rw[e]
theorem gl_app {as bs:List (List Nat)}(ha:as≠[])(hb:bs≠[]):gl [47] (as++bs)=gl [47] as++47::gl [47] bs:=by
 induction as with
 |nil=>exact absurd rfl ha
 |cons a as ih=>
  cases as with
  |nil=>
   rw[List.singleton_append,k2e hb,show gl [47] [a]=a from a2O a]
   simp
  |cons c as=>
   rw[a3H,k2e (by simp),k2e (by simp),ih (by simp)]
   simp
theorem m5g:∀(k:Nat) (ts:List Str),(List.replicate k (Str.ofString "..")).foldl normStep ts=ts.take (ts.length-k)
 |0,ts=>by simp
 |k+1,ts=>by
  rw[List.replicate_succ,a1Y,show normStep ts (Str.ofString "..")=ts.dropLast from by
   unfold normStep
   rw[if_neg (by decide+kernel),if_neg (by simp)],m5g k,a5V,List.take_take,a2F]
  congr 1
  exact om4
set_option tactic.hygienic true in
theorem m4z:∀(a b:List Str),a.length<=lcp a b ->b.length<=lcp a b ->a=b
 | [],[],_,_=>rfl
 | [],_::_,_,h=>absurd h (a4S _)
 |_::_,[],h,_=>absurd h (a4S _)
 |x::a,y::b,h1,h2=>by
  unfold lcp at h1 h2
  split at h1
  ·rename_i e
   rw[if_pos e]at h2
   rw[e,m4z a b (Nat.le_of_succ_le_succ h1) (Nat.le_of_succ_le_succ h2)]
  ·exact absurd h1 (a4S _)
theorem m9f {as ws:List (List Nat)}(ha:∀c∈as,GoodN c)(hw:ws≠[])(hh:∀c∈ws,GoodN c):joinStep (S (pathL as)) (S (gl [47] ws))=S (pathL (as++ws)):=by
 have hb:(gl [47] ws).head?≠some 47:=by
  cases ws with
  |nil=>exact absurd rfl hw
  |cons c ws=>
   obtain⟨h1,h2⟩:=hh c (.head _)
   cases c with
   |nil=>exact absurd rfl h1
   |cons a c=>
    show some a≠some 47
    intro q;injection q with q;exact h2 (q▸ .head _)
 by_cases e:as=[]
 ·subst e
  rw[show pathL []=[]++[47]from rfl,k3e hb,if_pos rfl];rfl
 ·refine x2a2 (m9k e ha) fun l a e1 e2=>?_
  rw[show pathL as=(47::l)++[a]from by rw[pathL,e1];rfl,k3e hb,if_neg e2]
  rw[pathL,gl_app e hw,e1];simp
set_option tactic.hygienic true in
theorem p4j (low high:List Str)(here there:Str)(h1:GP low here)(h2:GP high there):normF (joinStep here (wayF low high))=there∧k1m (joinStep here (wayF low high))=Str.ofString "/"∧(joinStep here (wayF low high)).length<=900∧(wayF low high).length<=1000:=by
 have hl:=h1.len
 have hh:=h2.len
 refine x1a6 (m6r h1) fun as ea za aN aD al ac=>?_;obtain rfl:=za
 refine x1a6 (m6r h2) fun bs eb eT bN bD bl bc=>?_
 obtain⟨lc1,lc2⟩:=k3x low high
 obtain⟨ws,hw0,hw1,hw2,hw3,hw4⟩:∃ws:List (List Nat),wayF low high=S (gl [47] ws)∧ws≠[]∧(∀c∈ws,GoodN c)∧(ws.map S).foldl normStep low=high∧(ws.map fun c=>c.length+1).sum<=400:=by
  unfold wayF
  split
  ·rename_i hs
   refine⟨[[46]],by rw[show gl [47] [[46]]=[46]from rfl];exact dot_is,by simp,fun c hc=>?_,?_,by decide⟩
   ·rw[a0B.mp hc];exact⟨by simp,by decide⟩
   ·unfold k0u at hs
    rw[List.append_eq_nil_iff,List.replicate_eq_nil_iff,List.drop_eq_nil_iff]at hs
    rw[m4z low high (om323 hs) hs.2,a0P,a6V,a1Y,List.foldl_nil]
    unfold normStep
    rw[if_pos (.inr dot_is.symm)]
  ·rename_i hs
   refine⟨(k0u low high).map fun x=>x.cps.toList,by rw[k7x,k4m],by simpa using hs,fun c hc=>?_,?_,?_⟩
   ·refine x1a2 (a0K.mp hc) fun x hx za=>?_;obtain rfl:=za
    rcases a0V.mp hx with hx|hx
    ·rw[(List.mem_replicate.mp hx).2];exact⟨by decide+kernel,by decide+kernel⟩
    ·refine an4 (h2.good x (a2S hx)) fun g1 _ _ g4=>?_
     exact⟨fun q=>g1 (by rw[<-k2k x,q];exact S_nil.symm),g4⟩
   ·have e:((k0u low high).map fun x=>x.cps.toList).map S=k0u low high:=by
     rw[a1X]
     conv=>rhs;rw[<-List.map_id (k0u low high)]
     exact a2R fun x _=>k2k x
    rw[e]
    unfold k0u
    rw[a3K,m5g,show low.length-(low.length-lcp low high)=lcp low high by exact Nat.sub_sub_self lc1,k1p]
    have ed:high.drop (lcp low high)=(bs.drop (lcp low high)).map S:=by rw[eb,a6D]
    rw[ed,k4s _ _ (fun c hc=>bN c (a2S hc)) fun c hc=>bD c (a2S hc),<-ed,m5a,a5T]
   ·unfold k0u
    have hr:∀(k:Nat),((List.replicate k (Str.ofString "..")).map fun x=>x.cps.toList)=List.replicate k [46,46]:=fun k=>by
     rw[List.map_replicate]
     congr 1
    have hs2:∀(k:Nat),((List.replicate k [46,46]).map fun c:List Nat=>c.length+1).sum=k*3:=fun k=>by
     rw[List.map_replicate,List.sum_replicate_nat];rfl
    have h3:=k6x (cs:=(high.drop (lcp low high)).map fun x=>x.cps.toList) fun c hc=>by
     refine x1a2 (a0K.mp hc) fun x hx za=>?_;obtain rfl:=za
     have:=h2.alen x (a2S hx)
     simpa[Str.length]using this
    rw[a0U,a0U,List.sum_append,hr,hs2]
    rw[a0J,a5I]at h3
    exact om84 h3 hl hh
 rw[hw0,m9f aN hw1 hw2]
 have hall:∀c∈as++ws,GoodN c:=fun c hc=>by
  rcases a0V.mp hc with hc|hc
  ·exact aN c hc
  ·exact hw2 c hc
 have hne:as++ws≠[]:=by simp[hw1]
 have hg:=m2h (as++ws)
 have hgw:=m2h ws
 have hga:=k6x ac
 rw[a0U,List.sum_append]at hg
 refine⟨?_,(k4p fun c hc=>hall c (List.mem_of_mem_head? hc)).1,?_,?_⟩
 ·rw[k7k (fun c hc=>hall c (List.mem_of_mem_head? hc)) (fun c hc=>(hall c hc).2),a0U,a3K,k4s as [] aN aD,a2V,<-ea,hw3]
  exact h2.eq.symm
 ·rw[k2g,pathL,a0Q];exact om163 hga hg al hw4
 ·rw[k2g];exact om374 hw4 hgw
noncomputable def AscL (l:List Nat):Prop:=∀c∈l,32<=c∧c<127
theorem m6i {l:List Nat}(h:AscL l):PyData.strOk (S l)=true:=by
 simp only[PyData.strOk]
 simp
 intro c hc
 have:=h c hc
 exact om498 this
set_option tactic.hygienic true in
theorem k3q {l0 l1 c:List Nat}(h:c∈compsL l0 l1):c=[98]∨(c=l0∧l0≠[])∨c=l1:=by
 unfold compsL at h
 rcases a0G.mp h with h|h
 ·exact .inl h
 ·rcases a0V.mp h with h|h
  ·split at h
   ·cases h
   ·rename_i e;exact .inr (.inl ⟨a0B.mp h,e⟩)
  ·exact .inr (.inr (a0B.mp h))
set_option tactic.hygienic true in
theorem k9a:∀(xs:List Str) (ts:List Str),(∀c∈xs,47∉c.cps.toList∧c.length<=100) ->(∀c∈ts,c≠Str.ofString ""∧c≠Str.ofString "."∧c≠Str.ofString ".."∧47∉c.cps.toList∧c.length<=100) ->
  (∀c∈xs.foldl stackStep ts,c≠Str.ofString ""∧c≠Str.ofString "."∧c≠Str.ofString ".."∧47∉c.cps.toList∧c.length<=100)∧(xs.foldl stackStep ts).length<=ts.length+xs.length
 | [],ts,_,h=>⟨h,a0W _⟩
 |x::xs,ts,hx,h=>by
  obtain⟨x1,x2⟩:=hx x (.head _)
  have key:(∀c∈stackStep ts x,c≠Str.ofString ""∧c≠Str.ofString "."∧c≠Str.ofString ".."∧47∉c.cps.toList∧c.length<=100)∧(stackStep ts x).length<=ts.length+1:=by
   unfold stackStep
   split
   ·exact⟨fun c hc=>h c (List.dropLast_subset _ hc),by simp;exact om250⟩
   ·rename_i n1
    split
    ·exact⟨h,a6S _⟩
    ·rename_i n2
     refine⟨fun c hc=>?_,by simp⟩
     rcases a0V.mp hc with hc|hc
     ·exact h c hc
     ·rw[a0B.mp hc]
      exact⟨fun q=>n2 (.inl q),fun q=>n2 (.inr q),n1,x1,x2⟩
  have ih:=k9a xs (stackStep ts x) (fun c hc=>hx c (.tail _ hc)) key.1
  refine⟨ih.1,?_⟩
  have:=ih.2
  have:=key.2
  simp only[a1Y,a0Q];exact om103 this (by assumption)
theorem m6s (l0 l1:List Nat):((compsL l0 l1).map S).foldl normStep []=stackF [S l0,S l1]:=by
 have e:∀(xs ts:List Str),xs.foldl normStep ts=xs.foldl stackStep ts:=fun xs=>by
  induction xs with
  |nil=>intro ts;rfl
  |cons x xs ih=>intro ts;rw[a1Y,a1Y,m6k,ih]
 have e0:∀ts,stackStep ts (S [])=ts:=fun ts=>by
  unfold stackStep
  rw[<-S_nil,if_neg (by decide+kernel),if_pos (.inl rfl)]
 have eb:stackStep [] (S [98])=[Str.ofString "b"]:=by
  rw[<-b_is]
  unfold stackStep
  rw[if_neg (by decide+kernel),if_neg (by decide+kernel)];rfl
 rw[e]
 unfold stackF compsL
 rw[a0P,a1Y,eb]
 by_cases h:l0=[]
 ·subst h
  rw[if_pos rfl,a2V,a1Y,e0];rfl
 ·rw[if_neg h];rfl
structure m4h (l:List Nat):Prop where
 no:47∉l
 len:l.length<=100
 asc:AscL l
set_option tactic.hygienic true in
theorem p4k {l0 l1:List Nat}(n0:m4h l0)(n1:m4h l1)(peel:peelTo 30 (laidF (S l0) (S l1))=k3h (laidF (S l0) (S l1)).cps.toList (S l1).cps.toList)(oke:OkS (k3h (laidF (S l0) (S l1)).cps.toList (S l1).cps.toList)):PF (S l0) (S l1):=by
 have hl:=p3g n0.no n1.no
 have hf:=full_S l0 l1
 have hb:GoodN [98]:=⟨by simp,by decide⟩
 have hcn:∀c∈compsL l0 l1,47∉c:=fun c hc=>by
  rcases k3q hc with rfl| ⟨rfl,_⟩|rfl
  ·decide
  ·exact n0.no
  ·exact n1.no
 have hci:∀c∈[98]::(if l0=[]then []else [l0]),c≠[]∧47∉c:=fun c hc=>by
  rcases a0G.mp hc with rfl|hc
  ·exact hb
  ·split at hc
   ·cases hc
   ·rename_i e;rw[a0B.mp hc];exact⟨e,n0.no⟩
 have hlen:∀c∈compsL l0 l1,c.length<=100:=fun c hc=>by
  rcases k3q hc with rfl| ⟨rfl,_⟩|rfl
  ·decide
  ·exact n0.len
  ·exact n1.len
 have hcl:(compsL l0 l1).length<=3:=by unfold compsL;split<;>simp
 have hg:=m2h (compsL l0 l1)
 have hg2:=k6x hlen
 have hll:(laidF (S l0) (S l1)).length<=900:=by rw[hl,k2g,pathL,a0Q];exact om267 hg2 hcl hg
 have hhead:∀c∈(compsL l0 l1).head?,c≠[]∧47∉c:=fun c hc=>by
  have:[98]=c:=by simpa[compsL]using hc
  exact this▸hb
 have hnorm:=k7k hhead hcn
 rw[m6s]at hnorm
 have hst:=k9a [S l0,S l1] [Str.ofString "b"] (fun c hc=>by
  simp only[a0G,a0Z,a5C]at hc
  rcases hc with rfl|rfl
  ·exact⟨by simpa using n0.no,by rw[k2g];exact n0.len⟩
  ·exact⟨by simpa using n1.no,by rw[k2g];exact n1.len⟩) (fun c hc=>by rw[a0B.mp hc];decide+kernel)
 refine⟨by rw[k2g];exact n0.len,by rw[k2g];exact n1.len,fun x hx=>?_,by rw[hl,hf,k9w],fun x hx=>?_,?_,peel,oke,hll,?_,by rw[hl];exact(k4p hhead).1,?_⟩
 ·simp only[a0G,a0Z,a5C]at hx
  rcases hx with rfl|rfl
  ·exact m6i n0.asc
  ·exact m6i n1.asc
 ·rw[hf]at hx
  refine x1a2 (a0K.mp hx) fun c hc za=>?_;obtain rfl:=za
  rcases k3q hc with rfl| ⟨rfl,_⟩|rfl
  ·decide+kernel
  ·exact m6i n0.asc
  ·exact m6i n1.asc
 ·rw[hl,hf]
  have e:compsL l0 l1=([98]::(if l0=[]then []else [l0]))++[l1]:=rfl
  rw[e]
  exact m7a (by split<;>exact kb rfl) (by simp) hci n1.no
 ·rw[hl]
  have e:compsL l0 l1=([98]::(if l0=[]then []else [l0]))++[l1]:=rfl
  rw[e,k1t,k2g,k2g]
  simp;exact om376
 ·rw[hl,hnorm]
  exact⟨rfl,hst.2,fun c hc=>(hst.1 c hc).2.2.2.2,fun c hc=>let⟨a,b,d,e,_⟩:=hst.1 c hc;⟨a,b,d,e⟩⟩
theorem m9c {c:Nat}:∀ {l:List Nat},c∈l ->∃u v,l=u++c::v∧c∉v:=by
 intro l h
 induction l with
 |nil=>cases h
 |cons a l ih=>
  by_cases q:c∈l
  ·refine x2a2 (ih q) fun u v e hv=>?_
   exact⟨a::u,v,by rw[e];rfl,hv⟩
  ·rcases a0G.mp h with rfl|h
   ·exact⟨[],l,rfl,q⟩
   ·exact absurd h q
theorem m7z {pre l:List Nat}(h:47∉l):rSep (S (pre++47::l))=(pre.length:Int):=by
 show Txt.rfind _ _=_
 rw[slash_is,k4q h]
theorem p3l {pre u v:List Nat}(h:46∉v):rDot (S (pre++47::(u++46::v)))=((pre.length+1+u.length:Nat):Int):=by
 show Txt.rfind _ _=_
 rw[dot_is,show pre++47::(u++46::v)=(pre++47::u)++46::v by simp,k4q h]
 simp;exact om464
theorem p2l {pre l:List Nat}(h:46∉l):rDot (S (pre++47::l))<(pre.length:Int):=by
 show Txt.rfind _ _<_
 rw[dot_is]
 by_cases q:46∈pre
 ·refine x2a2 (m9c q) fun u v za hv=>?_;obtain rfl:=za
  rw[show u++46::v++47::l=u++46::(v++47::l) by simp,k4q (by
   intro m
   rcases a0V.mp m with m|m
   ·exact hv m
   ·rcases a0G.mp m with m|m
    ·exact absurd m (by decide)
    ·exact h m)]
  simp;exact om569
 ·rw[m6f (by
   intro m
   rcases a0V.mp m with m|m
   ·exact q m
   ·rcases a0G.mp m with m|m
    ·exact absurd m (by decide)
    ·exact h m)]
  exact om332
theorem p2h {pre l:List Nat}(h:46∉l)(h7:47∉l):k0x (S (pre++47::l))=Str.ofString "":=by
 unfold k0x
 rw[if_neg]
 unfold extB
 rw[m7z h7,a2G (by have:=p2l (pre:=pre) h;exact Int.lt_asymm this)]
 simp
theorem m9p {pre u v:List Nat}{k:Nat}(h7:47∉u++46::v)(hk:k<u.length):dotAt (S (pre++47::(u++46::v))) k=decide (u[k]?=some 46):=by
 unfold dotAt
 rw[m7z h7]
 have hx:(pre++47::(u++46::v))[pre.length+1+k]?=u[k]?:=by
  rw[a2C om208,show pre.length+1+k-pre.length=k+1 by exact om50,a5E,a4A hk]
 have e1:((pre.length:Int)+1+(k:Int))=((pre.length+1+k:Nat):Int):=om453
 have e2:((pre.length:Int)+1+(k:Int)+1)=((pre.length+1+k+1:Nat):Int):=om417
 rw[e2,e1,k2m,a2A,hx,dot_is]
 have hlt:pre.length+1+k<=(pre++47::(u++46::v)).length:=by simp;exact om291 hk
 rw[List.drop_append,a5P (by rw[a2F];exact om258),a2F,a4Y hlt,Nat.sub_self,a2V,a0D hk]
 show(S [u[k]]==S [46])=_
 rw[Bool.eq_iff_iff,a1T,S_inj,a1B]
 simp
noncomputable def solid (u:List Nat):Bool:=u.any fun c=>c !=46
theorem m9n {pre u v:List Nat}(h7:47∉u++46::v)(h:46∉v):extB (S (pre++47::(u++46::v)))=solid u:=by
 unfold extB
 rw[m7z h7,p3l h,a3N om547,Bool.true_and,show(((pre.length+1+u.length:Nat):Int)-(pre.length:Int)-1).toNat=u.length by exact om166]
 rw[Bool.eq_iff_iff,a6P]
 unfold solid
 rw[a6P]
 constructor
 ·rintro zu;refine x1a2 zu fun k hk hd=>?_
  have hk:=a3O.mp hk
  rw[m9p h7 hk,a0D hk]at hd
  exact⟨u[k],a2T hk,by simpa using hd⟩
 ·rintro zu;refine x1a2 zu fun c hc hd=>?_
  obtain⟨k,hk,rfl⟩:=List.getElem_of_mem hc
  refine⟨k,a3O.mpr hk,?_⟩
  rw[m9p h7 hk,a0D hk]
  simpa using hd
theorem ext_go {pre u v:List Nat}(h7:47∉u++46::v)(h:46∉v)(hs:solid u=true):k2n (S (pre++47::(u++46::v)))=S (pre++47::u)∧k0x (S (pre++47::(u++46::v)))=S (46::v):=by
 have e:=m9n (pre:=pre) h7 h
 rw[hs]at e
 unfold k2n k0x
 rw[if_pos e,if_pos e,p3l h,k6n,k9v]
 have el:pre++47::(u++46::v)=(pre++47::u)++46::v:=by simp
 have hl:pre.length+1+u.length=(pre++47::u).length:=by simp;exact om425
 rw[el,hl,List.take_left',List.drop_left']
 ·exact⟨rfl,rfl⟩
 ·rfl
 ·rfl
theorem p2g {pre u v:List Nat}(h7:47∉u++46::v)(h:46∉v)(hs:solid u=false):k0x (S (pre++47::(u++46::v)))=Str.ofString "":=by
 unfold k0x
 rw[if_neg (by rw[m9n h7 h,hs];decide)]
theorem m5l {u:List Nat}(hs:solid u=false):u.takeWhile (· ==46)=u:=by
 induction u with
 |nil=>rfl
 |cons a u ih=>
  unfold solid at hs
  rw[a5F,a6K]at hs
  rw[a1P,if_pos (by simpa using hs.1),ih hs.2]
theorem m7c {u:List Nat}(w:List Nat)(hs:solid u=true):(u++w).takeWhile (· ==46)=u.takeWhile (· ==46)∧(u.takeWhile (· ==46)).length<u.length:=by
 induction u with
 |nil=>cases hs
 |cons a u ih=>
  rw[a3H]
  by_cases ha:a=46
  ·have e:(a==46)=true:=by simpa using ha
   have hs2:solid u=true:=by
    unfold solid at hs⊢
    rw[a5F,show(a !=46)=false by simpa using ha,Bool.false_or]at hs
    exact hs
   obtain⟨h1,h2⟩:=ih hs2
   simp only[a1P,e,a4Q,h1,a0Q]
   exact⟨trivial,Nat.succ_lt_succ h2⟩
  ·have e:(a==46)=false:=by simpa using ha
   simp only[a1P,e]
   exact⟨rfl,Nat.succ_pos _⟩
theorem m0r {l:List Nat}{f:Nat ->Nat}(n:Nat)(h:∀k,l[f k]?≠some 46):((List.range n).map f).filter (fun k=>l[k]?==some 46)=[]:=by
 rw[List.filter_eq_nil_iff]
 intro k hk
 refine x1a2 (a0K.mp hk) fun j _ za=>?_;obtain rfl:=za
 simpa using h j
theorem m9u {l:List Nat}(h:46∉l):cutsF l=[l.length]:=by
 unfold cutsF
 rw[m0r _ fun k q=>h (a1D q)];rfl
theorem m9t {u v:List Nat}(h:46∉v)(hs:solid u=false):cutsF (u++46::v)=[(u++46::v).length]:=by
 have hb:bareF (u++46::v)=u.length+1:=by
  unfold bareF
  have hv:v.takeWhile (· ==46)=[]:=by
   cases v with
   |nil=>rfl
   |cons a v=>
    have:a≠46:=fun q=>h (q▸ .head _)
    rw[a1P,if_neg (by simpa using this)]
  have hu:∀(w:List Nat),(u++w).takeWhile (· ==46)=u++w.takeWhile (· ==46):=fun w=>by
   have:=m5l hs
   induction u with
   |nil=>rfl
   |cons a u ih=>
    have e:(a==46)=true:=by
     unfold solid at hs
     rw[a5F,a6K]at hs
     simpa using hs.1
    have hs2:solid u=false:=by
     unfold solid at hs⊢
     rw[a5F,a6K]at hs
     exact hs.2
    rw[a3H]
    simp only[a1P,e,a4Q]
    rw[ih hs2 (m5l hs2)];rfl
  rw[hu,a1P,if_pos (by decide),hv]
  simp
 unfold cutsF
 rw[hb,m0r _ fun k q=>?_]
 ·rfl
 ·rw[a2C om208,show u.length+1+k-u.length=k+1 by exact om50,a5E]at q
  exact h (a1D q)
theorem p5u {u v:List Nat}(h:46∉v)(hs:solid u=true):cutsF (u++46::v)=cutsF u++[(u++46::v).length]:=by
 obtain⟨h1,h2⟩:=m7c (46::v) hs
 have hb:bareF (u++46::v)=bareF u:=a3C List.length h1
 have hlt:bareF u<u.length:=h2
 unfold cutsF
 rw[hb]
 generalize bareF u=b at*
 have hl:(u++46::v).length-b=(u.length-b)+(1+v.length):=by simp;exact om54 hlt
 rw[hl,List.range_add,a0U,List.filter_append,a1X,List.range_add,a0U,List.filter_append]
 have p1:((List.range (u.length-b)).map (b+ ·)).filter (fun k=>(u++46::v)[k]?==some 46)=((List.range (u.length-b)).map (b+ ·)).filter (fun k=>u[k]?==some 46):=by
  refine List.filter_congr fun k hk=>?_
  refine x1a2 (a0K.mp hk) fun j hj za=>?_;obtain rfl:=za
  have hj:=a3O.mp hj
  rw[a4A (om34 hj)]
 have p2:((List.range 1).map ((b+ ·)∘((u.length-b)+ ·))).filter (fun k=>(u++46::v)[k]?==some 46)=[u.length]:=by
  have:b+(u.length-b)=u.length:=om243 hlt
  simp[List.range_succ,this]
 have p3:(((List.range v.length).map (1+ ·)).map ((b+ ·)∘((u.length-b)+ ·))).filter (fun k=>(u++46::v)[k]?==some 46)=[]:=by
  rw[a1X]
  refine m0r _ fun k q=>?_
  dsimp only[Function.comp]at q
  rw[a2C om200,show b+(u.length-b+(1+k))-u.length=k+1 by exact om59 hlt,a5E]at q
  exact h (a1D q)
 rw[p1,p2,p3]
 simp
theorem m2k {pre l:List Nat}(h:cutsF l=[l.length]):k3h (pre++47::l) l=[S (pre++47::l)]:=by
 unfold k3h
 rw[h]
 have e:(pre++47::l).length-l.length+l.length=(pre++47::l).length:=by simp;exact om150
 rw[List.headD_cons,e,a3S];rfl
theorem m6w (u:List Nat):∃c,cutsF u=c++[u.length]∧∀k∈cutsF u,k<=u.length:=by
 refine⟨_,rfl,fun k hk=>?_⟩
 rcases a0V.mp hk with hk|hk
 ·have:=(a5U.mp hk).2
  have:=(a1A.mp (by simpa using this)).1
  exact Nat.le_of_succ_le this
 ·rw[a0B.mp hk];exact a0W _
theorem m4i:∀(c:List Nat) (a b:Nat),((c++[a])++[b]).zip (((c++[a])++[b]).drop 1)=(c++[a]).zip ((c++[a]).drop 1)++[(a,b)]
 | [],a,b=>rfl
 | [x],a,b=>rfl
 |x::y::c,a,b=>by
  have ih:=m4i (y::c) a b
  simp only[a3H,List.drop_succ_cons,List.drop_zero,List.zip_cons_cons]at ih⊢
  rw[ih]
theorem p5o {pre u v:List Nat}(h:46∉v)(hs:solid u=true):k3h (pre++47::(u++46::v)) (u++46::v)=k3h (pre++47::u) u++[S (46::v)]:=by
 refine x1a2 (m6w u) fun c hc hle=>?_
 unfold k3h
 rw[p5u h hs,hc,m4i,a0U,<-hc]
 have hd:(cutsF u++[(u++46::v).length]).headD 0=(cutsF u).headD 0∧(cutsF u).headD 0<=u.length:=by
  cases q:cutsF u with
  |nil=>rw[q]at hc;simp at hc
  |cons x r=>exact⟨rfl,hle x (by rw[q];exact .head _)⟩
 have e1:(pre++47::(u++46::v)).length-(u++46::v).length=pre.length+1:=by simp;exact om111
 have e2:(pre++47::u).length-u.length=pre.length+1:=by simp;exact om195
 rw[hd.1,e1,e2]
 have e3:(pre++47::(u++46::v)).take (pre.length+1+(cutsF u).headD 0)=(pre++47::u).take (pre.length+1+(cutsF u).headD 0):=by
  rw[show pre++47::(u++46::v)=(pre++47::u)++46::v by simp,List.take_append_of_le_length (by have:=hd.2;rw[a0Y,a0Q];exact om337 this)]
 rw[e3,a3H]
 congr 1
 congr 1
 ·refine a2R fun q hq=>?_
  have h2:q.2<=u.length:=hle q.2 (a2S (List.of_mem_zip (show(q.1,q.2)∈_ from hq)).2)
  rw[List.take_append_of_le_length h2]
 ·rw[a0P,a6V]
  dsimp only
  rw[a3S,List.drop_left']
  rfl
theorem m4t:∀(n:Nat) (l pre:List Nat),47∉l ->l.count 46<=n ->peelTo n (S (pre++47::l))=k3h (pre++47::l) l
 |n,l,pre,h7,hc=>by
  by_cases hd:46∈l
  ·refine x2a2 (m9c hd) fun u v za hv=>?_;obtain rfl:=za
   cases n with
   |zero=>rw[Nat.le_zero,List.count_eq_zero]at hc;exact absurd hd hc
   |succ n=>
    cases hs:solid u with
    |false=>rw[k4c _ (p2g h7 hv hs),m2k (m9t hv hs)]
    |true=>
     obtain⟨e1,e2⟩:=ext_go (pre:=pre) h7 hv hs
     rw[peelTo,if_neg (by rw[e2];exact k2t (by simp)),e1,e2,p5o hv hs,m4t n u pre (fun q=>h7 (a0N _ q)) (by
      rw[a4Z,List.count_cons_self]at hc;exact om412 hc)]
  ·rw[k4c _ (p2h hd h7),m2k (m9u hd)]
theorem p3f {l m:List Nat}(h:AscL l)(hs:∀c∈m,c∈l):PyData.strOk (S m)=true:=m6i fun c hc=>h c (hs c hc)
theorem p5n {p l:List Nat}(hp:AscL p)(hl:AscL l):OkS (k3h p l):=by
 intro x hx
 unfold k3h at hx
 rcases a0G.mp hx with rfl|hx
 ·exact p3f hp fun c hc=>a3D hc
 ·refine x1a2 (a0K.mp hx) fun q _ za=>?_;obtain rfl:=za
  exact p3f hl fun c hc=>a3D (a2S hc)
theorem p3h {c:Nat}:∀ {cs:List (List Nat)},c∈gl [47] cs ->c=47∨∃d∈cs,c∈d
 | [],h=>by cases h
 | [d],h=>by
  rw[show gl [47] [d]=d from a2O d]at h
  exact .inr ⟨d,.head _,h⟩
 |d::e::r,h=>by
  rw[k2e (by simp)]at h
  rcases a0V.mp h with h|h
  ·rcases a0V.mp h with h|h
   ·exact .inr ⟨d,.head _,h⟩
   ·exact .inl (a0B.mp h)
  ·rcases p3h h with h| ⟨f,hf,h⟩
   ·exact .inl h
   ·exact .inr ⟨f,.tail _ hf,h⟩
theorem pf_all {l0 l1:List Nat}(n0:m4h l0)(n1:m4h l1)(hc:l1.count 46<=30):PF (S l0) (S l1):=by
 have hl:=p3g n0.no n1.no
 have e:pathL (compsL l0 l1)=m3w ([98]::(if l0=[]then []else [l0]))++47::l1:=k1t ([98]::(if l0=[]then []else [l0])) l1
 have ec:(S (pathL (compsL l0 l1))).cps.toList=pathL (compsL l0 l1):=by simp
 have asc:AscL (pathL (compsL l0 l1)):=fun c hc=>by
  rcases a0G.mp hc with rfl|hc
  ·decide
  ·rcases p3h hc with rfl| ⟨d,hd,hcd⟩
   ·decide
   ·rcases k3q hd with rfl| ⟨rfl,_⟩|rfl
    ·rw[a0B.mp hcd];decide
    ·exact n0.asc c hcd
    ·exact n1.asc c hcd
 refine p4k n0 n1 ?_ ?_
 ·rw[hl,ec,e,show(S l1).cps.toList=l1 by simp]
  exact m4t 30 l1 _ n1.no hc
 ·rw[hl,ec,show(S l1).cps.toList=l1 by simp]
  exact p5n asc n1.asc
noncomputable def cl:Bool ->List Nat ->List Nat
 |_,[]=>[]
 |o,c::r=>if c=45 then cl true r else(if o then [45]else [])++c::cl false r
noncomputable def mapC (c:Nat):Nat:=if c=32 then 95 else if k6f c then 45 else c
theorem k7g (y z:List Nat):∀(k:Nat) (l:List Nat),repl y z k l=repl y z 0 (l.drop k)
 |0,l=>by rw[List.drop_zero]
 |k+1,[]=>by simp[repl]
 |k+1,a::l=>by rw[repl,List.drop_succ_cons];exact k7g y z k l
theorem m0a (a b:Nat):∀l:List Nat,repl [a] [b] 0 l=l.map fun c=>if c=a then b else c
 | []=>rfl
 |c::r=>by
  have e:((c::r).take [a].length==[a])=(c==a):=by simp
  rw[repl,e,a0P]
  by_cases h:c=a
  ·rw[if_pos (a1T.mpr h),if_pos h]
   show [b]++repl [a] [b] 0 r=_
   rw[m0a a b r];rfl
  ·rw[if_neg (by simpa using h),if_neg h,m0a a b r]
theorem m2f (c:Nat):k6f c=true↔c=45∨c=47∨c=92∨c=58∨c=59∨c=34∨c=40∨c=41:=by
 unfold k6f
 simp only[Bool.or_eq_true,a1T,or_assoc]
theorem m8u (c:Nat):mapC c=45↔k6f c=true:=by
 unfold mapC
 constructor
 ·intro h
  split at h
  ·cases h
  ·split at h
   ·assumption
   ·rw[m2f];exact .inl h
 ·intro h
  rw[if_neg (by rintro rfl;cases h),if_pos h]
theorem p1y {c d:Nat}(h:d∈unkL):mapC c=d↔c=d:=by
 have hd:d≠95∧d≠45∧d≠32∧k6f d=false:=by
  unfold unkL at h
  simp only[a0G,a0Z,a5C]at h
  rcases h with rfl|rfl|rfl|rfl|rfl|rfl|rfl<;>decide
 refine an4 hd fun h1 h2 h3 h4=>?_
 unfold mapC
 constructor
 ·intro q
  split at q
  ·exact absurd q.symm h1
  ·split at q
   ·exact absurd q.symm h2
   ·exact q
 ·rintro rfl
  rw[if_neg h3,if_neg (by rw[h4];decide)]
theorem m4n:∀(m:List Nat),(∀d∈m,d∈unkL) ->∀l:List Nat,(l.map mapC).take m.length=m↔l.take m.length=m
 | [],_,l=>by simp
 |d::m,h,[]=>by simp
 |d::m,h,c::l=>by
  have ih:=m4n m (fun x hx=>h x (.tail _ hx)) l
  simp only[a0P,a0Q,List.take_succ_cons,List.cons.injEq,p1y (h d (.head _)),ih]
theorem k9y:∀(n:Nat) (l:List Nat) (o:Bool),l.length<=n ->scanF n l o=cl o (repl unkL [] 0 (l.map mapC))
 |0,[],_,_=>rfl
 |n+1,[],_,_=>rfl
 |0,_::_,_,h=>absurd h (a4S _)
 |n+1,c::r,o,h=>by
  have hr:r.length<=n:=Nat.le_of_succ_le_succ h
  have ht:=m4n unkL (fun _ h=>h) (c::r)
  have hl:unkL.length=7:=rfl
  rw[hl,a0P]at ht
  rw[scanF,a0P,repl,hl]
  by_cases hu:(c::r).take 7=unkL
  ·have e:repl unkL [] (7-1) (r.map mapC)=repl unkL [] 0 (((c::r).drop 7).map mapC):=by rw[k7g,<-a6D];rfl
   rw[if_pos hu,if_pos (a1T.mpr (ht.mpr hu)),k9y n _ o (by rw[a5I,a0Q];exact om247 hr),a2V,e]
  ·rw[if_neg hu,if_neg (show¬((mapC c::r.map mapC).take 7==unkL)=true from fun q=>hu (ht.mp (a1T.mp q))),cl]
   by_cases hs:k6f c=true
   ·rw[if_pos hs,if_pos ((m8u c).mpr hs),k9y n r true hr]
   ·rw[if_neg hs,if_neg (fun q=>hs ((m8u c).mp q)),k9y n r false hr]
    have:mapC c=if c=32 then 95 else c:=by
     unfold mapC;rw[if_neg hs]
    rw[this]
set_option tactic.hygienic true in
theorem p2q:∀(n:Nat) (l:List Nat) (o:Bool),l.length<=n ->cl o (dd1 l)=cl o l
 |_,[],_,_=>rfl
 |0,_::_,_,h=>absurd h (a4S _)
 |n+1,c::r,o,h=>by
  have hr:r.length<=n:=Nat.le_of_succ_le_succ h
  show cl o (repl [45,45] [45] 0 (c::r))=_
  rw[repl]
  split
  ·rename_i hm
   have hm:=a1T.mp hm
   cases r with
   |nil=>simp at hm
   |cons d t=>
    have:c=45∧d=45:=by simpa using hm
    obtain⟨rfl,rfl⟩:=this
    show cl o (45::repl [45,45] [45] 1 (45::t))=_
    rw[k7g,cl,if_pos rfl,cl,if_pos rfl,cl,if_pos rfl]
    exact p2q n t true (by simp at hr;exact om48 hr)
  ·rw[cl,cl]
   split
   ·exact p2q n r true hr
   ·rw[show cl false (repl [45,45] [45] 0 r)=cl false r from p2q n r false hr]
theorem m7k (c:Nat)(r:List Nat):k3t (c::r)=if k3t r=[]∧c=45 then []else c::k3t r:=by
 unfold k3t
 rw[List.reverse_cons,List.dropWhile_append]
 cases h:(r.reverse.dropWhile (· ==45))with
 |nil=>
  by_cases hc:c=45
  ·simp[hc]
  ·simp[hc]
 |cons a t=>simp
set_option tactic.hygienic true in
theorem p3o:∀(l:List Nat),dd1 l=l ->cl false l=k3t l
 | [],_=>rfl
 |c::r,h=>by
  have h':repl [45,45] [45] 0 (c::r)=c::r:=h
  rw[repl]at h'
  split at h'
  ·rename_i hm
   have:=a3C List.length h'
   have hle:=k5l (y:=[45,45]) (z:=[45]) (by decide) r 1
   have hm:=a3C List.length (a1T.mp hm)
   simp at this hm hle
   exact(om222 hm this hle).elim
  ·rename_i hm
   have hr:dd1 r=r:=by injection h'
   have ih:=p3o r hr
   rw[cl,m7k]
   by_cases hc:c=45
   ·subst hc
    rw[if_pos rfl]
    cases r with
    |nil=>rfl
    |cons d t=>
     have hd:d≠45:=fun q=>hm (by subst q;rfl)
     rw[cl,if_neg hd]at ih⊢
     rw[if_pos rfl]
     simp only[a3A,if_false,a2V]at ih
     rw[<-ih,if_neg (by simp)]
     rfl
   ·rw[if_neg hc,ih,if_neg (show¬(k3t r=[]∧c=45)from fun q=>hc q.2)];rfl
set_option tactic.hygienic true in
theorem dd_cl:∀(n:Nat) (l:List Nat),l.length<=n ->k3t (ddF n l)=cl false l
 |0,l,h=>by
  rw[a3G (Nat.le_zero.mp h)];rfl
 |n+1,l,h=>by
  rw[ddF]
  split
  ·rename_i e;exact(p3o l e).symm
  ·rename_i e
   have:(dd1 l).length<l.length:=by
    rcases m3h (y:=[45,45]) (z:=[45]) (by decide) l with q|q
    ·exact absurd q e
    ·exact q
   rw[dd_cl n (dd1 l) (om437 this h),p2q l.length l false (a0W _)]
theorem k5x {x y:Nat}{a b:String}(l:List Nat)(ha:(Str.ofString a).cps.toList=[x])(hb:(Str.ofString b).cps.toList=[y]):rp (S l) a b=S (l.map fun c=>if c=x then y else c):=by
 unfold rp
 rw[<-k2k (Txt.replace _ _ _),k2c (by rw[ha];simp),ha,hb,show(S l).cps.toList=l by simp,m0a]
theorem p0j (c:Nat):(fun c=>if c=41 then 45 else c) ((fun c=>if c=40 then 45 else c) ((fun c=>if c=34 then 45 else c) ((fun c=>if c=59 then 45 else c) ((fun c=>if c=58 then 45 else c) ((fun c=>if c=92 then 45 else c) ((fun c=>if c=47 then 45 else c) ((fun c=>if c=32 then 95 else c) c)))))))=mapC c:=by
 by_cases h:c∈[32,45,47,92,58,59,34,40,41]
 ·revert c;decide
 ·simp only[a0G,a0Z,a5C,not_or]at h
  refine an9 h fun h1 h2 h3 h4 h5 h6 h7 h8 h9=>?_
  have hs:¬k6f c=true:=by rw[m2f];exact om29 h7 h8 h9 h2 h3 h5 h6 h4
  unfold mapC
  simp only[if_neg h1,if_neg h3,if_neg h4,if_neg h5,if_neg h6,if_neg h7,if_neg h8,if_neg h9,if_neg hs]
theorem p4h (l:List Nat):platR (S l)=S (repl unkL [] 0 (l.map mapC)):=by
 unfold platR
 rw[k5x l (a:=" ") (b:="_") (x:=32) (y:=95) (by decide+kernel) (by decide+kernel),k5x _ (a:="/") (b:="-") (x:=47) (y:=45) (by decide+kernel) (by decide+kernel),k5x _ (a:="\\") (b:="-") (x:=92) (y:=45) (by decide+kernel) (by decide+kernel),k5x _ (a:=":") (b:="-") (x:=58) (y:=45) (by decide+kernel) (by decide+kernel),k5x _ (a:=";") (b:="-") (x:=59) (y:=45) (by decide+kernel) (by decide+kernel),k5x _ (a:="\"") (b:="-") (x:=34) (y:=45) (by decide+kernel) (by decide+kernel),k5x _ (a:="(") (b:="-") (x:=40) (y:=45) (by decide+kernel) (by decide+kernel),k5x _ (a:=")") (b:="-") (x:=41) (y:=45) (by decide+kernel) (by decide+kernel)]
 unfold rp
 have hu:(Str.ofString "unknown").cps.toList=unkL:=by decide+kernel
 have he:(Str.ofString "").cps.toList=[]:=by decide+kernel
 rw[<-k2k (Txt.replace _ _ _),k2c (by rw[hu];decide),hu,he]
 congr 2
 simp only[List.toList_toArray,a1X]
 exact a2R fun c _=>p0j c
theorem m7s:∀c,32<=c ->c<127 ->Unicode.isSpace c=(c==32):=by
 have h:∀c<127,32<=c ->Unicode.isSpace c=(c==32):=by decide+kernel
 exact fun c h1 h2=>h c h2 h1
theorem k4z {g h:Nat ->Bool}:∀ {l:List Nat},(∀c∈l,g c=h c) ->l.dropWhile g=l.dropWhile h
 | [],_=>rfl
 |a::l,e=>by
  rw[a3I,a3I,e a (.head _),k4z fun c hc=>e c (.tail _ hc)]
noncomputable def rst (l:List Nat):List Nat:=(l.reverse.dropWhile (· ==32)).reverse
theorem m3y (l:List Nat):l.drop (l.takeWhile (· ==32)).length=l.dropWhile (· ==32):=by
 induction l with
 |nil=>rfl
 |cons a r ih=>
  by_cases h:(a==32)=true
  ·rw[a1P,if_pos h,a3I,if_pos h];exact ih
  ·rw[a1P,if_neg h,a3I,if_neg h];rfl
theorem p1h (l:List Nat):l.take (l.length-(l.reverse.takeWhile (· ==32)).length)=rst l:=by
 unfold rst
 rw[<-m3y,List.reverse_drop,List.length_reverse,List.reverse_reverse]
theorem m9w (l:List Nat):k2j l=rst (l.dropWhile (· ==32)):=by
 unfold k2j
 rw[List.drop_take,<-m3y,<-p1h]
 unfold trail32 lead32
 congr 1
 rw[a5I]
 exact om61
theorem m7o {l:List Nat}(h:AscL l):Txt.strip (S l)=S (k2j l):=by
 have hg:∀c∈l,Unicode.isSpace c=(c==32):=fun c hc=>m7s c (h c hc).1 (h c hc).2
 unfold Txt.strip
 rw[m3a,m9w]
 simp only[a4Q]
 rw[k4z hg]
 unfold rst
 rw[k4z fun c hc=>hg c ((a5Q _).subset (a4F.mp hc))]
theorem m3g:∀(xs:List Str) (a:List Nat),(xs.foldl (fun a x=>k0v a x.cps.toList) (a,true)).1=a++((full xs).map fun x=>[45]++k2j x.cps.toList).flatten
 | [],a=>by simp[full]
 |x::xs,a=>by
  have hb:=k7n x
  rw[a1Y]
  unfold full
  rw[a5J,hb]
  by_cases e:x.cps.toList=[]
  ·rw[show k0v (a,true) x.cps.toList=(a,true)from if_pos e,a3N e]
   exact m3g xs a
  ·rw[show k0v (a,true) x.cps.toList=(a++([45]++k2j x.cps.toList),true)from by unfold k0v;rw[if_neg e];rfl,a2G e,m3g xs]
   simp only[Bool.not_false,a4Q,a0P,List.flatten_cons,a6E]
   rfl
theorem sj_gl:∀(xs:List Str),(xs.foldl (fun a x=>k0v a x.cps.toList) (([],false):List Nat×Bool)).1=gl [45] ((full xs).map fun x=>k2j x.cps.toList)
 | []=>rfl
 |x::xs=>by
  have hb:=k7n x
  rw[a1Y]
  unfold full
  rw[a5J,hb]
  by_cases e:x.cps.toList=[]
  ·rw[show k0v ([],false) x.cps.toList=([],false)from if_pos e,a3N e]
   exact sj_gl xs
  ·rw[show k0v ([],false) x.cps.toList=(k2j x.cps.toList,true)from by unfold k0v;rw[if_neg e];rfl,a2G e,m3g]
   simp only[Bool.not_false,a4Q,a0P]
   show _=k2j x.cps.toList++_
   rw[a1X];rfl
theorem p1q {xs:List Str}(h:∀x∈xs,Asc x):platJ xs=S (sjTo xs xs.length).1:=by
 unfold platJ sjTo
 rw[a3S,sj_gl,k7x,show(Str.ofString "-").cps.toList=[45]from by decide+kernel,a1X]
 congr 2
 refine a2R fun x hx=>?_
 have hx:=(a5U.mp hx).1
 show(Txt.strip x).cps.toList=_
 have:=m7o (l:=x.cps.toList) (h x hx)
 rw[k2k]at this
 rw[this]
theorem m1t {xs:List Str}(h:∀x∈xs,Asc x):m6h xs=m1r xs:=by
 unfold m6h m1r safeL
 rw[p1q h,p4h,show∀l:List Nat,(S l).cps.toList=l from fun l=>by simp,dd_cl _ _ (a0W _),k9y _ _ _ (a0W _)]
noncomputable def dig (c:Nat):Bool:=decide (48<=c∧c<=57)
noncomputable def valL (a:Nat)(m:List Nat):Nat:=m.foldl (fun a c=>a*10+(c-48)) a
theorem m4a:∀(m:List Nat) (a:Nat),m.foldl (fun a c=>a.bind fun v=>(digit? c).map fun d=>10*v+d) (some a)=if m.all dig then some (valL a m)else none
 | [],a=>rfl
 |c::m,a=>by
  rw[a1Y,List.all_cons]
  by_cases h:48<=c∧c<=57
  ·have e:dig c=true:=a3N h
   rw[e,Bool.true_and,show((some a).bind fun v=>(digit? c).map fun d=>10*v+d)=some (a*10+(c-48))from by
    unfold digit?;rw[if_pos h,Nat.mul_comm];rfl,m4a m]
   rfl
  ·have e:dig c=false:=a2G h
   rw[e,Bool.false_and,show((some a).bind fun v=>(digit? c).map fun d=>10*v+d)=none from by
    unfold digit?;rw[if_neg h];rfl,k5a]
   rfl
set_option tactic.hygienic true in
theorem p4c {c:Nat}(h:c≠95)(p:Array Nat×Bool):NumText.step 10 p c=if dig c then some (p.1.push (c-48),true)else none:=by
 unfold NumText.step
 rw[if_neg (by simpa using h)]
 by_cases hd:48<=c∧c<=57
 ·have e:dig c=true:=a3N hd
  have e2:NumText.digit? c=some (c-48):=by
   unfold NumText.digit?
   rw[if_pos (by simpa using hd)]
  rw[e,if_pos rfl,e2]
  exact if_pos (om336 hd)
 ·have e:dig c=false:=a2G hd
  rw[e,if_neg (by decide)]
  unfold NumText.digit?
  rw[if_neg (by simpa using hd)]
  split
  ·rename_i d hdd
   split at hdd
   ·rename_i h1
    injection hdd with hdd
    simp at h1
    rw[if_neg (om237 h1 hdd)]
   ·split at hdd
    ·rename_i h1
     injection hdd with hdd
     simp at h1
     rw[if_neg (om238 h1 hdd)]
    ·cases hdd
  ·rfl
theorem m5d:∀(m:List Nat) (p:Array Nat×Bool),95∉m ->m.foldlM (NumText.step 10) p=if m.all dig then some (p.1++(m.map (· -48)).toArray,p.2|| !m.isEmpty)else none
 | [],p,_=>by simp
 |c::m,p,h=>by
  rw[List.foldlM_cons,p4c (fun q=>h (q▸ .head _)),List.all_cons]
  cases e:dig c with
  |false=>simp
  |true=>
   simp only[a4Q,Bool.true_and]
   show(m.foldlM (NumText.step 10) (p.1.push (c-48),true))=_
   rw[m5d m _ fun q=>h (.tail _ q)]
   split<;>simp
theorem m9r {m:List Nat}(h:95∉m):NumText.digits? 10 m=if m.all dig&& !m.isEmpty then some (m.map (· -48)).toArray else none:=by
 unfold NumText.digits?
 rw[m5d m _ h]
 cases m.all dig with
 |false=>rfl
 |true=>
  cases m with
  |nil=>rfl
  |cons a m=>simp
theorem p3v (m:List Nat):(m.map (· -48)).toArray.foldl (fun acc d=>acc*10+d) 0=valL 0 m:=by
 unfold valL
 rw[List.foldl_toArray,List.foldl_map]
theorem m4s {s:Nat}{m:List Nat}(h:s≠32):rst (s::m)=s::rst m:=by
 unfold rst
 rw[List.reverse_cons,List.dropWhile_append]
 cases e:m.reverse.dropWhile (· ==32)with
 |nil=>simp[h]
 |cons a t=>simp
theorem p4d {l:List Nat}{c:Nat}(h:c∈rst l):c∈l:=by
 unfold rst at h
 exact a4F.mp ((a5Q _).subset (a4F.mp h))
noncomputable def bodyL (d:List Nat):Bool×List Nat:=match d with
 |45::r=>(true,rst r)
 |43::r=>(false,rst r)
 |d=>(false,rst d)
noncomputable def p1k (l:List Nat):Option Int:=match bodyL (l.dropWhile (· ==32))with
 | (b,m)=>if m.all dig&& !m.isEmpty then some (if b then -(valL 0 m:Int)else(valL 0 m:Int))else none
theorem p3b {p:Nat ->Bool}:∀ {l:List Nat},(∀c∈l,p c=true) ->l.takeWhile p=l
 | [],_=>rfl
 |a::l,h=>by rw[a1P,if_pos (h a (.head _)),p3b fun c hc=>h c (.tail _ hc)]
set_option tactic.hygienic true in
theorem m7y (d:List Nat):((NumText.sign d).1,rst (NumText.sign d).2)=bodyL d∧∀c∈(NumText.sign d).2,c∈d:=by
 cases d with
 |nil=>exact⟨rfl,fun _ h=>h⟩
 |cons c r=>
  by_cases h1:c=45
  ·subst h1;exact⟨rfl,fun _ h=>.tail _ h⟩
  ·by_cases h2:c=43
   ·subst h2;exact⟨rfl,fun _ h=>.tail _ h⟩
   ·have e1:NumText.sign (c::r)=(false,c::r):=by
     unfold NumText.sign
     split
     ·rename_i q;injection q with q _;exact absurd q h1
     ·rename_i q;injection q with q _;exact absurd q h2
     ·rfl
    have e2:bodyL (c::r)=(false,rst (c::r)):=by
     unfold bodyL
     split
     ·rename_i q;injection q with q _;exact absurd q h1
     ·rename_i q;injection q with q _;exact absurd q h2
     ·rfl
    rw[e1,e2];exact⟨rfl,fun _ h=>h⟩
theorem m2t {l:List Nat}(h:AscL l):∀c∈l,NumText.blank c=(c==32):=fun c hc=>by
 have:=h c hc
 unfold NumText.blank
 have e:(decide (9<=c)&&decide (c<=13))=false:=by
  rw[a3L];right;exact a2G (om499 this)
 rw[e,a6F]
theorem p2b {l:List Nat}(h:AscL l)(h95:95∉l)(hl:l.length<=4000):PySem.intText? (S l)=p1k l:=by
 have e1:numTextOf (S l)=l:=by
  have:(S l).cps.all (· <128)=true:=by
   rw[Array.all_eq_true']
   intro c hc
   have:=h c (by simpa using hc)
   simp;exact om480 this
  unfold numTextOf
  rw[if_pos this]
 have e2:numSeenOf (S l)=l:=by
  unfold numSeenOf
  rw[e1]
  refine p3b fun c hc=>?_
  have:=h c hc
  simp;exact om500 this
 have hd:(l.dropWhile NumText.blank)=l.dropWhile (· ==32):=k4z (m2t h)
 have hsub:∀c∈l.dropWhile (· ==32),c∈l:=fun c hc=>(a5Q _).subset hc
 have hsg:∀(b:Bool) (m:List Nat),(∀c∈m,c∈l) ->(m.reverse.dropWhile NumText.blank).reverse=rst m:=fun b m hm=>by
  unfold rst
  rw[k4z fun c hc=>m2t h c (hm c (a4F.mp hc))]
 obtain⟨k1,k0⟩:=m7y (l.dropWhile (· ==32))
 have k2:∀c∈(NumText.sign (l.dropWhile (· ==32))).2,c∈l:=fun c hc=>hsub c (k0 c hc)
 have hcore:NumText.core l=(bodyL (l.dropWhile (· ==32))).2:=by
  unfold NumText.core
  rw[hd,hsg true _ k2,<-k1]
 have hm:∀c∈(bodyL (l.dropWhile (· ==32))).2,c∈l:=fun c hc=>by
  rw[<-k1]at hc
  exact k2 c (p4d hc)
 have hlen:(bodyL (l.dropWhile (· ==32))).2.length<=l.length:=by
  rw[<-k1]
  have h1:∀m:List Nat,(rst m).length<=m.length:=fun m=>by
   unfold rst
   have:=(a5Q (p:=(· ==32)) (l:=m.reverse)).length_le
   simpa using this
  refine a0H (h1 _) (a0H ?_ (a5Q (p:=(· ==32)) (l:=l)).length_le)
  unfold NumText.sign
  split<;>simp_all
 have k3:(NumText.sign (l.dropWhile (· ==32))).1=(bodyL (l.dropWhile (· ==32))).1:=a3C (fun q=>q.1) k1
 unfold PySem.intText? p1k
 rw[e1,e2,if_pos (beq_self_eq_true _),hcore,hd,k3]
 generalize bodyL (l.dropWhile (· ==32))=q at*
 obtain⟨b,m⟩:=q
 dsimp only at hlen hm⊢
 rw[m9r fun q=>h95 (hm 95 q)]
 cases hc:(m.all dig&& !m.isEmpty)with
 |false=>rfl
 |true=>
  show(if(m.map (· -48)).toArray.size<=4300 then some (NumText.worth b (m.map (· -48)).toArray)else none)=some _
  rw[if_pos (by simp;exact om504 hl hlen)]
  unfold NumText.worth
  rw[p3v]
set_option tactic.hygienic true in
theorem p1w (l:List Nat):numF l=p1k l:=by
 have hcore:∀k,(l.take (l.length-trail32 l)).drop (lead32 l+k)=(rst (l.dropWhile (· ==32))).drop k:=fun k=>by
  rw[<-List.drop_drop,<-m9w];rfl
 have hlen:l.length-trail32 l=lead32 l+(rst (l.dropWhile (· ==32))).length:=by
  have h1:=a3C List.length (hcore 0)
  have h2:lead32 l+trail32 l<=l.length:=by
   have ha:trail32 l<=(l.drop (lead32 l)).length:=by
    unfold trail32
    refine a0H (a5O _).length_le ?_
    simp
   have hb:=m0l l
   rw[a5I]at ha
   exact(Nat.le_sub_iff_add_le' hb).mp ha
  simp only[a5I,a2F,Nat.add_zero]at h1
  exact om27 h1 h2
 have hd:l.drop (lead32 l)=l.dropWhile (· ==32):=m3y l
 have hc0:=hcore 0
 have hc1:=hcore 1
 have hget:l[lead32 l]?=(l.dropWhile (· ==32)).head?:=by
  rw[<-hd];simp
 have hne:∀c∈(l.dropWhile (· ==32)).head?,c≠32:=fun c hc q=>by
  subst q
  have:=List.head?_dropWhile_not (· ==32) l
  rw[hc]at this
  simp at this
 have hsg:signOf l=if lead32 l<l.length-trail32 l∧((l.dropWhile (· ==32)).head?=some 43∨(l.dropWhile (· ==32)).head?=some 45)then(lead32 l+1,(l.dropWhile (· ==32)).head?==some 45)else(lead32 l,false):=by
  unfold signOf;rw[hget]
 have hr:p1k l=match bodyL (l.dropWhile (· ==32))with
  | (b,m)=>if m.all dig&& !m.isEmpty then some (if b then -(valL 0 m:Int)else(valL 0 m:Int))else none:=rfl
 rw[hr]
 clear hr
 generalize l.dropWhile (· ==32)=d at*
 cases d with
 |nil=>
  have hsig:signOf l=(lead32 l,false):=hsg.trans (if_neg (by simp))
  unfold numF
  rw[hsig,if_pos (by rw[hlen];rfl)];rfl
 |cons c r=>
  have hc:=hne c rfl
  rw[m4s hc]at hlen hc0 hc1
  rw[List.drop_succ_cons,List.drop_zero]at hc1
  rw[List.drop_zero,Nat.add_zero]at hc0
  by_cases hs:c=43∨c=45
  ·have hsig:signOf l=(lead32 l+1,some c==some 45):=by
    exact hsg.trans (if_pos ⟨by rw[hlen];simp,by rcases hs with rfl|rfl<;>simp⟩)
   have hb:bodyL (c::r)=(c==45,rst r):=by
    rcases hs with rfl|rfl<;>rfl
   unfold numF
   rw[hsig,hb,hlen]
   rw[hlen]at hc1
   dsimp only
   rw[hc1]
   by_cases he:rst r=[]
   ·rw[if_pos (by rw[he];rfl),he];rfl
   ·have hl:(rst r).length≠0:=fun q=>he (a3G q)
    have hie:(rst r).isEmpty=false:=by cases q:rst r with|nil=>exact absurd q he|cons=>rfl
    rw[if_neg (by simp;omega),show digsTo (rst r)=_ from m4a (rst r) 0,hie]
    cases ha:(rst r).all dig with
    |false=>rfl
    |true=>rcases hs with rfl|rfl<;>rfl
  ·have hsig:signOf l=(lead32 l,false):=by
    exact hsg.trans (if_neg (by rintro⟨_,q⟩;simp at q;exact hs q))
   have hb:bodyL (c::r)=(false,c::rst r):=by
    unfold bodyL
    split
    ·rename_i q;injection q with q _;exact absurd (.inr q) hs
    ·rename_i q;injection q with q _;exact absurd (.inl q) hs
    ·rw[m4s hc]
   unfold numF
   rw[hsig,hb,hlen]
   rw[hlen]at hc0
   dsimp only
   rw[hc0,if_neg (by simp),show digsTo (c::rst r)=_ from m4a (c::rst r) 0]
   cases ha:(c::rst r).all dig with
   |false=>rfl
   |true=>rfl
theorem p5h {l:List Nat}(h:AscL l)(h95:95∉l)(hl:l.length<=4000):PySem.intText? (S l)=numF l:=(p2b h h95 hl).trans (p1w l).symm
theorem k5c (c:Nat)(r:List Nat):r.count 46<=(c::r).count 46:=(List.sublist_cons_self c r).count_le 46
set_option tactic.hygienic true in
theorem k4o:∀(n:Nat) (l:List Nat) (o:Bool),(scanF n l o).length<=l.length+(if o then 1 else 0)∧(scanF n l o).count 46<=l.count 46∧∀c∈scanF n l o,c=45∨c=95∨(c∈l∧k6f c=false)
 |0,l,o=>by
  rw[scanF];exact⟨a0R _,a0R _,fun c h=>nomatch h⟩
 |n+1,[],o=>by
  rw[scanF];exact⟨a0R _,a0R _,fun c h=>nomatch h⟩
 |n+1,c::r,o=>by
  rw[scanF]
  split
  ·refine an3 (k4o n ((c::r).drop 7) o) fun h1 h2 h3=>?_
   refine⟨a0H h1 (Nat.add_le_add_right (by rw[a5I];exact Nat.sub_le _ _) _),a0H h2 ((List.drop_sublist 7 (c::r)).count_le 46),fun d hd=>?_⟩
   rcases h3 d hd with h|h|h
   ·exact .inl h
   ·exact .inr (.inl h)
   ·exact .inr (.inr ⟨a2S h.1,h.2⟩)
  ·split
   ·refine an3 (k4o n r true) fun h1 h2 h3=>?_
    refine⟨a0H h1 (a4J _ _),a0H h2 (k5c c r),fun d hd=>?_⟩
    rcases h3 d hd with h|h|h
    ·exact .inl h
    ·exact .inr (.inl h)
    ·exact .inr (.inr ⟨.tail _ h.1,h.2⟩)
   ·rename_i hs
    refine an3 (k4o n r false) fun h1 h2 h3=>?_
    have e:((if o then [45]else []):List Nat).count 46=0:=by cases o<;>rfl
    have e2:((if o then [45]else []):List Nat).length=if o then 1 else 0:=by cases o<;>rfl
    refine⟨?_,?_,fun d hd=>?_⟩
    ·rw[a0Y,e2,a0Q,a0Q]
     have:(scanF n r false).length<=r.length:=h1
     exact om330 this
    ·rw[a4Z,e,Nat.zero_add]
     by_cases h:c=32
     ·rw[if_pos h,List.count_cons_of_ne (by decide)]
      exact a0H h2 (k5c c r)
     ·rw[if_neg h,List.count_cons,List.count_cons]
      exact Nat.add_le_add_right h2 _
    ·rcases a0V.mp hd with h|h
     ·cases o
      ·cases h
      ·exact .inl (a0B.mp h)
     ·rcases a0G.mp h with h|h
      ·by_cases h3:c=32
       ·rw[if_pos h3]at h;exact .inr (.inl h)
       ·rw[if_neg h3]at h;subst h
        exact .inr (.inr ⟨.head _,by simpa using hs⟩)
      ·rcases h3 d h with h|h|h
       ·exact .inl h
       ·exact .inr (.inl h)
       ·exact .inr (.inr ⟨.tail _ h.1,h.2⟩)
theorem m9v (l:List Nat):(k2j l).length<=l.length∧(k2j l).count 46<=l.count 46:=
 ⟨k8b l,a0H ((List.drop_sublist _ _).count_le 46) ((List.take_sublist _ _).count_le 46)⟩
theorem k7a (a:List Nat×Bool)(x:List Nat):(k0v a x).1.length<=a.1.length+(x.length+1)∧(k0v a x).1.count 46<=a.1.count 46+x.count 46:=by
 obtain⟨h1,h2⟩:=m9v x
 unfold k0v
 split
 ·exact⟨a4J _ _,a4J _ _⟩
 ·have e:((if a.2 then [45]else []):List Nat).count 46=0∧((if a.2 then [45]else []):List Nat).length<=1:=by cases a.2<;>decide
  constructor
  ·rw[a0Y,a0Y];have:=e.2;exact om269 this h1
  ·rw[a4Z,a4Z,e.1,Nat.zero_add]
   exact Nat.add_le_add_left h2 _
theorem m1q {xs:List Str}(h:∀x∈xs,Asc x):(safeL xs).length<=(sjTo xs xs.length).1.length∧(safeL xs).count 46<=(sjTo xs xs.length).1.count 46∧AscL (safeL xs)∧47∉safeL xs:=by
 refine an3 (k4o (sjTo xs xs.length).1.length (sjTo xs xs.length).1 false) fun h1 h2 h3=>?_
 refine⟨h1,h2,fun c hc=>?_,fun hc=>?_⟩
 ·rcases h3 c hc with rfl|rfl|q
  ·decide
  ·decide
  ·exact m1m h _ c q.1
 ·rcases h3 47 hc with q|q|q
  ·cases q
  ·cases q
  ·cases q.2
theorem p1f {a b:Str}(ha:Asc a)(hb:Asc b)(hl:a.length+b.length<=98):m4h (safeL [a,b]):=by
 refine an4 (m1q (xs:=[a,b]) (fun x hx=>by rcases a0G.mp hx with rfl|hx;exact ha;rw[a0B.mp hx];exact hb)) fun h1 h2 h3 h4=>?_
 obtain⟨q1,_⟩:=k7a ([],false) a.cps.toList
 obtain⟨q2,_⟩:=k7a (k0v ([],false) a.cps.toList) b.cps.toList
 have e1:a.length=a.cps.toList.length:=rfl
 have e2:b.length=b.cps.toList.length:=rfl
 refine⟨h4,a0H h1 (a0H q2 ?_),h3⟩
 simp only[a3F]at q1
 exact om174 hl e1 e2 q1
theorem p1g {a:Str}(ha:Asc a)(hl:a.length<=99):m4h (safeL [a])∧(safeL [a]).count 46<=a.cps.toList.count 46:=by
 refine an4 (m1q (xs:=[a]) (fun x hx=>by rw[a0B.mp hx];exact ha)) fun h1 h2 h3 h4=>?_
 obtain⟨q1,q2⟩:=k7a ([],false) a.cps.toList
 have e1:a.length=a.cps.toList.length:=rfl
 simp only[a3F,List.count_nil]at q1 q2
 refine⟨⟨h4,a0H h1 (a0H q1 ?_),h3⟩,a0H h2 (a0H q2 om510)⟩
 exact om347 e1 hl
theorem gl_nil:∀cs:List (List Nat),gl [] cs=cs.flatten
 | []=>rfl
 |c::cs=>by
  show c++((cs.map fun d=>[]++d).flatten)=_
  rw[List.flatten_cons]
  congr 2
  exact(a2R fun d _=>a2V d).trans (List.map_id' cs)
structure Txt7 (n:Nat)(x:Str):Prop where
 asc:Asc x
 nou:95∉x.cps.toList
 len:x.cps.toList.length<=7*n
 dots:x.cps.toList.count 46<=2*n
theorem p1x:∀y∈issuesL++piecesL,(∀c∈y.cps.toList,32<=c∧c<127∧c≠95)∧y.cps.toList.length<=7∧y.cps.toList.count 46<=2:=by decide+kernel
theorem m2j:∀ts:List Str,(∀y∈ts,y∈issuesL++piecesL) ->(∀c∈(ts.map fun p=>p.cps.toList).flatten,32<=c∧c<127∧c≠95)∧(ts.map fun p=>p.cps.toList).flatten.length<=7*ts.length∧(ts.map fun p=>p.cps.toList).flatten.count 46<=2*ts.length
 | [],_=>⟨fun _ h=>(nomatch h),a0W _,a0W _⟩
 |t::ts,h=>by
  refine an3 (p1x t (h t (.head _))) fun a1 a2 a3=>?_
  refine an3 (m2j ts fun y hy=>h y (.tail _ hy)) fun b1 b2 b3=>?_
  rw[a0P,List.flatten_cons]
  refine⟨fun c hc=>(a0V.mp hc).elim (a1 c) (b1 c),?_,?_⟩
  ·rw[a0Y,a0Q];exact om273 b2 a2
  ·rw[a4Z,a0Q];exact om275 b3 a3
theorem m0h {m:List Str}{n:Nat}{x:Str}(hm:∀y∈m,y∈issuesL++piecesL)(h:m5p m n x):Txt7 n x:=by
 refine x1a3 h fun l za h2 zb=>?_;clear h;obtain rfl:=za;obtain rfl:=zb
 refine an3 (m2j l fun y hy=>hm y (h2 y hy)) fun b1 b2 b3=>?_
 have e:(Txt.join (Str.ofString "") l).cps.toList=(l.map fun p=>p.cps.toList).flatten:=by
  rw[k7x,show(Str.ofString "").cps.toList=[]from by decide+kernel,gl_nil]
 exact⟨fun c hc=>by rw[e]at hc;exact⟨(b1 c hc).1,(b1 c hc).2.1⟩,fun hc=>by rw[e]at hc;exact(b1 _ hc).2.2 rfl,by rw[e];exact b2,by rw[e];exact b3⟩
theorem k6k (n:Nat):Txt7 n (Str.ofString ""):=by
 have e:(Str.ofString "").cps.toList=[]:=by decide+kernel
 exact⟨fun c hc=>(by rw[e]at hc;cases hc),fun hc=>(by rw[e]at hc;cases hc),by rw[e];exact a0R _,by rw[e];exact a0R _⟩
theorem k8w {n:Nat}{x:Str}(h:Txt7 n x):Txt7 n (blankF x):=by
 unfold blankF;split
 ·exact k6k n
 ·exact h
theorem p4g {k i n b:Str}(h:IsRec k i n b):Txt7 3 (blankF i)∧Txt7 5 (blankF n)∧Txt7 2 b:=
 ⟨k8w (m0h (fun _ h=>a0N _ h) h.2.1),k8w (m0h (fun _ h=>a0L _ h) h.2.2.1),m0h (fun _ h=>a0L _ h) h.2.2.2⟩
theorem k0w {c:Nat}:∀ {l p:List Nat} {d:Nat},p∈splitL c l ->d∈p ->d∈l∧d≠c
 | [],p,d,h,hd=>by rw[a0B.mp h]at hd;cases hd
 |a::r,p,d,h,hd=>by
  by_cases e:a=c
  ·rw[splitL,if_pos e]at h
   rcases a0G.mp h with rfl|h
   ·cases hd
   ·exact⟨.tail _ (k0w h hd).1,(k0w h hd).2⟩
  ·refine x2a2 (k4b e r) fun q qs e1 e2=>?_
   rw[e2]at h
   rcases a0G.mp h with rfl|h
   ·rcases a0G.mp hd with rfl|hd
    ·exact⟨.head _,e⟩
    ·have:=k0w (p:=q) (e1▸List.Mem.head _) hd
     exact⟨.tail _ this.1,this.2⟩
   ·have:=k0w (p:=p) (e1▸List.Mem.tail _ h) hd
    exact⟨.tail _ this.1,this.2⟩
theorem k9c (c:Nat):∀l:List Nat,((splitL c l).map List.length).sum<=l.length
 | []=>a0W _
 |a::r=>by
  have ih:=k9c c r
  by_cases e:a=c
  ·rw[splitL,if_pos e,a0P,a6B]
   simp only[a3F,a0Q];exact om450 ih
  ·refine x2a2 (k4b e r) fun q qs e1 e2=>?_
   rw[e1]at ih
   rw[e2,a0P,a6B]
   rw[a0P,a6B]at ih
   simp only[a0Q];exact om387 ih
theorem m6q (v:Int):∀c∈(istr v).cps.toList,c=45∨(48<=c∧c<=57):=by
 have dg:∀ {c:Char},c.isDigit=true ->48<=c.toNat∧c.toNat<=57:=by
  intro c h
  simp only[Char.isDigit,a2Y,a1B]at h
  have e:c.val.toNat=c.toNat:=rfl
  have h1:48<=c.val.toNat:=by simpa using UInt32.le_iff_toNat_le.mp h.1
  have h2:c.val.toNat<=57:=by simpa using UInt32.le_iff_toNat_le.mp h.2
  exact om343 h1 e h2
 have nat:∀n:Nat,∀c∈(Nat.repr n).toList,48<=c.toNat∧c.toNat<=57:=by
  intro n c hc
  rw[Nat.toList_repr]at hc
  exact dg (Nat.isDigit_of_mem_toDigits (by decide) (by decide) hc)
 intro c hc
 unfold istr at hc
 rw[Str.ofString_eq_toList]at hc
 simp only[List.toList_toArray,a0K]at hc
 refine x1a2 hc fun d hd za=>?_;clear hc;obtain rfl:=za
 rw[Int.toString_eq_repr,Int.repr_eq_if]at hd
 split at hd
 ·exact .inr (nat _ d hd)
 ·rw[String.toList_append,a0V]at hd
  rcases hd with hd|hd
  ·have:d= '-':=by simpa using hd
   subst this;exact .inl rfl
  ·exact .inr (nat _ d hd)
theorem m9h {v:Int}{k:Nat}(h:v.natAbs<10^(k+1)):(istr v).length<=k+2:=by
 unfold istr
 rw[ofString_len]
 cases v with
 |ofNat n=>
  have:=k4r (n:=n) h
  show(Nat.repr n).length<=_
  exact a3W this
 |negSucc n=>
  have:=k4r (n:=n+1) h
  show("-"++Nat.repr (n+1)).length<=_
  rw[String.length_append]
  have:"-".length=1:=rfl
  exact om324 this (by assumption)
theorem m0m {p:List Nat}{v:Int}(h:numF p=some v):(istr v).length<=p.length+2∧(istr (v-3)).length<=p.length+2:=by
 have h1:=m1w h
 have h2:10^(p.length+1)=10^p.length*10:=Nat.pow_succ ..
 have h3:0<10^p.length:=Nat.pow_pos (by decide)
 generalize 10^p.length=P at*
 exact⟨m9h (om270 h1 h2),m9h (om81 h1 h2)⟩
structure PartOk (p:Str):Prop where
 asc:Asc p
 nou:95∉p.cps.toList
 dots:p.cps.toList.count 46<=4
theorem m2e (v:Int):PartOk (istr v):=by
 have h:=m6q v
 refine⟨fun c hc=>?_,fun hc=>?_,?_⟩
 ·rcases h c hc with rfl|q
  ·decide
  ·exact om380 q
 ·rcases h _ hc with q|q<;>(first|exact(om597 q).elim|exact(om595 q).elim)
 ·rw[List.count_eq_zero.mpr]
  ·decide
  ·intro hc;rcases h _ hc with q|q<;>(first|exact(om598 q).elim|exact(om596 q).elim)
theorem k5b {x:Str}(ha:Asc x)(hu:95∉x.cps.toList):∀p∈cutF x,PartOk p:=by
 intro p hp
 rw[k1v,k7b]at hp
 refine x1a2 (a0K.mp hp) fun q hq za=>?_;obtain rfl:=za
 have e:(S q).cps.toList=q:=by simp
 refine⟨fun c hc=>?_,fun hc=>?_,?_⟩
 ·rw[e]at hc;exact ha c (k0w hq hc).1
 ·rw[e]at hc;exact hu (k0w hq hc).1
 ·rw[e,List.count_eq_zero.mpr]
  ·decide
  ·intro hc;exact(k0w hq hc).2 rfl
noncomputable def sumL (ts:List Str):Nat:=(ts.map Str.length).sum
theorem m4p (x:Str):sumL (cutF x)<=x.length:=by
 have:=k9c 46 x.cps.toList
 unfold sumL
 rw[k1v,k7b,a1X,show(Str.length∘S)=List.length from funext fun q=>k2g q]
 exact this
theorem k7w:∀(ts:List Str),(∀p∈ts,PartOk p) ->Asc (Txt.join (Str.ofString ".") ts)∧95∉(Txt.join (Str.ofString ".") ts).cps.toList∧(Txt.join (Str.ofString ".") ts).length<=sumL ts+ts.length∧(Txt.join (Str.ofString ".") ts).cps.toList.count 46<=5*ts.length:=by
 intro ts h
 have key:∀ts:List Str,(∀p∈ts,PartOk p) ->(∀c∈gl [46] (ts.map fun p=>p.cps.toList),32<=c∧c<127∧c≠95)∧(gl [46] (ts.map fun p=>p.cps.toList)).length<=sumL ts+ts.length∧(gl [46] (ts.map fun p=>p.cps.toList)).count 46<=5*ts.length:=by
  intro ts
  induction ts with
  |nil=>exact fun _=>⟨fun _ h=>(nomatch h),a0R _,a0R _⟩
  |cons t ts ih=>
   intro h
   have ht:=h t (.head _)
   have e1:t.length=t.cps.toList.length:=rfl
   refine an3 (ih fun y hy=>h y (.tail _ hy)) fun b1 b2 b3=>?_
   have one:∀c∈t.cps.toList,32<=c∧c<127∧c≠95:=fun c hc=>⟨(ht.asc c hc).1,(ht.asc c hc).2,fun q=>ht.nou (q▸hc)⟩
   have hd:=ht.dots
   have es:sumL (t::ts)=t.length+sumL ts:=by unfold sumL;rw[a0P,a6B]
   cases ts with
   |nil=>
    rw[show gl [46] ([t].map fun p=>p.cps.toList)=t.cps.toList from a2O _]
    exact⟨one,by rw[es];exact om348 e1,by simp only[a0Q,a3F];exact a3W hd⟩
   |cons u us=>
    rw[a0P,k2e (by simp)]
    refine⟨fun c hc=>?_,?_,?_⟩
    ·rcases a0V.mp hc with hc|hc
     ·rcases a0V.mp hc with hc|hc
      ·exact one c hc
      ·rw[a0B.mp hc];decide
     ·exact b1 c hc
    ·rw[a0Y,a0Y,es]
     simp only[a0Q,a3F]at*;exact om212 e1 b2
    ·rw[a4Z,a4Z,show List.count 46 [46]=1 from rfl]
     simp only[a0Q]at*;exact om190 b3 hd
 refine an3 (key ts h) fun b1 b2 b3=>?_
 have e:(Txt.join (Str.ofString ".") ts).cps.toList=gl [46] (ts.map fun p=>p.cps.toList):=by
  rw[k7x,p5q]
 exact⟨fun c hc=>by rw[e]at hc;exact⟨(b1 c hc).1,(b1 c hc).2.1⟩,fun hc=>by rw[e]at hc;exact(b1 _ hc).2.2 rfl,by show(Txt.join (Str.ofString ".") ts).cps.toList.length<=_;rw[e];exact b2,by rw[e];exact b3⟩
theorem m0e {p:Str}(ha:Asc p)(hu:95∉p.cps.toList)(hl:p.length<=4000):PySem.intText? p=numF p.cps.toList:=by
 have:=p5h (l:=p.cps.toList) ha hu hl
 rwa[k2k]at this
theorem k4h (x b:Str):verParts x b=normP x b:=by
 unfold verParts normP
 rw[k1v]
 by_cases h:b=Str.ofString ""
 ·rw[if_neg (by simpa using h),if_pos h]
 ·rw[if_pos (by simpa using h),if_neg h]
theorem p1a {x b:Str}(hp:∀p∈normP x b,PySem.intText? p=numF p.cps.toList):verF x b=k0o x b:=by
 have e:=k4h x b
 have e2:(normP x b).map reread=(numsOf (normP x b)).map istr:=by
  unfold numsOf;rw[a1X]
  exact a2R fun p h=>by unfold reread;rw[hp p h,k5r];rfl
 have e3:(∀p∈normP x b,readable p=true)↔allNum (normP x b)=true:=by
  unfold allNum;rw[List.all_eq_true]
  constructor
  ·intro h p hq;have:=h p hq;unfold readable at this;rwa[hp p hq]at this
  ·intro h p hq;have:=h p hq;unfold readable;rwa[hp p hq]
 unfold verF k0o
 rw[e]
 by_cases c:allNum (normP x b)=true
 ·rw[if_pos (e3.mpr c),if_pos c,e2]
 ·rw[if_neg (fun q=>c (e3.mp q)),if_neg c]
theorem m1s {p:Str}(ha:Asc p)(hl:p.length<=200):(reprText p).length<=sizeLine:=
 a0H (StrLaws.reprText_len p fun c hc=>Nat.lt_trans (ha c hc).2 (by decide)) (a0H (show _<=2002 by exact om413 hl) (by decide))
structure VerOk (x b:Str):Prop where
 zv:∀p∈verParts x b,(reprText p).length<=sizeLine
 iv:∀p∈verParts x b,∀n,PySem.intText? p=some n ->n.natAbs.log2<1920
 rv:∀p∈verParts x b,readable p=true ->(reread p).length<=1000
 eq:verF x b=k0o x b
 part:∀p∈normP x b,PartOk p
theorem p3a {x b:Str}(ax:Asc x)(ux:95∉x.cps.toList)(lx:x.length<=200)(hb:PartOk b)(lb:b.length<=200):VerOk x b:=by
 have hpt:∀p∈normP x b,PartOk p∧p.length<=200:=by
  intro p hp
  have hc:∀p∈cutF x,PartOk p∧p.length<=200:=fun p hp=>⟨k5b ax ux p hp,a0H (k3i x p hp) lx⟩
  unfold normP at hp
  split at hp
  ·exact hc p hp
  ·rcases a0V.mp hp with hp|hp
   ·exact hc p hp
   ·rw[a0B.mp hp];exact⟨hb,lb⟩
 have hn:∀p∈normP x b,PySem.intText? p=numF p.cps.toList:=fun p hp=>m0e (hpt p hp).1.asc (hpt p hp).1.nou (a0H (hpt p hp).2 (by decide))
 have hi:∀p∈normP x b,∀n,PySem.intText? p=some n ->n.natAbs.log2<1920:=fun p hp n h=>m4v ((hn p hp).symm.trans h) (hpt p hp).2
 refine⟨?_,?_,?_,p1a hn,fun p hp=>(hpt p hp).1⟩
 ·rw[k4h];exact fun p hp=>m1s (hpt p hp).1.asc (hpt p hp).2
 ·rw[k4h];exact hi
 ·rw[k4h]
  intro p hp hr
  unfold readable at hr
  obtain⟨v,hv⟩:=a6T.mp hr
  unfold reread
  rw[hv,k5r]
  exact m0n (hi p hp v hv)
theorem k1c (t:Str)(ts:List Str):sumL (t::ts)=t.length+sumL ts:=by unfold sumL;rw[a0P,a6B]
theorem k6y:∀(n:Nat) (ts:List Str),sumL (ts.take n)<=sumL ts
 |0,_=>a0R _
 |_+1,[]=>a0W _
 |n+1,t::ts=>by
  have:=k6y n ts
  rw[List.take_succ_cons,k1c,k1c];exact Nat.add_le_add_iff_left.mpr this
theorem m4o {g:Str ->Str}:∀(ts:List Str),(∀p∈ts,(g p).length<=p.length+2) ->sumL (ts.map g)<=sumL ts+2*ts.length
 | [],_=>a0W _
 |t::ts,h=>by
  have h1:=h t (.head _)
  have:=m4o ts fun p hp=>h p (.tail _ hp)
  rw[a0P,k1c,k1c,a0Q];exact om192 this h1
theorem m4q:∀(a b:List Str),sumL (a++b)=sumL a+sumL b
 | [],b=>(Nat.zero_add _).symm
 |t::a,b=>by rw[a3H,k1c,k1c,m4q a b];exact om409
theorem m8p {x b:Str}(h:VerOk x b):Asc (k0o x b)∧95∉(k0o x b).cps.toList∧(k0o x b).length<=x.length+b.length+9∧(k0o x b).cps.toList.count 46<=15:=by
 have hs:sumL (normP x b)<=x.length+b.length:=by
  have:=m4p x
  unfold normP
  split
  ·exact Nat.le_add_right_of_le this
  ·rw[m4q,k1c,show sumL []=0 from rfl];exact om424 this
 have key:∃ts:List Str,k0o x b=Txt.join (Str.ofString ".") ts∧(∀p∈ts,PartOk p)∧ts.length<=3∧sumL ts<=x.length+b.length+6:=by
  by_cases c:allNum (normP x b)=true
  ·refine⟨_,by unfold k0o;rw[if_pos c],fun p hp=>?_,List.length_take_le _ _,?_⟩
   ·refine x1a2 (a0K.mp (a3D hp)) fun v _ za=>?_;obtain rfl:=za
    exact m2e v
   ·unfold numsOf
    rw[a1X,<-a6C]
    have hl:((normP x b).take 3).length<=3:=List.length_take_le _ _
    have:=k6y 3 (normP x b)
    refine a0H (m4o _ fun p hp=>?_) (show _<=_ by exact om202 hs hl this)
    have hq:=List.all_eq_true.mp c p (a3D hp)
    obtain⟨v,hv⟩:=a6T.mp hq
    show(istr ((numF p.cps.toList).getD 0)).length<=_
    rw[hv]
    exact(m0m hv).1
  ·refine⟨_,by unfold k0o;rw[if_neg c],fun p hp=>h.part p (a3D hp),List.length_take_le _ _,?_⟩
   have:=k6y 3 (normP x b)
   exact om369 hs this
 refine x1a4 key fun ts e hp hl hm=>?_
 refine an4 (k7w ts hp) fun b1 b2 b3 b4=>?_
 rw[e]
 exact⟨b1,b2,by exact om219 hm b3 hl,by exact om344 b4 hl⟩
theorem m8v (r:Str):(r.cps.toList<(T "5").cps.toList)↔k1x (T "SunOS") r=false:=by
 rw[show(T "5").cps.toList=[53]from by decide+kernel]
 cases e:r.cps.toList with
 |nil=>
  have:r=Str.ofString "":=by rw[<-k2k r,e,S_nil]
  exact⟨fun _=>p0o (by rw[this];decide+kernel),fun _=>List.nil_lt_cons _ _⟩
 |cons c t=>
  have h0:(Txt.item r 0).cps.getD 0 0=c:=by
   have hr:r.cps[0]?=some c:=by rw[<-a5X,e];rfl
   have:=k0p hr
   rw[show Txt.item r 0=⟨#[c]⟩from this];rfl
  have hne:(r !=Str.ofString "")=true:=by rw[k7n,e];rfl
  rw[List.cons_lt_cons_iff]
  constructor
  ·intro h
   refine p0n ?_
   rw[h0]
   rcases h with h|h
   ·exact om491 h
   ·exact absurd h.2 (List.not_lt_nil _)
  ·intro h
   by_cases q:53<=c
   ·rw[p2y (by decide+kernel) hne (by rw[h0];exact Int.toNat_le.mp q)]at h;cases h
   ·exact .inl (Nat.lt_of_not_le q)
theorem p5y {r:Str}(ha:Asc r)(hu:95∉r.cps.toList)(hl:r.length<=200):k3k r=Txt.join (Str.ofString ".") (k1j r):=by
 have hn:∀p∈cutF r,PySem.intText? p=numF p.cps.toList:=fun p hp=>m0e (k5b ha hu p hp).asc (k5b ha hu p hp).nou (a0H (k3i r p hp) (a0H hl (by decide)))
 unfold k3k k1j
 rw[show Txt.split r (T ".")=cutF r from(k1v r).symm]
 have hj:Txt.join (Str.ofString ".") (cutF r)=r:=by rw[k1v];exact(a5S _ _).trans (StrLaws.join_split r (Str.ofString "."))
 cases e:cutF r with
 |nil=>have:=m0u r;rw[e]at this;cases this
 |cons p ps=>
  rw[e]at hj hn
  dsimp only
  rw[hn p (.head _),List.getD_cons_zero]
  cases numF p.cps.toList with
  |none=>exact hj.symm
  |some v=>dsimp only;rw[k5r];rfl
theorem p1z {k:Str}(h:k∈kindsL):blankF k=T "SunOS"∨blankF k=T "win32"∨blankF k=T ""∨blankF k=T "Linux"∨blankF k=T "win16":=by
 revert k;decide+kernel
structure p6a (k r v:Str):Prop where
 al:k1w k r v=[k1k k r,k1n k r,v]
 zr:∀p∈Txt.split r (T "."),(reprText p).length<=sizeLine
 ir:∀p∈Txt.split r (T "."),∀n,PySem.intText? p=some n ->(n-3).natAbs.log2<1920∧(PySem.Str.ofString (toString (n-3))).length<=1000
 asc0:Asc (k1k k r)
 asc1:Asc (k1n k r)
 l0:(k1k k r).length<=7
 l1:(k1n k r).length<=2*r.length+3
 lk:k.length<=7
theorem k4w:∀x∈[T "Solaris",T "SunOS",T "Windows",T "",T "Linux"],(∀c∈x.cps.toList,32<=c∧c<127)∧x.length<=7:=by decide+kernel
theorem p5z {r:Str}(ha:Asc r)(hu:95∉r.cps.toList):Asc (Txt.join (Str.ofString ".") (k1j r))∧(Txt.join (Str.ofString ".") (k1j r)).length<=2*r.length+3:=by
 have hc:=k5b ha hu
 have hs:=m4p r
 have hl:=m0v r
 unfold k1j
 cases e:numF ((cutF r).getD 0 Str.empty).cps.toList with
 |none=>
  refine an4 (k7w (cutF r) hc) fun b1 _ b3 _=>?_
  exact⟨b1,by dsimp only;exact om229 hl b3 hs⟩
 |some v=>
  dsimp only
  cases q:cutF r with
  |nil=>have:=m0u r;rw[q]at this;cases this
  |cons p ps=>
   rw[q]at e hc hs hl
   have hv:=(m0m (p:=p.cps.toList) e).2
   have e1:p.length=p.cps.toList.length:=rfl
   obtain⟨b1,_,b3,_⟩:=k7w (istr (v-3)::ps) fun y hy=>by
    rcases a0G.mp hy with rfl|hy
    ·exact m2e _
    ·exact hc y (.tail _ hy)
   refine⟨b1,?_⟩
   rw[k1c]at b3 hs
   rw[a0Q]at b3 hl
   show(Txt.join (Str.ofString ".") (istr (v-3)::ps)).length<=_
   exact om123 hl hs e1 b3 hv
theorem p2w {k r v:Str}(hk:k=T "SunOS"∨k=T "win32"∨k=T ""∨k=T "Linux"∨k=T "win16")(ha:Asc r)(hu:95∉r.cps.toList)(hl:r.length<=190):p6a k r v:=by
 have hlen:∀p∈Txt.split r (T "."),p.length<=190:=fun p hp=>a0H (k3i r p (by rw[k1v];exact hp)) hl
 have hp:∀p∈Txt.split r (T "."),PartOk p:=fun p hp=>k5b ha hu p (by rw[k1v];exact hp)
 have zr:∀p∈Txt.split r (T "."),(reprText p).length<=sizeLine:=fun p h=>m1s (hp p h).asc (a0H (hlen p h) (by decide))
 have ir:∀p∈Txt.split r (T "."),∀n,PySem.intText? p=some n ->(n-3).natAbs.log2<1920∧(PySem.Str.ofString (toString (n-3))).length<=1000:=fun p h n hn=>by
  rw[m0e (hp p h).asc (hp p h).nou (a0H (hlen p h) (by decide))]at hn
  rw[k5r]
  have h1:=(m0m hn).2
  have h2:=hlen p h
  have e1:p.length=p.cps.toList.length:=rfl
  exact⟨m0f hn (a0H h2 (by decide)) (by decide),by exact om349 e1 h1 h2⟩
 have hap:=p5z ha hu
 by_cases hs:k=T "SunOS"
 ·subst hs
  cases hc:k1x (T "SunOS") r with
  |false=>
   have eK:k1k (T "SunOS") r=T "SunOS":=by unfold k1k;rw[hc,if_neg (by decide),if_neg (by decide+kernel)]
   have eI:k1n (T "SunOS") r=r:=by unfold k1n;rw[hc,if_neg (by decide)]
   have hm:=k4w (T "SunOS") (by decide+kernel)
   refine⟨?_,zr,ir,?_,?_,?_,?_,hm.2⟩
   ·rw[eK,eI];unfold k1w;rw[if_pos (by decide+kernel),if_pos (a3N ((m8v r).mpr hc))]
   ·rw[eK];exact hm.1
   ·rw[eI];exact ha
   ·rw[eK];exact hm.2
   ·rw[eI];exact om137
  |true=>
   have eK:k1k (T "SunOS") r=T "Solaris":=by unfold k1k;rw[hc,if_pos rfl]
   have eI:k1n (T "SunOS") r=Txt.join (Str.ofString ".") (k1j r):=by unfold k1n;rw[hc,if_pos rfl]
   have hm:=k4w (T "Solaris") (by decide+kernel)
   refine⟨?_,zr,ir,?_,?_,?_,?_,(k4w (T "SunOS") (by decide+kernel)).2⟩
   ·rw[eK,eI];unfold k1w
    rw[if_pos (by decide+kernel),if_neg (fun q=>by rw[(m8v r).mp (of_decide_eq_true q)]at hc;cases hc),p5y ha hu (a0H hl (by decide))]
   ·rw[eK];exact hm.1
   ·rw[eI];exact hap.1
   ·rw[eK];exact hm.2
   ·rw[eI];exact hap.2
 ·have hf:k1x k r=false:=p0p (by simpa using hs)
  have eI:k1n k r=r:=by unfold k1n;rw[hf,if_neg (by decide)]
  have key:(k1w k r v=[k1k k r,r,v])∧k1k k r∈[T "Solaris",T "SunOS",T "Windows",T "",T "Linux"]∧k.length<=7:=by
   unfold k1w k1k
   rw[hf,if_neg (show¬(k==T "SunOS")=true by simpa using hs),if_neg (show¬(false=true) by decide)]
   rcases hk with rfl|rfl|rfl|rfl|rfl
   ·exact absurd rfl hs
   ·rw[if_pos (by decide+kernel),if_pos (by decide+kernel)];exact⟨rfl,by decide+kernel,by decide+kernel⟩
   ·rw[if_neg (by decide+kernel),if_neg (by decide+kernel)];exact⟨rfl,by decide+kernel,by decide+kernel⟩
   ·rw[if_neg (by decide+kernel),if_neg (by decide+kernel)];exact⟨rfl,by decide+kernel,by decide+kernel⟩
   ·rw[if_pos (by decide+kernel),if_pos (by decide+kernel)];exact⟨rfl,by decide+kernel,by decide+kernel⟩
  have hm:=k4w _ key.2.1
  exact⟨by rw[eI];exact key.1,zr,ir,hm.1,by rw[eI];exact ha,hm.2,by rw[eI];exact om137,key.2.2⟩
theorem p0m {x:Str}(h:Asc x):PyData.strOk x=true:=by
 have:=m6i (l:=x.cps.toList) h
 rwa[k2k]at this
theorem p5f {k:Str}(h:k∈kindsL):Asc (blankF k):=by
 have:∀x∈kindsL,∀c∈(blankF x).cps.toList,32<=c∧c<127:=by decide+kernel
 exact this k h
theorem p1t:PartOk (Str.ofString ""):=⟨(k6k 0).asc,(k6k 0).nou,a0H (k6k 0).dots (by decide)⟩
theorem rf_all {k i n b:Str}(h:IsRec k i n b):∃a0 a1 pl p0 p1,RF k i n b a0 a1 pl p0 p1:=by
 refine an3 (p4g h) fun t1 t2 t3=>?_
 have l1:(blankF i).length<=21:=t1.len
 have l2:(blankF n).length<=35:=t2.len
 have l3:b.length<=14:=t3.len
 have A:=p2w (v:=blankF n) (p1z h.1) t1.asc t1.nou (a0H l1 (by decide))
 have V:=p3a t2.asc t2.nou (a0H l2 (by decide)) ⟨t3.asc,t3.nou,t3.dots⟩ (a0H l3 (by decide))
 refine an4 (m8p V) fun m1 m2 m3 m4=>?_
 have l4:(k0o (blankF n) b).length<=58:=om293 m3 l3 l2
 have W:=p3a m1 m2 (a0H l4 (by decide)) p1t (by decide+kernel)
 have a1:=A.l1
 have a0:=A.l0
 have n0:m4h (safeL [k1k (blankF k) (blankF i),k1n (blankF k) (blankF i)]):=p1f A.asc0 A.asc1 (om217 a1 l1 a0)
 have n1:=p1g m1 (a0H l4 (by decide))
 refine⟨k1k (blankF k) (blankF i),k1n (blankF k) (blankF i),k0o (blankF n) b,m1r [k1k (blankF k) (blankF i),k1n (blankF k) (blankF i)],m1r [k0o (blankF n) b],?_⟩
 refine {okg:= ?_,lk:=a0H A.lk (by decide),li:=a0H l1 (by decide),ln:=a0H l2 (by decide),lb:=a0H l3 (by decide),zr:=A.zr,ir:=A.ir,al:=A.al,alk:=rfl,ali:=rfl,zv:=V.zv,iv:=V.iv,rv:=V.rv,ver:=V.eq,nor:=rfl,lpl:=a0H l4 (by decide),zw:=W.zv,iw:=W.iv,rw':=W.rv,ver1:=W.eq,la0:=a0H a0 (by decide),la1:=om298 a1 l1,asc0:=A.asc0,asc1:=A.asc1,asc2:=m1,e0:=m1t ?_,s0:=rfl,e1:=m1t ?_,s1:=rfl,q:=pf_all n0 n1.1 (a0H n1.2 (a0H m4 (by decide)))}
 ·intro x hx
  simp only[a0G,a0Z,a5C]at hx
  rcases hx with rfl|rfl|rfl
  ·exact p0m (p5f h.1)
  ·exact p0m t1.asc
  ·exact p0m t2.asc
 ·intro x hx
  simp only[a0G,a0Z,a5C]at hx
  rcases hx with rfl|rfl
  ·exact A.asc0
  ·exact A.asc1
 ·intro x hx
  rw[a0B.mp hx];exact m1
theorem p1r:m1c:=⟨fun _ _ _ _ h=>rf_all h,fun _ _ h=>pl_gq h,m8j,pl_rel,p4j⟩
theorem whole:PySem.Challenge.rw_in0310_01.Holds:=m9a p1r
end Mine
theorem PySem.Challenge.cw_in0310_01_holds : PySem.Challenge.rw_in0310_01.Holds :=
 Mine.whole
